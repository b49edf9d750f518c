import JvmDerived
import JvmDerived.Pilot.@@N@@Statement
import JvmDerived.Pilot.@@N@@Code
set_option linter.unusedVariables false
set_option linter.unusedSimpArgs false
/- laws to paste: Road.backV, Road.codOf (cut by pick.py; bodies as the Statement names them) -/
namespace Jvm.Pilot.@@N@@
namespace StrChars
open Jvm Sem ClassFile Op Lib Jvm.Stand Jvm.Free.XT Jvm.Free.ALB Jvm.Free.JM Jvm.Free
open Jvm.Lib.Cold (StaticIs)
/-- a char array whose places are chars -/
def Ch (a : Addr) (A : Cell) (U : State) : Prop := Arr .char a A U ∧ Typed .char A
theorem Ch.mv {a : Addr} {A : Cell} {U U' : State} (h : Ch a A U) (hal : U.vm.Alike U'.vm) (hh : U'.heap = U.heap) : Ch a A U' := ⟨h.1.mv hal hh, h.2⟩
theorem Ch.keep {a : Addr} {A : Cell} {U U' : State} (h : Ch a A U) (hal : U.vm.Alike U'.vm) (hk : U'.heap[a]? = some A) : Ch a A U' := ⟨h.1.keep hal hk, h.2⟩
/-- what place i of a char[]'s cell holds -/
def cv (A : Cell) (i : Nat) : Int32 := match A.slots[i]? with | some (.int x) => x | _ => 0
theorem Ch.get {a : Addr} {A : Cell} {U : State} (h : Ch a A U) {i : Nat} (hi : i < A.slots.size) : A.slots[i]? = some (.int (cv A i)) := by
  have e := Array.getElem?_eq_getElem hi
  have f := h.2 i _ e
  unfold cv; rw [e]
  generalize A.slots[i] = v at f
  cases v <;> simp [fits] at f ⊢
/-- the byte that i2b leaves of a char -/
def lo8 (x : Int32) : Int32 := x.toInt8.toInt32
theorem fits_lo8 (y : Int32) : fits .byte (.int (lo8 y)) = true := by
  have h1 := y.toInt8.le_toInt
  have h2 := y.toInt8.toInt_lt
  simp only [lo8, fits, Bool.and_eq_true, decide_eq_true_eq, Int32.le_iff_toInt_le, Int8.toInt_toInt32, show (-128 : Int32).toInt = -128 from by decide, show (127 : Int32).toInt = 127 from by decide]
  omega
/-- A' is A but that each place j of lo .. hi - 1 holds f j -/
def Laid (A A' : Cell) (lo hi : Nat) (f : Nat → Value) : Prop := A'.cls = A.cls ∧ A'.vm = A.vm ∧ A'.slots.size = A.slots.size ∧ ∀ i, A'.slots[i]? = if lo ≤ i ∧ i < hi then some (f i) else A.slots[i]?
theorem Laid.zero (A : Cell) (lo : Nat) (f : Nat → Value) : Laid A A lo (lo + 0) f := ⟨rfl, rfl, rfl, fun i => by rw [if_neg (by omega)]⟩
theorem Laid.step {A Ak : Cell} {lo k : Nat} {f : Nat → Value} {v : Value} (h : Laid A Ak lo k f) (hlo : lo ≤ k) (hk : k < Ak.slots.size) (hv : v = f k) : Laid A (Ak.setSlot k v) lo (k + 1) f := by
  refine ⟨h.1, h.2.1, by simpa [Cell.setSlot] using h.2.2.1, fun i => ?_⟩
  by_cases e : k = i
  · subst e; rw [Cell.slots_setSlot_self v hk, if_pos (by omega), hv]
  · rw [Cell.slots_setSlot_ne v e, h.2.2.2 i]
    by_cases q : lo ≤ i ∧ i < k
    · rw [if_pos q, if_pos (by omega)]
    · rw [if_neg q, if_neg (by omega)]
def U16 : String := "java/lang/StringUTF16"
namespace Cmp5
def yN : MethodName := ⟨"java/lang/StringUTF16", "compress", "([CI[BII)I"⟩
abbrev yB : ByteArray := jdk_52_method_21_code
theorem d0 : decode yB 0 = .ok (.iconst 0, 1) := by decide +kernel
theorem d1 : decode yB 1 = .ok (.istore 5, 2) := by decide +kernel
theorem d3 : decode yB 3 = .ok (.iload 5, 2) := by decide +kernel
theorem d5 : decode yB 5 = .ok (.iload 4, 2) := by decide +kernel
theorem d7 : decode yB 7 = .ok (.if_icmp (.ge) 37, 3) := by decide +kernel
theorem d10 : decode yB 10 = .ok (.aload_n 0, 1) := by decide +kernel
theorem d11 : decode yB 11 = .ok (.iload_n 1, 1) := by decide +kernel
theorem d12 : decode yB 12 = .ok (.caload, 1) := by decide +kernel
theorem d13 : decode yB 13 = .ok (.istore 6, 2) := by decide +kernel
theorem d15 : decode yB 15 = .ok (.iload 6, 2) := by decide +kernel
theorem d17 : decode yB 17 = .ok (.sipush 255, 3) := by decide +kernel
theorem d20 : decode yB 20 = .ok (.if_icmp (.le) 6, 3) := by decide +kernel
theorem d26 : decode yB 26 = .ok (.aload_n 2, 1) := by decide +kernel
theorem d27 : decode yB 27 = .ok (.iload_n 3, 1) := by decide +kernel
theorem d28 : decode yB 28 = .ok (.iload 6, 2) := by decide +kernel
theorem d30 : decode yB 30 = .ok (.i2b, 1) := by decide +kernel
theorem d31 : decode yB 31 = .ok (.bastore, 1) := by decide +kernel
theorem d32 : decode yB 32 = .ok (.iinc 1 1, 3) := by decide +kernel
theorem d35 : decode yB 35 = .ok (.iinc 3 1, 3) := by decide +kernel
theorem d38 : decode yB 38 = .ok (.iinc 5 1, 3) := by decide +kernel
theorem d41 : decode yB 41 = .ok (.goto (-38), 3) := by decide +kernel
theorem d44 : decode yB 44 = .ok (.iload 4, 2) := by decide +kernel
theorem d46 : decode yB 46 = .ok (.ireturn, 1) := by decide +kernel
def site : List Cond := []
def tab : Cond := tabOf yN yB 7 (some .int) site
def P (b : Addr) (A : Cell) (d : Addr) (B : Cell) (o q len : Nat) (args : Array Value) (s : State) : Prop := args = #[.ref b, .int (Int32.ofNat o), .ref d, .int (Int32.ofNat q), .int (Int32.ofNat len)] ∧ Ch b A s ∧ Arr .byte d B s ∧ b ≠ d ∧ o + len ≤ A.slots.size ∧ q + len ≤ B.slots.size ∧ ∀ i, i < len → ¬ 255 < cv A (o + i)
def E (b : Addr) (A : Cell) (d : Addr) (B : Cell) (o q len : Nat) (r : Option Value) (s u : State) : Prop := r = some (.int (Int32.ofNat len)) ∧ ∃ B', Put d B' s u ∧ Laid B B' q (q + len) (fun j => Value.int (lo8 (cv A (o + (j - q)))))
/-- no char of the range above 255: len; the places written hold each char's low byte -/
theorem law (l : Launch) (b : Addr) (A : Cell) (d : Addr) (B : Cell) (o q len : Nat) : Law l yN 5 5 0 0 yB 7 (some .int) site (P b A d B o q len) (E b A d B o q len) (copyLocs d q len) 0 0 := by
  refine Law.of_walk (plainFor_of_name (by decide +kernel)) (by decide +kernel) (by decide +kernel) (by decide) (fun _ _ h => by rw [h.1]; rfl) (fun _ U U' hal hh h => ⟨h.1, h.2.1.mv hal hh, h.2.2.1.mv hal hh, h.2.2.2⟩) (fun r U U' V V' h1 hal h2 h => ⟨h.1, h.2.elim fun B' q => ⟨B', q.1.mv h1 h2, q.2⟩⟩) ?_
  intro p e s m args below meth c s₁ X0 hexec hbytes hml hret hlk hnm hown hh0 W hP
  obtain ⟨rfl, hA, hB, hne, l1, l2, hp⟩ := hP
  have c1 : Steps p.tables e below (s₁.setTop (entryFrame m #[.ref b, .int (Int32.ofNat o), .ref d, .int (Int32.ofNat q), .int (Int32.ofNat len)] 7)) (s₁.setTop (mkF m 0 #[.val (.ref b), .val (.int (Int32.ofNat o)), .val (.ref d), .val (.int (Int32.ofNat q)), .val (.int (Int32.ofNat len)), .unset, .unset] [])) := entry rfl
  have hA0 := hA.1.mv X0.warmed.alike hh0
  have hB0 := hB.mv X0.warmed.alike hh0
  have a31 := hA.1.2.2.2
  have c2 : Steps p.tables e below (s₁.setTop (entryFrame m #[.ref b, .int (Int32.ofNat o), .ref d, .int (Int32.ofNat q), .int (Int32.ofNat len)] 7)) (s₁.setTop (mkF m 3 #[.val (.ref b), .val (.int (Int32.ofNat o)), .val (.ref d), .val (.int (Int32.ofNat q)), .val (.int (Int32.ofNat len)), .val (.int 0), .unset] [])) := c1.trans (by
    refine iconstV X0.here hexec rfl 0 (hb hbytes d0) (by decide) ?_
    refine XS.istore X0.here hexec rfl (hb hbytes d1) rfl rfl ?_
    exact Steps.refl _)
  have loop : ∀ (r i : Nat), i + r = len → ∀ (z : Slot), (z = .unset ∨ ∃ w, z = .val w ∧ w.category = 1) → ∀ (Tl : State) (Bk : Cell), Stand p l e { frames := 0, locals := 0, cells := 0, slots := 0 } s m #[.ref b, .int (Int32.ofNat o), .ref d, .int (Int32.ofNat q), .int (Int32.ofNat len)] below meth c Tl ([] ++ copyLocs d q i) 0 0 → Put d Bk s₁ Tl → Laid B Bk q (q + i) (fun j => Value.int (lo8 (cv A (o + (j - q))))) →
      Steps p.tables e below (s₁.setTop (entryFrame m #[.ref b, .int (Int32.ofNat o), .ref d, .int (Int32.ofNat q), .int (Int32.ofNat len)] 7)) (Tl.setTop (mkF m 3 #[.val (.ref b), .val (.int (Int32.ofNat (o + i))), .val (.ref d), .val (.int (Int32.ofNat (q + i))), .val (.int (Int32.ofNat len)), .val (.int (Int32.ofNat i)), z] [])) → ∃ (T' : State) (B' : Cell) (z' : Slot), Stand p l e { frames := 0, locals := 0, cells := 0, slots := 0 } s m #[.ref b, .int (Int32.ofNat o), .ref d, .int (Int32.ofNat q), .int (Int32.ofNat len)] below meth c T' ([] ++ copyLocs d q len) 0 0 ∧ Put d B' s₁ T' ∧ Laid B B' q (q + len) (fun j => Value.int (lo8 (cv A (o + (j - q))))) ∧
      Steps p.tables e below (s₁.setTop (entryFrame m #[.ref b, .int (Int32.ofNat o), .ref d, .int (Int32.ofNat q), .int (Int32.ofNat len)] 7)) (T'.setTop (mkF m 3 #[.val (.ref b), .val (.int (Int32.ofNat (o + len))), .val (.ref d), .val (.int (Int32.ofNat (q + len))), .val (.int (Int32.ofNat len)), .val (.int (Int32.ofNat len)), z'] [])) := by
    intro r
    induction r with
    | zero =>
      intro i hi z hz Tl Bk Xl pl fl cl
      have hil : i = len := by omega
      rw [hil] at Xl fl cl
      exact ⟨Tl, Bk, z, Xl, pl, fl, cl⟩
    | succ r ih =>
      intro i hi z hz Tl Bk Xl pl fl cl
      have all := X0.warmed.alike.symm.trans Xl.warmed.alike
      have hAl := hA0.keep all (pl.other hne hA0.1)
      have hBk := hB0.like all pl.1 fl.1 fl.2.1 fl.2.2.1
      have hlt : q + i < Bk.slots.size := by rw [fl.2.2.1]; omega
      have c3 : Steps p.tables e below (s₁.setTop (entryFrame m #[.ref b, .int (Int32.ofNat o), .ref d, .int (Int32.ofNat q), .int (Int32.ofNat len)] 7)) (Tl.setTop (mkF m 12 #[.val (.ref b), .val (.int (Int32.ofNat (o + i))), .val (.ref d), .val (.int (Int32.ofNat (q + i))), .val (.int (Int32.ofNat len)), .val (.int (Int32.ofNat i)), z] [.int (Int32.ofNat (o + i)), .ref b])) := cl.trans (by
        refine XS.iload Xl.here hexec rfl (hb hbytes d3) rfl ?_
        refine XS.iload Xl.here hexec rfl (hb hbytes d5) rfl ?_
        refine XS.icmpNo Xl.here hexec rfl (hb hbytes d7) rfl (ii_ge_f (lt32 (by omega) (by omega))) ?_
        refine XS.aloadN Xl.here hexec rfl (hb hbytes d10) rfl rfl ?_
        refine XS.iloadN Xl.here hexec rfl (hb hbytes d11) rfl ?_
        exact Steps.refl _)
      have c4 : Steps p.tables e below (s₁.setTop (entryFrame m #[.ref b, .int (Int32.ofNat o), .ref d, .int (Int32.ofNat q), .int (Int32.ofNat len)] 7)) (Tl.setTop (mkF m 13 #[.val (.ref b), .val (.int (Int32.ofNat (o + i))), .val (.ref d), .val (.int (Int32.ofNat (q + i))), .val (.int (Int32.ofNat len)), .val (.int (Int32.ofNat i)), z] [.int (cv A (o + i))])) := c3.trans (by
        refine Xl.aget hexec hAl rfl (hA.get (i := o + i) (by omega)) rfl rfl (hb hbytes d12) ?_
        exact Steps.refl _)
      have c5 : Steps p.tables e below (s₁.setTop (entryFrame m #[.ref b, .int (Int32.ofNat o), .ref d, .int (Int32.ofNat q), .int (Int32.ofNat len)] 7)) (Tl.setTop (mkF m 15 #[.val (.ref b), .val (.int (Int32.ofNat (o + i))), .val (.ref d), .val (.int (Int32.ofNat (q + i))), .val (.int (Int32.ofNat len)), .val (.int (Int32.ofNat i)), .val (.int (cv A (o + i)))] [])) := c4.trans (by
        refine XS.istoreS Xl.here hexec rfl (hb hbytes d13) rfl rfl hz ?_
        exact Steps.refl _)
      have c6 : Steps p.tables e below (s₁.setTop (entryFrame m #[.ref b, .int (Int32.ofNat o), .ref d, .int (Int32.ofNat q), .int (Int32.ofNat len)] 7)) (Tl.setTop (mkF m 31 #[.val (.ref b), .val (.int (Int32.ofNat (o + i))), .val (.ref d), .val (.int (Int32.ofNat (q + i))), .val (.int (Int32.ofNat len)), .val (.int (Int32.ofNat i)), .val (.int (cv A (o + i)))] [.int (lo8 (cv A (o + i))), .int (Int32.ofNat (q + i)), .ref d])) := c5.trans (by
        refine XS.iload Xl.here hexec rfl (hb hbytes d15) rfl ?_
        refine sipushV Xl.here hexec rfl 255 (hb hbytes d17) (by decide) ?_
        refine XS.icmpYes Xl.here hexec rfl (pc0 := 20) rfl (hb hbytes d20) rfl (ii_le_t (hp i (by omega))) (by decide) rfl ?_
        refine XS.aloadN Xl.here hexec rfl (hb hbytes d26) rfl rfl ?_
        refine XS.iloadN Xl.here hexec rfl (hb hbytes d27) rfl ?_
        refine XS.iload Xl.here hexec rfl (hb hbytes d28) rfl ?_
        refine i2b Xl.here hexec rfl (hb hbytes d30) rfl ?_
        exact Steps.refl _)
      obtain ⟨T7, X7, p7, st7⟩ := Xl.aput hexec hBk rfl hlt rfl (fits_lo8 (cv A (o + i))) (g := (mkF m 31 #[.val (.ref b), .val (.int (Int32.ofNat (o + i))), .val (.ref d), .val (.int (Int32.ofNat (q + i))), .val (.int (Int32.ofNat len)), .val (.int (Int32.ofNat i)), .val (.int (cv A (o + i)))] [.int (lo8 (cv A (o + i))), .int (Int32.ofNat (q + i)), .ref d])) rfl (rest := []) rfl (hb hbytes d31)
      have c8 : Steps p.tables e below (s₁.setTop (entryFrame m #[.ref b, .int (Int32.ofNat o), .ref d, .int (Int32.ofNat q), .int (Int32.ofNat len)] 7)) (T7.setTop (mkF m 32 #[.val (.ref b), .val (.int (Int32.ofNat (o + i))), .val (.ref d), .val (.int (Int32.ofNat (q + i))), .val (.int (Int32.ofNat len)), .val (.int (Int32.ofNat i)), .val (.int (cv A (o + i)))] [])) := c6.trans (st7 _ (Steps.refl _))
      have c9 : Steps p.tables e below (s₁.setTop (entryFrame m #[.ref b, .int (Int32.ofNat o), .ref d, .int (Int32.ofNat q), .int (Int32.ofNat len)] 7)) (T7.setTop (mkF m 3 #[.val (.ref b), .val (.int (Int32.ofNat (o + i) + 1)), .val (.ref d), .val (.int (Int32.ofNat (q + i) + 1)), .val (.int (Int32.ofNat len)), .val (.int (Int32.ofNat i + 1)), .val (.int (cv A (o + i)))] [])) := c8.trans (by
        refine iincV X7.here hexec rfl 1 (hb hbytes d32) (by decide) rfl rfl ?_
        refine iincV X7.here hexec rfl 1 (hb hbytes d35) (by decide) rfl rfl ?_
        refine iincV X7.here hexec rfl 1 (hb hbytes d38) (by decide) rfl rfl ?_
        refine XS.goto X7.here hexec rfl (pc0 := 41) rfl (hb hbytes d41) (by decide) rfl ?_
        exact Steps.refl _)
      have c10 : Steps p.tables e below (s₁.setTop (entryFrame m #[.ref b, .int (Int32.ofNat o), .ref d, .int (Int32.ofNat q), .int (Int32.ofNat len)] 7)) (T7.setTop (mkF m 3 #[.val (.ref b), .val (.int (Int32.ofNat (o + (i + 1)))), .val (.ref d), .val (.int (Int32.ofNat (q + (i + 1)))), .val (.int (Int32.ofNat len)), .val (.int (Int32.ofNat (i + 1))), .val (.int (cv A (o + i)))] [])) := by
        have := c9
        rw [succ32, succ32, succ32] at this
        exact this
      exact ih (i + 1) (by omega) _ (Or.inr ⟨_, rfl, rfl⟩) T7 _ (by rw [copyLocs_step, ← List.append_assoc]; exact X7) (pl.trans p7) (fl.step (by omega) hlt (by simp)) c10
  obtain ⟨T9, B9, z9, X9, p9, f9, g9⟩ := loop len 0 (by omega) .unset (Or.inl rfl) s₁ B (by simpa [copyLocs] using X0) ⟨hB0.1, fun _ _ => rfl, rfl⟩ (Laid.zero _ _ _) c2
  have c11 : Steps p.tables e below (s₁.setTop (entryFrame m #[.ref b, .int (Int32.ofNat o), .ref d, .int (Int32.ofNat q), .int (Int32.ofNat len)] 7)) (T9.setTop (mkF m 46 #[.val (.ref b), .val (.int (Int32.ofNat (o + len))), .val (.ref d), .val (.int (Int32.ofNat (q + len))), .val (.int (Int32.ofNat len)), .val (.int (Int32.ofNat len)), z9] [.int (Int32.ofNat len)])) := g9.trans (by
    refine XS.iload X9.here hexec rfl (hb hbytes d3) rfl ?_
    refine XS.iload X9.here hexec rfl (hb hbytes d5) rfl ?_
    refine XS.icmpYes X9.here hexec rfl (pc0 := 7) rfl (hb hbytes d7) rfl (ii_ge_t (nlt32 (by omega) (Nat.le_refl _))) (by decide) rfl ?_
    refine XS.iload X9.here hexec rfl (hb hbytes d44) rfl ?_
    exact Steps.refl _)
  exact ⟨T9, some (.int (Int32.ofNat len)), _, _, _, X9, by simp, rfl, rfl, (fun h => by cases h), ⟨rfl, B9, p9.from hh0, f9⟩, fun fs hl => c11.trans (X9.ireturnOut hexec hret rfl (Or.inl rfl) (hb hbytes d46) hl)⟩
end Cmp5
namespace Cmp3
def yN : MethodName := ⟨"java/lang/StringUTF16", "compress", "([CII)[B"⟩
abbrev yB : ByteArray := jdk_52_method_16_code
theorem d0 : decode yB 0 = .ok (.iload_n 2, 1) := by decide +kernel
theorem d1 : decode yB 1 = .ok (.newarray .byte, 2) := by decide +kernel
theorem d3 : decode yB 3 = .ok (.astore_n 3, 1) := by decide +kernel
theorem d4 : decode yB 4 = .ok (.aload_n 0, 1) := by decide +kernel
theorem d5 : decode yB 5 = .ok (.iload_n 1, 1) := by decide +kernel
theorem d6 : decode yB 6 = .ok (.aload_n 3, 1) := by decide +kernel
theorem d7 : decode yB 7 = .ok (.iconst 0, 1) := by decide +kernel
theorem d8 : decode yB 8 = .ok (.iload_n 2, 1) := by decide +kernel
theorem d9 : decode yB 9 = .ok (.invokestatic 115, 3) := by decide +kernel
theorem d12 : decode yB 12 = .ok (.istore 4, 2) := by decide +kernel
theorem d14 : decode yB 14 = .ok (.iload 4, 2) := by decide +kernel
theorem d16 : decode yB 16 = .ok (.iload_n 2, 1) := by decide +kernel
theorem d17 : decode yB 17 = .ok (.if_icmp (.eq) 40, 3) := by decide +kernel
theorem d57 : decode yB 57 = .ok (.aload_n 3, 1) := by decide +kernel
theorem d58 : decode yB 58 = .ok (.areturn, 1) := by decide +kernel
def site : List Cond := [.arrayClass .byte, Cmp5.tab] ++ staticW U16 115 Cmp5.yN
def tab : Cond := tabOf yN yB 6 (some (.array .byte)) site
def P (b : Addr) (A : Cell) (o len : Nat) (args : Array Value) (s : State) : Prop := args = #[.ref b, .int (Int32.ofNat o), .int (Int32.ofNat len)] ∧ Ch b A s ∧ o + len ≤ A.slots.size ∧ len ≤ 536870912 ∧ ∀ i, i < len → ¬ 255 < cv A (o + i)
def E (b : Addr) (A : Cell) (o len : Nat) (r : Option Value) (s u : State) : Prop := NewArr .byte "[B" len (fun j => .int (lo8 (cv A (o + j)))) r s u ∧ u.heap.size = s.heap.size + 1
/-- no char of the range above 255: a new byte[] of their low bytes -/
theorem law (l : Launch) (b : Addr) (A : Cell) (o len : Nat) : Law l yN 3 3 1 18 yB 6 (some (.array .byte)) site (P b A o len) (E b A o len) [] 1 len := by
  refine Law.of_walk (plainFor_of_name (by decide +kernel)) (by decide +kernel) (by decide +kernel) (by decide) (fun _ _ h => by rw [h.1]; rfl) (fun _ U U' hal hh h => ⟨h.1, h.2.1.mv hal hh, h.2.2⟩) (fun r U U' V V' h1 hal h2 h => ⟨NewArr.mv r U U' V V' h1 hal h2 h.1, by rw [h1, h2]; exact h.2⟩) ?_
  intro p e s m args below meth c s₁ X0 hexec hbytes hml hret hlk hnm hown hh0 W hP
  obtain ⟨rfl, hA, l1, l2, hp⟩ := hP
  have a31 := hA.1.2.2.2
  have c1 : Steps p.tables e below (s₁.setTop (entryFrame m #[.ref b, .int (Int32.ofNat o), .int (Int32.ofNat len)] 6)) (s₁.setTop (mkF m 0 #[.val (.ref b), .val (.int (Int32.ofNat o)), .val (.int (Int32.ofNat len)), .unset, .unset, .unset] [])) := entry rfl
  have c2 : Steps p.tables e below (s₁.setTop (entryFrame m #[.ref b, .int (Int32.ofNat o), .int (Int32.ofNat len)] 6)) (s₁.setTop (mkF m 1 #[.val (.ref b), .val (.int (Int32.ofNat o)), .val (.int (Int32.ofNat len)), .unset, .unset, .unset] [.int (Int32.ofNat len)])) := c1.trans (by
    refine XS.iloadN X0.here hexec rfl (hb hbytes d0) rfl ?_
    exact Steps.refl _)
  obtain ⟨T3, B3, X3, ba3, bs3, bv3, bh3, bf3, st3⟩ := X0.anew hexec (atype := .byte) (wk W (.arrayClass .byte)) rfl (by show len * 1 ≤ _; omega) (by omega) (g := (mkF m 1 #[.val (.ref b), .val (.int (Int32.ofNat o)), .val (.int (Int32.ofNat len)), .unset, .unset, .unset] [.int (Int32.ofNat len)])) rfl (hb hbytes d1) (rest := []) rfl (Nat.le_refl _) (by show 0 + len ≤ len; omega)
  rw [hh0] at ba3 st3
  have kp3 : XT.Kept s T3 := (XT.Kept.of_eq hh0).push bh3
  have hA3 := hA.keep X3.warmed.alike (kp3 _ _ hA.1.1)
  have hne : b ≠ s.heap.size := hA.1.ne
  have c4 : Steps p.tables e below (s₁.setTop (entryFrame m #[.ref b, .int (Int32.ofNat o), .int (Int32.ofNat len)] 6)) (T3.setTop (mkF m 3 #[.val (.ref b), .val (.int (Int32.ofNat o)), .val (.int (Int32.ofNat len)), .unset, .unset, .unset] [.ref s.heap.size])) := c2.trans (st3 _ (Steps.refl _))
  have c5 : Steps p.tables e below (s₁.setTop (entryFrame m #[.ref b, .int (Int32.ofNat o), .int (Int32.ofNat len)] 6)) (T3.setTop (mkF m 9 #[.val (.ref b), .val (.int (Int32.ofNat o)), .val (.int (Int32.ofNat len)), .val (.ref s.heap.size), .unset, .unset] [.int (Int32.ofNat len), .int 0, .ref s.heap.size, .int (Int32.ofNat o), .ref b])) := c4.trans (by
    refine XS.astoreN X3.here hexec rfl (hb hbytes d3) rfl rfl rfl ?_
    refine XS.aloadN X3.here hexec rfl (hb hbytes d4) rfl rfl ?_
    refine XS.iloadN X3.here hexec rfl (hb hbytes d5) rfl ?_
    refine XS.aloadN X3.here hexec rfl (hb hbytes d6) rfl rfl ?_
    refine iconstV X3.here hexec rfl 0 (hb hbytes d7) (by decide) ?_
    refine XS.iloadN X3.here hexec rfl (hb hbytes d8) rfl ?_
    exact Steps.refl _)
  obtain ⟨v6, T6, X6, E6, g6⟩ := X3.callS hexec (Cmp5.law l b A s.heap.size B3 o 0 len) hown (wks W (staticW U16 115 Cmp5.yN)) (wk W Cmp5.tab) (W := 0) (Nat.le_of_ble_eq_true rfl) (Nat.le_of_ble_eq_true rfl) (Nat.le_refl _) (by show 0 + len + 0 ≤ len; omega) (g := (mkF m 9 #[.val (.ref b), .val (.int (Int32.ofNat o)), .val (.int (Int32.ofNat len)), .val (.ref s.heap.size), .unset, .unset] [.int (Int32.ofNat len), .int (Int32.ofNat 0), .ref s.heap.size, .int (Int32.ofNat o), .ref b])) rfl (by rw [hml]; rfl) c5 (argsL := [.ref b, .int (Int32.ofNat o), .ref s.heap.size, .int (Int32.ofNat 0), .int (Int32.ofNat len)]) (rest := []) rfl rfl (by show 2 * 0 + 0 ≤ _; decide) (hb hbytes d9) (⟨rfl, hA3, ba3, hne, l1, by rw [bs3]; simp, hp⟩)
  obtain ⟨rfl, B6, p6, f6⟩ := E6
  have c7 : Steps p.tables e below (s₁.setTop (entryFrame m #[.ref b, .int (Int32.ofNat o), .int (Int32.ofNat len)] 6)) (T6.setTop (mkF m 12 #[.val (.ref b), .val (.int (Int32.ofNat o)), .val (.int (Int32.ofNat len)), .val (.ref s.heap.size), .unset, .unset] [.int (Int32.ofNat len)])) := g6
  have c8 : Steps p.tables e below (s₁.setTop (entryFrame m #[.ref b, .int (Int32.ofNat o), .int (Int32.ofNat len)] 6)) (T6.setTop (mkF m 58 #[.val (.ref b), .val (.int (Int32.ofNat o)), .val (.int (Int32.ofNat len)), .val (.ref s.heap.size), .val (.int (Int32.ofNat len)), .unset] [.ref s.heap.size])) := c7.trans (by
    refine XS.istore X6.here hexec rfl (hb hbytes d12) rfl rfl ?_
    refine XS.iload X6.here hexec rfl (hb hbytes d14) rfl ?_
    refine XS.iloadN X6.here hexec rfl (hb hbytes d16) rfl ?_
    refine XS.icmpYes X6.here hexec rfl (pc0 := 17) rfl (hb hbytes d17) rfl (ii_eq_t rfl) (by decide) rfl ?_
    refine XS.aloadN X6.here hexec rfl (hb hbytes d57) rfl rfl ?_
    exact Steps.refl _)
  have X8 := X6.wide (L' := []) (cells' := 1) (slots' := len) (fun x hx hlt => by
    simp only [List.nil_append, copyLocs, List.mem_map, List.mem_range] at hx
    obtain ⟨i, -, rfl⟩ := hx
    exact absurd hlt (Nat.lt_irrefl _)) (Nat.le_refl _) (by omega)
  exact ⟨T6, some (.ref s.heap.size), _, _, _, X8, rfl, rfl, rfl, (fun h => by cases h), ⟨⟨rfl, B6, ba3.like (X3.warmed.alike.symm.trans X6.warmed.alike) p6.1 f6.1 f6.2.1 f6.2.2.1, f6.2.1.trans bv3, by rw [X6.warmed.alike.findClass, f6.1]; exact bf3, by rw [f6.2.2.1, bs3]; simp, fun j hj => by rw [f6.2.2.2 j, if_pos (by omega)]; rfl, kp3.put p6 (Nat.le_refl _)⟩, by rw [p6.2.2, bh3, hh0]; simp⟩, fun fs hl => c8.trans (X8.areturnOut hexec rfl hret rfl (hb hbytes d58) hl)⟩
end Cmp3
namespace CodL
def yN : MethodName := ⟨"java/lang/StringUTF16", "coderFromArrayLen", "([BI)B"⟩
abbrev yB : ByteArray := jdk_52_method_15_code
theorem d0 : decode yB 0 = .ok (.iload_n 1, 1) := by decide +kernel
theorem d1 : decode yB 1 = .ok (.aload_n 0, 1) := by decide +kernel
theorem d2 : decode yB 2 = .ok (.arraylength, 1) := by decide +kernel
theorem d3 : decode yB 3 = .ok (.isub, 1) := by decide +kernel
theorem d4 : decode yB 4 = .ok (.bipush 31, 2) := by decide +kernel
theorem d6 : decode yB 6 = .ok (.iushr, 1) := by decide +kernel
theorem d7 : decode yB 7 = .ok (.i2b, 1) := by decide +kernel
theorem d8 : decode yB 8 = .ok (.ireturn, 1) := by decide +kernel
def site : List Cond := []
def tab : Cond := tabOf yN yB 2 (some .byte) site
def P (d : Addr) (B : Cell) (args : Array Value) (s : State) : Prop := args = #[.ref d, .int (Int32.ofNat B.slots.size)] ∧ Arr .byte d B s
def E (r : Option Value) (s u : State) : Prop := XT.PureE (some (.int 0)) r s u
/-- an array as long as the number of chars: LATIN1 -/
theorem law (l : Launch) (d : Addr) (B : Cell) : Law l yN 2 2 0 0 yB 2 (some .byte) site (P d B) E [] 0 0 := by
  refine Law.of_walk (plainFor_of_name (by decide +kernel)) (by decide +kernel) (by decide +kernel) (by decide) (fun _ _ h => by rw [h.1]; rfl) (fun _ U U' hal hh h => ⟨h.1, h.2.mv hal hh⟩) (fun r U U' V V' h1 hal h2 h => XT.PureE.mv r U U' V V' h1 hal h2 h) ?_
  intro p e s m args below meth c s₁ X0 hexec hbytes hml hret hlk hnm hown hh0 W hP
  obtain ⟨rfl, hB⟩ := hP
  have hB0 := hB.mv X0.warmed.alike hh0
  have c1 : Steps p.tables e below (s₁.setTop (entryFrame m #[.ref d, .int (Int32.ofNat B.slots.size)] 2)) (s₁.setTop (mkF m 0 #[.val (.ref d), .val (.int (Int32.ofNat B.slots.size))] [])) := entry rfl
  have c2 : Steps p.tables e below (s₁.setTop (entryFrame m #[.ref d, .int (Int32.ofNat B.slots.size)] 2)) (s₁.setTop (mkF m 2 #[.val (.ref d), .val (.int (Int32.ofNat B.slots.size))] [.ref d, .int (Int32.ofNat B.slots.size)])) := c1.trans (by
    refine XS.iloadN X0.here hexec rfl (hb hbytes d0) rfl ?_
    refine XS.aloadN X0.here hexec rfl (hb hbytes d1) rfl rfl ?_
    exact Steps.refl _)
  have c3 : Steps p.tables e below (s₁.setTop (entryFrame m #[.ref d, .int (Int32.ofNat B.slots.size)] 2)) (s₁.setTop (mkF m 8 #[.val (.ref d), .val (.int (Int32.ofNat B.slots.size))] [.int (lo8 (ushr (Int32.ofNat B.slots.size - Int32.ofNat B.slots.size) 31))])) := c2.trans (by
    refine X0.alen hexec hB0 rfl rfl (hb hbytes d2) ?_
    refine XS.isub X0.here hexec rfl (hb hbytes d3) rfl ?_
    refine bipushV X0.here hexec rfl 31 (hb hbytes d4) (by decide) ?_
    refine iushr X0.here hexec rfl (hb hbytes d6) rfl ?_
    refine i2b X0.here hexec rfl (hb hbytes d7) rfl ?_
    exact Steps.refl _)
  have e0 : lo8 (ushr (Int32.ofNat B.slots.size - Int32.ofNat B.slots.size) 31) = 0 := by rw [Int32.sub_self]; decide
  rw [e0] at c3
  exact ⟨s₁, some (.int 0), _, _, _, X0, rfl, rfl, rfl, (fun h => by cases h), ⟨rfl, hh0⟩, fun fs hl => c3.trans (X0.ireturnOut hexec hret rfl (Or.inr (Or.inr (Or.inl rfl))) (hb hbytes d8) hl)⟩
end CodL
/-- the String at a is Latin-1 over a new byte[] (the heap's one new cell): the low bytes of the len chars of A from o on; every cell but a is kept -/
def Got (a : Addr) (D : Cell) (fV fC : Field) (A : Cell) (o len : Nat) (r : Option Value) (s u : State) : Prop := r = none ∧ ∃ D' V : Cell, Blank "java/lang/String" a D' u ∧ Same D D' [fV.slot, fC.slot] ∧ D'.slots[fV.slot]? = some (.ref s.heap.size) ∧ D'.slots[fC.slot]? = some (.int 0) ∧ Arr .byte s.heap.size V u ∧ V.vm = .none ∧ u.vm.findClass "[B" = some V.cls ∧ V.slots.size = len ∧ (∀ j, j < len → V.slots[j]? = some (.int (lo8 (cv A (o + j))))) ∧ (∀ (y : Addr) (c : Cell), y ≠ a → s.heap[y]? = some c → u.heap[y]? = some c) ∧ u.heap.size = s.heap.size + 1
theorem Got.mv {a : Addr} {D A : Cell} {fV fC : Field} {o len : Nat} : ∀ r (U U' V V' : State), U'.heap = U.heap → V.vm.Alike V'.vm → V'.heap = V.heap → Got a D fV fC A o len r U V → Got a D fV fC A o len r U' V' :=
  fun r U U' V V' h1 hal h2 ⟨e0, D', X, a1, a2, a3, a4, a5, a6, a7, a8, a9, a10, a11⟩ => ⟨e0, D', X, a1.mv hal h2, a2, by rw [h1]; exact a3, a4, by rw [h1]; exact a5.mv hal h2, a6, by rw [hal.findClass]; exact a7, a8, a9, by rw [h1, h2]; exact a10, by rw [h1, h2]; exact a11⟩
namespace New4
def yN : MethodName := ⟨"java/lang/String", "<init>", "([CIILjava/lang/Void;)V"⟩
abbrev yB : ByteArray := jdk_42_method_149_code
theorem d0 : decode yB 0 = .ok (.aload_n 0, 1) := by decide +kernel
theorem d1 : decode yB 1 = .ok (.invokespecial 1, 3) := by decide +kernel
theorem d4 : decode yB 4 = .ok (.iload_n 3, 1) := by decide +kernel
theorem d5 : decode yB 5 = .ok (.ifCond (.ne) 22, 3) := by decide +kernel
theorem d27 : decode yB 27 = .ok (.getstatic 38, 3) := by decide +kernel
theorem d30 : decode yB 30 = .ok (.ifCond (.eq) 28, 3) := by decide +kernel
theorem d33 : decode yB 33 = .ok (.aload_n 1, 1) := by decide +kernel
theorem d34 : decode yB 34 = .ok (.iload_n 2, 1) := by decide +kernel
theorem d35 : decode yB 35 = .ok (.iload_n 3, 1) := by decide +kernel
theorem d36 : decode yB 36 = .ok (.invokestatic 177, 3) := by decide +kernel
theorem d39 : decode yB 39 = .ok (.astore 5, 2) := by decide +kernel
theorem d41 : decode yB 41 = .ok (.aload_n 0, 1) := by decide +kernel
theorem d42 : decode yB 42 = .ok (.aload 5, 2) := by decide +kernel
theorem d44 : decode yB 44 = .ok (.iload_n 3, 1) := by decide +kernel
theorem d45 : decode yB 45 = .ok (.invokestatic 47, 3) := by decide +kernel
theorem d48 : decode yB 48 = .ok (.putfield 15, 3) := by decide +kernel
theorem d51 : decode yB 51 = .ok (.aload_n 0, 1) := by decide +kernel
theorem d52 : decode yB 52 = .ok (.aload 5, 2) := by decide +kernel
theorem d54 : decode yB 54 = .ok (.putfield 9, 3) := by decide +kernel
theorem d57 : decode yB 57 = .ok (.return_, 1) := by decide +kernel
def site : List Cond := [.fieldLink "java/lang/String" 38 "java/lang/String" "COMPACT_STRINGS" "Z", Cmp3.tab, CodL.tab, .laysFinal "java/lang/String" "java/lang/String" "value" "[B", .fieldLink "java/lang/String" 9 "java/lang/String" "value" "[B", .laysFinal "java/lang/String" "java/lang/String" "coder" "B", .fieldLink "java/lang/String" 15 "java/lang/String" "coder" "B"] ++ objW "java/lang/String" 1 ++ staticW "java/lang/String" 177 Cmp3.yN ++ staticW "java/lang/String" 47 CodL.yN
def tab : Cond := tabOf yN yB 6 none site
def P (a : Addr) (D : Cell) (fV fC : Field) (b : Addr) (A : Cell) (z : Int32) (o len : Nat) (args : Array Value) (s : State) : Prop := args = #[.ref a, .ref b, .int (Int32.ofNat o), .int (Int32.ofNat len), .null] ∧ Blank "java/lang/String" a D s ∧ Found "java/lang/String" "value" "[B" fV s ∧ Found "java/lang/String" "coder" "B" fC s ∧ Ch b A s ∧ StaticIs s "java/lang/String" "COMPACT_STRINGS" "Z" (.int z) ∧ ¬ z = 0 ∧ 0 < len ∧ o + len ≤ A.slots.size ∧ len ≤ 536870912 ∧ ∀ i, i < len → ¬ 255 < cv A (o + i)
def E (a : Addr) (D : Cell) (fV fC : Field) (A : Cell) (o len : Nat) (r : Option Value) (s u : State) : Prop := Got a D fV fC A o len r s u
/-- len > 0, no char of the range above 255: a Latin-1 String of their low bytes -/
theorem law (l : Launch) (a : Addr) (D : Cell) (fV fC : Field) (b : Addr) (A : Cell) (z : Int32) (o len : Nat) : Law l yN 5 4 2 35 yB 6 none site (P a D fV fC b A z o len) (E a D fV fC A o len) [⟨a, fC.slot⟩, ⟨a, fV.slot⟩] 1 len := by
  refine Law.of_walk (plainFor_of_name (by decide +kernel)) (by decide +kernel) (by decide +kernel) (by decide) (fun _ _ h => by rw [h.1]; rfl) (fun _ U U' hal hh h => ⟨h.1, h.2.1.mv hal hh, h.2.2.1.al hal, h.2.2.2.1.al hal, h.2.2.2.2.1.mv hal hh, h.2.2.2.2.2.1.there hal hh, h.2.2.2.2.2.2⟩) (fun r U U' V V' h1 hal h2 h => Got.mv r U U' V V' h1 hal h2 h) ?_
  intro p e s m args below meth c s₁ X0 hexec hbytes hml hret hlk hnm hown hh0 W hP
  obtain ⟨rfl, hB, f1, f2, hA, s1, hz, l0, l1, l2, hp⟩ := hP
  have a31 := hA.1.2.2.2
  have c1 : Steps p.tables e below (s₁.setTop (entryFrame m #[.ref a, .ref b, .int (Int32.ofNat o), .int (Int32.ofNat len), .null] 6)) (s₁.setTop (mkF m 0 #[.val (.ref a), .val (.ref b), .val (.int (Int32.ofNat o)), .val (.int (Int32.ofNat len)), .val .null, .unset] [])) := entry rfl
  have c2 : Steps p.tables e below (s₁.setTop (entryFrame m #[.ref a, .ref b, .int (Int32.ofNat o), .int (Int32.ofNat len), .null] 6)) (s₁.setTop (mkF m 1 #[.val (.ref a), .val (.ref b), .val (.int (Int32.ofNat o)), .val (.int (Int32.ofNat len)), .val .null, .unset] [.ref a])) := c1.trans (by
    refine XS.aloadN X0.here hexec rfl (hb hbytes d0) rfl rfl ?_
    exact Steps.refl _)
  obtain ⟨T3, X3, q3, st3⟩ := X0.oinit hexec hown (wks W (objW "java/lang/String" 1)) (g := (mkF m 1 #[.val (.ref a), .val (.ref b), .val (.int (Int32.ofNat o)), .val (.int (Int32.ofNat len)), .val .null, .unset] [.ref a])) rfl (by rw [hml]; rfl) (rest := []) rfl (hb hbytes d1) (W := 0) (by show 2 * 0 + 0 ≤ _; decide) (Nat.le_of_ble_eq_true rfl) (Nat.le_of_ble_eq_true rfl)
  have hh3 := q3.trans hh0
  have c4 : Steps p.tables e below (s₁.setTop (entryFrame m #[.ref a, .ref b, .int (Int32.ofNat o), .int (Int32.ofNat len), .null] 6)) (T3.setTop (mkF m 27 #[.val (.ref a), .val (.ref b), .val (.int (Int32.ofNat o)), .val (.int (Int32.ofNat len)), .val .null, .unset] [])) := (c2.trans (st3 _ (Steps.refl _))).trans (by
    refine XS.iloadN X3.here hexec rfl (hb hbytes d4) rfl ?_
    refine XS.ifYes X3.here hexec rfl (pc0 := 5) rfl (hb hbytes d5) rfl (i0_ne_t (nz32 (by omega) l0)) (by decide) rfl ?_
    exact Steps.refl _)
  obtain ⟨T5, X5, q5, st5⟩ := X3.sget hexec hown (wk W (.fieldLink "java/lang/String" 38 "java/lang/String" "COMPACT_STRINGS" "Z")) s1 (fun _ _ h => by rw [hh3]; exact h) (g := (mkF m 27 #[.val (.ref a), .val (.ref b), .val (.int (Int32.ofNat o)), .val (.int (Int32.ofNat len)), .val .null, .unset] [])) rfl (hb hbytes d27)
  have hh5 := q5.trans hh3
  have c6 : Steps p.tables e below (s₁.setTop (entryFrame m #[.ref a, .ref b, .int (Int32.ofNat o), .int (Int32.ofNat len), .null] 6)) (T5.setTop (mkF m 30 #[.val (.ref a), .val (.ref b), .val (.int (Int32.ofNat o)), .val (.int (Int32.ofNat len)), .val .null, .unset] [.int z])) := c4.trans (st5 _ (Steps.refl _))
  have c7 : Steps p.tables e below (s₁.setTop (entryFrame m #[.ref a, .ref b, .int (Int32.ofNat o), .int (Int32.ofNat len), .null] 6)) (T5.setTop (mkF m 36 #[.val (.ref a), .val (.ref b), .val (.int (Int32.ofNat o)), .val (.int (Int32.ofNat len)), .val .null, .unset] [.int (Int32.ofNat len), .int (Int32.ofNat o), .ref b])) := c6.trans (by
    refine XS.ifNo X5.here hexec rfl (hb hbytes d30) rfl (i0_eq_f hz) ?_
    refine XS.aloadN X5.here hexec rfl (hb hbytes d33) rfl rfl ?_
    refine XS.iloadN X5.here hexec rfl (hb hbytes d34) rfl ?_
    refine XS.iloadN X5.here hexec rfl (hb hbytes d35) rfl ?_
    exact Steps.refl _)
  obtain ⟨v8, T8, X8, E8, g8⟩ := X5.callS hexec (Cmp3.law l b A o len) hown (wks W (staticW "java/lang/String" 177 Cmp3.yN)) (wk W Cmp3.tab) (W := 0) (Nat.le_of_ble_eq_true rfl) (Nat.le_of_ble_eq_true rfl) (Nat.le_refl _) (by show 0 + len ≤ len; omega) (g := (mkF m 36 #[.val (.ref a), .val (.ref b), .val (.int (Int32.ofNat o)), .val (.int (Int32.ofNat len)), .val .null, .unset] [.int (Int32.ofNat len), .int (Int32.ofNat o), .ref b])) rfl (by rw [hml]; rfl) c7 (argsL := [.ref b, .int (Int32.ofNat o), .int (Int32.ofNat len)]) (rest := []) rfl rfl (by show 2 * 0 + 0 ≤ _; decide) (hb hbytes d36) (⟨rfl, hA.mv X5.warmed.alike hh5, l1, l2, hp⟩)
  obtain ⟨e8, z8⟩ := E8
  obtain ⟨rfl, N, n1, n2, n3, n4, n5, n6⟩ := NewArr.mv _ T5 s _ _ hh5.symm (Vm.Alike.refl _) rfl e8
  rw [hh5] at z8
  have hB1 := hB.keep X8.warmed.alike (n6 _ _ hB.1)
  have hne : s.heap.size ≠ a := (Nat.ne_of_lt (Array.getElem?_eq_some_iff.mp hB.1).1).symm
  have c9 : Steps p.tables e below (s₁.setTop (entryFrame m #[.ref a, .ref b, .int (Int32.ofNat o), .int (Int32.ofNat len), .null] 6)) (T8.setTop (mkF m 39 #[.val (.ref a), .val (.ref b), .val (.int (Int32.ofNat o)), .val (.int (Int32.ofNat len)), .val .null, .unset] [.ref s.heap.size])) := g8
  have c10 : Steps p.tables e below (s₁.setTop (entryFrame m #[.ref a, .ref b, .int (Int32.ofNat o), .int (Int32.ofNat len), .null] 6)) (T8.setTop (mkF m 45 #[.val (.ref a), .val (.ref b), .val (.int (Int32.ofNat o)), .val (.int (Int32.ofNat len)), .val .null, .val (.ref s.heap.size)] [.int (Int32.ofNat N.slots.size), .ref s.heap.size, .ref a])) := by
    have hc : Steps p.tables e below (s₁.setTop (entryFrame m #[.ref a, .ref b, .int (Int32.ofNat o), .int (Int32.ofNat len), .null] 6)) (T8.setTop (mkF m 45 #[.val (.ref a), .val (.ref b), .val (.int (Int32.ofNat o)), .val (.int (Int32.ofNat len)), .val .null, .val (.ref s.heap.size)] [.int (Int32.ofNat len), .ref s.heap.size, .ref a])) := c9.trans (by
      refine XS.astore X8.here hexec rfl (hb hbytes d39) rfl rfl rfl ?_
      refine XS.aloadN X8.here hexec rfl (hb hbytes d41) rfl rfl ?_
      refine XS.aload X8.here hexec rfl (hb hbytes d42) rfl rfl ?_
      refine XS.iloadN X8.here hexec rfl (hb hbytes d44) rfl ?_
      exact Steps.refl _)
    rw [n4]; exact hc
  obtain ⟨v11, T11, X11, E11, g11⟩ := X8.callS hexec (CodL.law l s.heap.size N) hown (wks W (staticW "java/lang/String" 47 CodL.yN)) (wk W CodL.tab) (W := 1) (Nat.le_of_ble_eq_true rfl) (Nat.le_of_ble_eq_true rfl) (Nat.le_refl _) (by show 0 + len + 0 ≤ len; omega) (g := (mkF m 45 #[.val (.ref a), .val (.ref b), .val (.int (Int32.ofNat o)), .val (.int (Int32.ofNat len)), .val .null, .val (.ref s.heap.size)] [.int (Int32.ofNat N.slots.size), .ref s.heap.size, .ref a])) rfl (by rw [hml]; rfl) c10 (argsL := [.ref s.heap.size, .int (Int32.ofNat N.slots.size)]) (rest := [.ref a]) rfl rfl (by show 2 * 0 + (1 + 0) ≤ _; decide) (hb hbytes d45) (⟨rfl, n1⟩)
  obtain ⟨rfl, q11⟩ := E11
  have hB11 := hB1.mv (X8.warmed.alike.symm.trans X11.warmed.alike) q11
  have c12 : Steps p.tables e below (s₁.setTop (entryFrame m #[.ref a, .ref b, .int (Int32.ofNat o), .int (Int32.ofNat len), .null] 6)) (T11.setTop (mkF m 48 #[.val (.ref a), .val (.ref b), .val (.int (Int32.ofNat o)), .val (.int (Int32.ofNat len)), .val .null, .val (.ref s.heap.size)] [.int 0, .ref a])) := g11
  obtain ⟨T13, X13, p13, bl13, sl13, st13⟩ := X11.finit hexec hown (wk W (.fieldLink "java/lang/String" 15 "java/lang/String" "coder" "B")) (Or.inr ⟨_, (wk W (.laysFinal "java/lang/String" "java/lang/String" "coder" "B"))⟩) (Or.inl ⟨rfl, hnm⟩) f2 (Or.inl rfl) hB11 (t := .byte) (by decide +kernel) rfl (g := (mkF m 48 #[.val (.ref a), .val (.ref b), .val (.int (Int32.ofNat o)), .val (.int (Int32.ofNat len)), .val .null, .val (.ref s.heap.size)] [.int 0, .ref a])) rfl (rest := []) rfl (hb hbytes d48)
  have c14 : Steps p.tables e below (s₁.setTop (entryFrame m #[.ref a, .ref b, .int (Int32.ofNat o), .int (Int32.ofNat len), .null] 6)) (T13.setTop (mkF m 54 #[.val (.ref a), .val (.ref b), .val (.int (Int32.ofNat o)), .val (.int (Int32.ofNat len)), .val .null, .val (.ref s.heap.size)] [.ref s.heap.size, .ref a])) := (c12.trans (st13 _ (Steps.refl _))).trans (by
    refine XS.aloadN X13.here hexec rfl (hb hbytes d51) rfl rfl ?_
    refine XS.aload X13.here hexec rfl (hb hbytes d52) rfl rfl ?_
    exact Steps.refl _)
  obtain ⟨T15, X15, p15, bl15, sl15, st15⟩ := X13.finit hexec hown (wk W (.fieldLink "java/lang/String" 9 "java/lang/String" "value" "[B")) (Or.inr ⟨_, (wk W (.laysFinal "java/lang/String" "java/lang/String" "value" "[B"))⟩) (Or.inl ⟨rfl, hnm⟩) f1 (Or.inl rfl) bl13 (t := (.array .byte)) (by decide +kernel) rfl (g := (mkF m 54 #[.val (.ref a), .val (.ref b), .val (.int (Int32.ofNat o)), .val (.int (Int32.ofNat len)), .val .null, .val (.ref s.heap.size)] [.ref s.heap.size, .ref a])) rfl (rest := []) rfl (hb hbytes d54)
  have c16 : Steps p.tables e below (s₁.setTop (entryFrame m #[.ref a, .ref b, .int (Int32.ofNat o), .int (Int32.ofNat len), .null] 6)) (T15.setTop (mkF m 57 #[.val (.ref a), .val (.ref b), .val (.int (Int32.ofNat o)), .val (.int (Int32.ofNat len)), .val .null, .val (.ref s.heap.size)] [])) := c14.trans (st15 _ (Steps.refl _))
  have ap := apart (Or.inr ⟨_, (wk W (.laysFinal "java/lang/String" "java/lang/String" "value" "[B"))⟩) (Or.inr ⟨_, (wk W (.laysFinal "java/lang/String" "java/lang/String" "coder" "B"))⟩) f1 f2 (t₁ := .array .byte) (t₂ := .byte) (by decide +kernel) (by decide +kernel) (by decide)
  have al := X8.warmed.alike.symm.trans X15.warmed.alike
  have n7 : T11.heap[s.heap.size]? = some N := by rw [q11]; exact n1.1
  exact ⟨T15, none, _, _, _, X15, by simp, rfl, by omega, (fun _ => rfl), ⟨rfl, _, N, bl15, ((Same.refl D _).set _ (by simp)).set _ (by simp), sl15, (Cell.slots_setSlot_ne _ ap).trans sl13, n1.keep al (p15.other hne (p13.other hne n7)), n2, by rw [al.findClass]; exact n3, n4, n5, fun y c h1 h2 => p15.other h1 (p13.other h1 (by rw [q11]; exact n6 y c h2)), by rw [p15.2.2, p13.2.2, q11]; exact z8⟩, fun fs hl => c16.trans (X15.returnOut hexec hret (hb hbytes d57) hl)⟩
end New4
namespace New1
def yN : MethodName := ⟨"java/lang/String", "<init>", "([C)V"⟩
abbrev yB : ByteArray := jdk_42_method_3_code
theorem d0 : decode yB 0 = .ok (.aload_n 0, 1) := by decide +kernel
theorem d1 : decode yB 1 = .ok (.aload_n 1, 1) := by decide +kernel
theorem d2 : decode yB 2 = .ok (.iconst 0, 1) := by decide +kernel
theorem d3 : decode yB 3 = .ok (.aload_n 1, 1) := by decide +kernel
theorem d4 : decode yB 4 = .ok (.arraylength, 1) := by decide +kernel
theorem d5 : decode yB 5 = .ok (.aconst_null, 1) := by decide +kernel
theorem d6 : decode yB 6 = .ok (.invokespecial 27, 3) := by decide +kernel
theorem d9 : decode yB 9 = .ok (.return_, 1) := by decide +kernel
def site : List Cond := [New4.tab] ++ initW "java/lang/String" 27 New4.yN
def tab : Cond := tabOf yN yB 2 none site
def P (a : Addr) (D : Cell) (fV fC : Field) (b : Addr) (A : Cell) (z : Int32) (args : Array Value) (s : State) : Prop := args = #[.ref a, .ref b] ∧ Blank "java/lang/String" a D s ∧ Found "java/lang/String" "value" "[B" fV s ∧ Found "java/lang/String" "coder" "B" fC s ∧ Ch b A s ∧ StaticIs s "java/lang/String" "COMPACT_STRINGS" "Z" (.int z) ∧ ¬ z = 0 ∧ 0 < A.slots.size ∧ A.slots.size ≤ 536870912 ∧ ∀ i, i < A.slots.size → ¬ 255 < cv A i
def E (a : Addr) (D : Cell) (fV fC : Field) (A : Cell) (r : Option Value) (s u : State) : Prop := Got a D fV fC A 0 A.slots.size r s u
/-- new String(chars), not empty, no char above 255: a Latin-1 String of their low bytes -/
theorem law (l : Launch) (a : Addr) (D : Cell) (fV fC : Field) (b : Addr) (A : Cell) (z : Int32) : Law l yN 2 1 3 52 yB 2 none site (P a D fV fC b A z) (E a D fV fC A) [⟨a, fC.slot⟩, ⟨a, fV.slot⟩] 1 A.slots.size := by
  refine Law.of_walk (plainFor_of_name (by decide +kernel)) (by decide +kernel) (by decide +kernel) (by decide) (fun _ _ h => by rw [h.1]; rfl) (fun _ U U' hal hh h => ⟨h.1, h.2.1.mv hal hh, h.2.2.1.al hal, h.2.2.2.1.al hal, h.2.2.2.2.1.mv hal hh, h.2.2.2.2.2.1.there hal hh, h.2.2.2.2.2.2⟩) (fun r U U' V V' h1 hal h2 h => Got.mv r U U' V V' h1 hal h2 h) ?_
  intro p e s m args below meth c s₁ X0 hexec hbytes hml hret hlk hnm hown hh0 W hP
  obtain ⟨rfl, hB, f1, f2, hA, s1, hz, l0, l2, hp⟩ := hP
  have c1 : Steps p.tables e below (s₁.setTop (entryFrame m #[.ref a, .ref b] 2)) (s₁.setTop (mkF m 0 #[.val (.ref a), .val (.ref b)] [])) := entry rfl
  have c2 : Steps p.tables e below (s₁.setTop (entryFrame m #[.ref a, .ref b] 2)) (s₁.setTop (mkF m 6 #[.val (.ref a), .val (.ref b)] [.null, .int (Int32.ofNat A.slots.size), .int 0, .ref b, .ref a])) := c1.trans (by
    refine XS.aloadN X0.here hexec rfl (hb hbytes d0) rfl rfl ?_
    refine XS.aloadN X0.here hexec rfl (hb hbytes d1) rfl rfl ?_
    refine iconstV X0.here hexec rfl 0 (hb hbytes d2) (by decide) ?_
    refine XS.aloadN X0.here hexec rfl (hb hbytes d3) rfl rfl ?_
    refine X0.alen hexec (hA.1.mv X0.warmed.alike hh0) rfl rfl (hb hbytes d4) ?_
    refine XS.aconstNull X0.here hexec rfl (hb hbytes d5) ?_
    exact Steps.refl _)
  obtain ⟨v3, T3, X3, E3, g3⟩ := X0.callN hexec (New4.law l a D fV fC b A z 0 A.slots.size) rfl hown (wks W (initW "java/lang/String" 27 New4.yN)) (W New4.tab (by simp only [site, List.mem_cons, List.mem_append, true_or, or_true])) (W := 0) (Nat.le_of_ble_eq_true rfl) (Nat.le_of_ble_eq_true rfl) (Nat.le_refl _) (by show 0 + A.slots.size ≤ A.slots.size; omega) (g := (mkF m 6 #[.val (.ref a), .val (.ref b)] [.null, .int (Int32.ofNat A.slots.size), .int (Int32.ofNat 0), .ref b, .ref a])) rfl (by rw [hml]; rfl) c2 (argsL := [.ref b, .int (Int32.ofNat 0), .int (Int32.ofNat A.slots.size), .null]) (rest := []) rfl rfl (by show 2 * 0 + 0 ≤ _; decide) (hb hbytes d6) (⟨rfl, hB.mv X0.warmed.alike hh0, f1.al X0.warmed.alike, f2.al X0.warmed.alike, hA.mv X0.warmed.alike hh0, s1.there X0.warmed.alike hh0, hz, l0, by omega, l2, fun i hi => by rw [Nat.zero_add]; exact hp i hi⟩)
  have e0 := Got.mv _ s₁ s _ _ hh0.symm (Vm.Alike.refl _) rfl E3
  obtain rfl := e0.1
  have c4 : Steps p.tables e below (s₁.setTop (entryFrame m #[.ref a, .ref b] 2)) (T3.setTop (mkF m 9 #[.val (.ref a), .val (.ref b)] [])) := g3
  exact ⟨T3, none, _, _, _, X3, by simp, rfl, by omega, (fun _ => rfl), e0, fun fs hl => c4.trans (X3.returnOut hexec hret (hb hbytes d9) hl)⟩
theorem pays {l : Launch} {R : Room} {p : Program} {e : Env} {below : List Frame} {s : State} {sargs : Array Value} {len W : Nat} (a : Addr) (D : Cell) (fV fC : Field) (b : Addr) (A : Cell) (z : Int32) (htab : tab.before sargs s = true) (hfr : 4 ≤ R.frames) (hlo : W + 65 ≤ R.locals) :
    Back l R p e below s sargs yN len W (fun A₁ a₁ => A₁.cells + 1 ≤ R.cells ∧ A₁.slots + A.slots.size ≤ R.slots ∧ P a D fV fC b A z a₁ A₁.U) (fun A₁ _ v₁ B₁ => E a D fV fC A v₁ A₁.U B₁.U ∧ B₁.locs = A₁.locs ++ [⟨a, fC.slot⟩, ⟨a, fV.slot⟩] ∧ B₁.cells = A₁.cells + 1 ∧ B₁.slots = A₁.slots + A.slots.size) :=
  (law l a D fV fC b A z).pays htab hfr (by omega)
end New1
end StrChars
namespace StrChars.Road
open Jvm Sem ClassFile Op Lib Jvm.Stand Jvm.Free Jvm.Free.XT
open Jvm.Lib.Cold (StaticIs)
abbrev ST : String := "java/lang/String"
/-- every table word that New1's law asks, flat -/
abbrev words : List Jvm.Cond := [.code New1.yN New1.yB 2 none, .initialized ST, .methodLink ST 27 New4.yN, .instanceMethod New4.yN,
  .code New4.yN New4.yB 6 none, .fieldLink ST 38 ST "COMPACT_STRINGS" "Z", .laysFinal ST ST "value" "[B", .fieldLink ST 9 ST "value" "[B", .laysFinal ST ST "coder" "B", .fieldLink ST 15 ST "coder" "B",
  .methodLink ST 1 Lib.objectInit, .instanceMethod Lib.objectInit, .code Lib.objectInit ⟨#[0xb1]⟩ 1 none, .methodLink ST 177 Cmp3.yN, .static Cmp3.yN, .methodLink ST 47 CodL.yN, .static CodL.yN,
  .code Cmp3.yN Cmp3.yB 6 (some (.array .byte)), .initialized U16, .arrayClass .byte, .methodLink U16 115 Cmp5.yN, .static Cmp5.yN, .code Cmp5.yN Cmp5.yB 7 (some .int), .code CodL.yN CodL.yB 2 (some .byte)]
theorem tab_of {a : Array Value} {s : State} (h : ∀ w ∈ words, w.before a s = true) : New1.tab.before a s = true := by
  have h5 : Cmp5.tab.before a s = true := unparts (wk h (.code Cmp5.yN Cmp5.yB 7 (some .int))) (wks h (.initialized Cmp5.yN.cls :: Cmp5.site))
  have hc : CodL.tab.before a s = true := unparts (wk h (.code CodL.yN CodL.yB 2 (some .byte))) (wks h (.initialized CodL.yN.cls :: CodL.site))
  have q5 : ∀ w ∈ Cmp5.tab :: words, w.before a s = true := fun w hw => (List.mem_cons.mp hw).elim (fun e => e ▸ h5) (h w)
  have h3 : Cmp3.tab.before a s = true := unparts (wk q5 (.code Cmp3.yN Cmp3.yB 6 (some (.array .byte)))) (wks q5 (.initialized Cmp3.yN.cls :: Cmp3.site))
  have q3 : ∀ w ∈ Cmp3.tab :: CodL.tab :: words, w.before a s = true := fun w hw => (List.mem_cons.mp hw).elim (fun e => e ▸ h3) fun hw => (List.mem_cons.mp hw).elim (fun e => e ▸ hc) (h w)
  have h4 : New4.tab.before a s = true := unparts (wk q3 (.code New4.yN New4.yB 6 none)) (wks q3 (.initialized New4.yN.cls :: New4.site))
  have q4 : ∀ w ∈ New4.tab :: words, w.before a s = true := fun w hw => (List.mem_cons.mp hw).elim (fun e => e ▸ h4) (h w)
  exact unparts (wk q4 (.code New1.yN New1.yB 2 none)) (wks q4 (.initialized New1.yN.cls :: New1.site))
/-- the words ride from the start Z to the walk's own state -/
theorem moved {Z s : State} {a0 args : Array Value} (hZ : Z.Warmed39 s.vm) (hw : ∀ d ∈ words, d.before a0 Z = true) : ∀ d ∈ words, d.before args s = true := fun d hd => by
  have q := hw d hd
  have t : ∀ d ∈ words, d = .arrayClass .byte ∨ (d.onTables && d.keepsFace) = true := by decide +kernel
  rcases t d hd with rfl | t
  · exact RoadKit.mvA hZ q
  · exact RoadKit.mv hZ q t
/-- WHAT COMES BACK, over the tables of the start Z: h the heap at the call, h' behind it -/
def Q (Z : State) (x : Addr) (A : Cell) (h : Heap) (v : Option Value) (h' : Heap) (L : List Loc) : Prop := v = none ∧ (∀ y ∈ L, y.base = x) ∧ RoadKit.Keep h h' [x] ∧ h'.size = h.size + 1 ∧ RoadKit.Exa Z h' x ST ∧ RoadKit.Fld Z h' x ST "value" "[B" (.ref h.size) ∧ RoadKit.Fld Z h' x ST "coder" "B" (.int 0) ∧
  (∃ V : Cell, RoadKit.Arr Z h' h.size V .byte ∧ V.vm = .none ∧ Z.vm.findClass "[B" = some V.cls ∧ V.slots.size = A.slots.size ∧ ∀ j, j < A.slots.size → V.slots[j]? = some (.int (lo8 (cv A j)))) ∧
  ∀ (O n d : String) (w : Value), RoadKit.Fld Z h x O n d w → RoadKit.slotOf Z O n d ≠ RoadKit.slotOf Z ST "value" "[B" → RoadKit.slotOf Z O n d ≠ RoadKit.slotOf Z ST "coder" "B" → RoadKit.Fld Z h' x O n d w
/-- **new String(chars) AT A CALL, IN THE ROAD'S FORM**: for specialBack behind newO: x the fresh String, b the char[] with the cell A -/
theorem back {p : Program} {l : Launch} {e : Env} {R : Room} {s : State} {args : Array Value} {below : List Frame} {len W : Nat} {Z : State} {a0 : Array Value} {h : Heap} (hZ : Z.Warmed39 s.vm) (hw : ∀ d ∈ words, d.before a0 Z = true) {kI : Nat} (wi : (Jvm.Cond.instantiable ST kI).before a0 Z = true)
    {x b : Addr} {A : Cell} {z : Int32} {v0 c0 : Value} (E : RoadKit.Exa Z h x ST) (V : RoadKit.Fld Z h x ST "value" "[B" v0) (C : RoadKit.Fld Z h x ST "coder" "B" c0) (K : RoadKit.Arr Z h b A .char) (hty : Typed .char A) (S : RoadKit.Sta Z h ST "COMPACT_STRINGS" "Z" (.int z)) (hz : ¬ z = 0)
    (l0 : 0 < A.slots.size) (l2 : A.slots.size ≤ 536870912) (hp : ∀ i, i < A.slots.size → ¬ 255 < cv A i) (hfr : 4 ≤ R.frames) (hlo : W + 65 ≤ R.locals) :
    Back l R p e below s args New1.yN len W (fun P a => a = #[.ref x, .ref b] ∧ P.U.heap = h ∧ P.cells + 1 ≤ R.cells ∧ P.slots + A.slots.size ≤ R.slots)
      (fun P _ v B => ∃ L, Q Z x A h v B.U.heap L ∧ B.locs = P.locs ++ L ∧ B.cells = P.cells + 1 ∧ B.slots = P.slots + A.slots.size) := by
  intro m meth c P g ig mk a X hg hsize hdg hW hn hp'
  obtain ⟨rfl, rfl, r1, r2⟩ := hp'
  have al : Z.vm.Alike P.U.vm := hZ.alike.trans X.warmed.alike
  obtain ⟨D, cfV, kV, iV, fV, hD, gV, stV, knV, obV, asV, slV⟩ := id V
  obtain ⟨D', cfC, kC, iC, fC, hD', gC, stC, -, -, asC, slC⟩ := id C
  cases hD.symm.trans hD'
  obtain ⟨D2, kD, e1, e2, e3, e4, e5⟩ := id E
  cases hD.symm.trans e1
  obtain ⟨c2, k2, i1, i2, i3, -⟩ := Cond.instantiable_spec wi
  cases e2.symm.trans i1
  cases e3.symm.trans i2
  obtain ⟨kU, u1, u2⟩ := al.2.2 _ _ e3
  have hB : Blank ST x D P.U := ⟨hD, ⟨knV, fun q hq => by rw [hq] at obV; cases obV⟩, by rw [al.findClass]; exact e2, kU, u1, by rw [u2]; exact i3, by rw [u2]; exact e5 i3⟩
  have F1 : Found ST "value" "[B" fV P.U := ⟨SBG.found_only al ⟨cfV, kV, iV, gV⟩, stV⟩
  have F2 : Found ST "coder" "B" fC P.U := ⟨SBG.found_only al ⟨cfC, kC, iC, gC⟩, stC⟩
  have hA : Ch b A P.U := ⟨⟨K.1, State.isArrayOf_alike al K.2.1, K.2.2, by omega⟩, hty⟩
  have hS : StaticIs P.U ST "COMPACT_STRINGS" "Z" (.int z) := by
    obtain ⟨cfS, iS, kS, fS, st, cS, t1, t2, t3, t4, t5, t6, t7⟩ := S
    exact StaticIs.there (s := { Z with heap := P.U.heap }) ⟨cfS, iS, kS, fS, st, cS, t1, t2, t3, t4, t5, (fun q => by rw [q] at t6; cases t6), t7⟩ al rfl
  obtain ⟨v, B, X', ⟨⟨hv, E', V', q1, q2, q3, q4, q5, q6, q7, q8, q9, q10, q11⟩, hl, hc, hs⟩, st⟩ := New1.pays x D fV fC b A z (tab_of (moved hZ hw)) hfr hlo m meth c P g ig mk _ X hg hsize hdg hW hn ⟨r1, r2, rfl, hB, F1, F2, hA, hS, hz, l0, l2, hp⟩
  have al' : Z.vm.Alike B.U.vm := hZ.alike.trans X'.warmed.alike
  have hsz : E'.slots.size = D.slots.size := by
    obtain ⟨-, -, -, kB, w1, w2, w3⟩ := q1
    obtain ⟨kB', y1, y2⟩ := al'.2.2 _ _ e3
    rw [q2.2.1] at w1
    cases w1.symm.trans y1
    rw [w3, e5 i3, y2]
  refine ⟨v, B, X', ⟨_, ⟨hv, ?_, ⟨by omega, fun y cy hy hn' => q10 y cy (by simpa using hn') hy, fun y cy hy => ?_⟩, q11, ⟨E', _, q1.1, by rw [q2.2.1]; exact e2, by rw [q2.2.1]; exact e3, by rw [q2.1]; exact obV, fun _ => by rw [hsz]; exact e5 i3⟩,
    ⟨E', cfV, kV, iV, fV, q1.1, gV, stV, by rw [q2.1]; exact knV, by rw [q2.1]; exact obV, by rw [q2.2.1]; exact asV, q3⟩, ⟨E', cfC, kC, iC, fC, q1.1, gC, stC, by rw [q2.1]; exact knV, by rw [q2.1]; exact obV, by rw [q2.2.1]; exact asC, q4⟩,
    ⟨V', ⟨q5.1, State.isArrayOf_alike al'.symm q5.2.1, q5.2.2.1⟩, q6, by rw [← al'.findClass]; exact q7, q8, fun j hj => by have := q9 j hj; rwa [Nat.zero_add] at this⟩, fun O n d w F n1 n2 => ?_⟩, hl, hc, hs⟩, st⟩
  · intro y hy
    simp only [List.mem_cons, List.not_mem_nil, or_false] at hy
    rcases hy with rfl | rfl <;> rfl
  · by_cases q : y = x
    · subst q
      cases hD.symm.trans hy
      exact ⟨E', q1.1, q2.2.1, q2.1, hsz⟩
    · exact ⟨cy, q10 y cy q hy, rfl, rfl, rfl⟩
  · obtain ⟨D3, cf, k, i, f, g1, g2, g3, g4, g5, g6, g7⟩ := F
    cases hD.symm.trans g1
    simp only [RoadKit.slotOf, g2, gV, gC, Option.map_some, Option.getD_some] at n1 n2
    exact ⟨E', cf, k, i, f, q1.1, g2, g3, by rw [q2.1]; exact g4, by rw [q2.1]; exact g5, by rw [q2.2.1]; exact g6, by rw [q2.2.2 f.slot (by simp [n1, n2])]; exact g7⟩
end StrChars.Road
namespace StrChars.Road
open Jvm Sem ClassFile Op Lib Jvm.Stand Jvm.Free Jvm.Free.XT
/-- WHAT COMES BACK, the byte[] as a list of values -/
def QA (Z : State) (x : Addr) (zn : Int32) (cs : List Int32) (h : Heap) (v : Option Value) (h' : Heap) (L : List Loc) : Prop := v = none ∧ (∀ y ∈ L, y.base = x) ∧ RoadKit.Keep h h' [x] ∧ h'.size = h.size + 1 ∧ RoadKit.Exa Z h' x ST ∧ RoadKit.Fld Z h' x ST "value" "[B" (.ref h.size) ∧ RoadKit.Fld Z h' x ST "coder" "B" (.int 0) ∧
  (∃ kb, Z.vm.findClass "[B" = some kb ∧ RoadKit.Arv Z h' h.size kb .byte zn (cs.map fun c => .int (lo8 c)) (.int 0)) ∧
  ∀ (O n d : String) (w : Value), RoadKit.Fld Z h x O n d w → RoadKit.slotOf Z O n d ≠ RoadKit.slotOf Z ST "value" "[B" → RoadKit.slotOf Z O n d ≠ RoadKit.slotOf Z ST "coder" "B" → RoadKit.Fld Z h' x O n d w
/-- **new String(chars) AT A CALL, THE ARRAYS AS LISTS**: the char[] at b holds cs, not empty, no char above 255 -/
theorem backArv {p : Program} {l : Launch} {e : Env} {R : Room} {s : State} {args : Array Value} {below : List Frame} {len W : Nat} {Z : State} {a0 : Array Value} {h : Heap} (hZ : Z.Warmed39 s.vm) (hw : ∀ d ∈ words, d.before a0 Z = true) {kI : Nat} (wi : (Jvm.Cond.instantiable ST kI).before a0 Z = true)
    {x b : Addr} {k : ClassId} {zn z : Int32} {cs : List Int32} {dv v0 c0 : Value} (E : RoadKit.Exa Z h x ST) (V : RoadKit.Fld Z h x ST "value" "[B" v0) (C : RoadKit.Fld Z h x ST "coder" "B" c0) (K : RoadKit.Arv Z h b k .char zn (cs.map Value.int) dv) (S : RoadKit.Sta Z h ST "COMPACT_STRINGS" "Z" (.int z)) (hz : ¬ z = 0)
    (hlen : zn.toNatClampNeg = cs.length) (h0 : 0 < cs.length) (hbig : cs.length ≤ 536870912) (hall : ∀ c ∈ cs, ¬ 255 < c) (hfr : 4 ≤ R.frames) (hlo : W + 65 ≤ R.locals) :
    Back l R p e below s args New1.yN len W (fun P a => a = #[.ref x, .ref b] ∧ P.U.heap = h ∧ P.cells + 1 ≤ R.cells ∧ P.slots + cs.length ≤ R.slots)
      (fun P _ v B => ∃ L, QA Z x zn cs h v B.U.heap L ∧ B.locs = P.locs ++ L ∧ B.cells = P.cells + 1 ∧ B.slots = P.slots + cs.length) := by
  obtain ⟨A, K1, K2, K3, K4, K5, K6⟩ := K
  have e : A.slots.size = cs.length := K3.trans hlen
  have hat : ∀ (i : Nat) (hi : i < cs.length), A.slots[i]? = some (.int cs[i]) := fun i hi => by rw [K5 i (by omega)]; simp [List.getD_eq_getElem?_getD, hi]
  have hcv : ∀ (i : Nat) (hi : i < cs.length), cv A i = cs[i] := fun i hi => by unfold cv; rw [hat i hi]
  have hty : Typed .char A := fun i v hv => by
    have hi : i < A.slots.size := (Array.getElem?_eq_some_iff.mp hv).1
    have q := K5 i hi
    rw [hv] at q
    rw [Option.some.inj q]
    exact K6 i hi
  refine Back.mono (back hZ hw wi E V C K1 hty S hz (by omega) (by omega) (fun i hi => by rw [hcv i (by omega)]; exact hall _ (List.getElem_mem _)) hfr hlo) (fun P a hp => ⟨hp.1, hp.2.1, hp.2.2.1, by rw [e]; exact hp.2.2.2⟩) (fun P a v B hp hq => ?_)
  obtain ⟨L, ⟨q1, q2, q3, q4, q5, q6, q7, ⟨V', v1, v2, v3, v4, v5⟩, q9⟩, hl, hc, hs⟩ := hq
  refine ⟨L, ⟨q1, q2, q3, q4, q5, q6, q7, ⟨V'.cls, v3, V', v1, rfl, by rw [v4, e, hlen], K4, fun i hi => ?_, fun i hi => ?_⟩, q9⟩, hl, hc, by rw [hs, e]⟩
  · have hi' : i < cs.length := by omega
    rw [v5 i (by omega), hcv i hi']; simp [List.getD_eq_getElem?_getD, hi']
  · have hi' : i < cs.length := by omega
    simp only [List.getD_eq_getElem?_getD, List.getElem?_map, List.getElem?_eq_getElem hi', Option.map_some, Option.getD_some]
    exact fits_lo8 _
end StrChars.Road
namespace StrChars.Road
open Jvm Sem ClassFile Op Lib Jvm.Stand Jvm.Free Jvm.Free.XT
/-- WHAT COMES BACK, in the writer's own shape -/
def QV (Z : State) (x : Addr) (N : Int32) (bs : List Int32) (h : Heap) (n0 : Nat) (v : Option Value) (h' : Heap) (L : List Loc) : Prop := v = none ∧ RoadKit.Fr n0 L ∧ RoadKit.Keep h h' [x] ∧ RoadKit.Exa Z h' x ST ∧ RoadKit.Fld Z h' x ST "coder" "B" (.int 0) ∧
  ∃ (t : Addr) (kb : ClassId), n0 ≤ t ∧ h.size ≤ t ∧ ¬ t = x ∧ RoadKit.Fld Z h' x ST "value" "[B" (.ref t) ∧ RoadKit.Arv Z h' t kb .byte N (bs.map Value.int) (.int 0)
/-- **new String(chars) AT A CALL, FOR THE WRITER**: a char[] of n known ints, each 0 to 255 -/
theorem backV {p : Program} {l : Launch} {e : Env} {R : Room} {s : State} {args : Array Value} {below : List Frame} {len W : Nat} {Z : State} {a0 : Array Value} {h : Heap} (hZ : Z.Warmed39 s.vm) (hw : ∀ d ∈ words, d.before a0 Z = true) {kI : Nat} (wi : (Jvm.Cond.instantiable ST kI).before a0 Z = true)
    {x b : Addr} {kC : ClassId} {cs bs : List Int32} {d v0 c0 : Value} {z N : Int32} {n n0 : Nat} (hx0 : n0 ≤ x) (hh0 : n0 ≤ h.size) (E : RoadKit.Exa Z h x ST) (V : RoadKit.Fld Z h x ST "value" "[B" v0) (C : RoadKit.Fld Z h x ST "coder" "B" c0) (K : RoadKit.Arv Z h b kC .char N (cs.map Value.int) d) (S : RoadKit.Sta Z h ST "COMPACT_STRINGS" "Z" (.int z)) (hz : ¬ z = 0)
    (hn : cs.length = n) (hN : N = Int32.ofNat n) (l0 : 0 < n) (l2 : n ≤ 4000) (hp : ∀ c ∈ cs, ¬ c < 0 ∧ ¬ (255 : Int32) < c) (hb : bs = cs.map (fun c => c.toInt8.toInt32)) (hfr : 4 ≤ R.frames) (hlo : W + 65 ≤ R.locals) :
    Back l R p e below s args (⟨"java/lang/String", "<init>", "([C)V"⟩ : MethodName) len W (fun P a => a = #[.ref x, .ref b] ∧ P.U.heap = h ∧ P.cells + 1 ≤ R.cells ∧ P.slots + n ≤ R.slots)
      (fun P _ v B => ∃ L, QV Z x N bs h n0 v B.U.heap L ∧ B.locs = P.locs ++ L ∧ B.cells = P.cells + 1 ∧ B.slots = P.slots + n) := by
  subst hn hN hb
  refine Back.mono (backArv hZ hw wi E V C K S hz (n32 (by omega)) l0 (by omega) (fun c hc => (hp c hc).2) hfr hlo) (fun P a hp => hp) (fun P a v B hp hq => ?_)
  obtain ⟨L, ⟨q1, q2, q3, q4, q5, q6, q7, ⟨kb, v1, v2⟩, q9⟩, hl, hc, hs⟩ := hq
  exact ⟨L, ⟨q1, fun y hy => by rw [q2 y hy]; exact hx0, q3, q5, q7, h.size, kb, hh0, Nat.le_refl _, Nat.ne_of_gt E.lt, q6, by rw [List.map_map]; exact v2⟩, hl, hc, hs⟩
end StrChars.Road
namespace StrChars
open Jvm Sem ClassFile Op Lib Jvm.Stand Jvm.Free.XT Jvm.Free.ALB Jvm.Free.JM Jvm.Free
open Jvm.Lib.Cold (StaticIs)
def hi8 (x : Int32) : Int32 := lo8 (x >>> ((8 : Int32) &&& 31))
end StrChars
namespace StrChars.Road
open Jvm Sem ClassFile Op Lib Jvm.Stand Jvm.Free Jvm.Free.XT
open Jvm.Lib.Cold (StaticIs)
/-- the bytes of the chars cs, low before high -/
def wideBytes : List Int32 → List Value
  | [] => []
  | c :: cs => .int (lo8 c) :: .int (hi8 c) :: wideBytes cs
/-- an array of N2 bytes vs codes the chars cs by the coder cd -/
def CodA (cs : List Int32) (cd N2 : Int32) (vs : List Value) : Prop := (cd = 0 ∧ N2 = Int32.ofNat cs.length ∧ vs = (cs.map fun c => Value.int (lo8 c)) ∧ ∀ c ∈ cs, ¬ 255 < c) ∨ (cd = 1 ∧ N2 = Int32.ofNat (2 * cs.length) ∧ vs = wideBytes cs ∧ ∃ c ∈ cs, 255 < c)
end StrChars.Road
namespace StrChars.Road
open Jvm Sem ClassFile Op Lib Jvm.Stand Jvm.Free Jvm.Free.XT
open Jvm.Lib.Cold (StaticIs)
/-- what backV says of its String, as the contracts of this text ask it: cs's low bytes, coder 0 -/
theorem codOf {cs : List Int32} {n : Nat} (hn : cs.length = n) (hb : ∀ c ∈ cs, ¬ 255 < c) : CodA cs 0 (Int32.ofNat n) ((cs.map lo8).map Value.int) := Or.inl ⟨rfl, by rw [hn], by simp [List.map_map, Function.comp_def], hb⟩
end StrChars.Road
end Jvm.Pilot.@@N@@
namespace Jvm.Pilot.@@N@@
open Jvm Jvm.ClassFile Sem Op Lib Jvm.Free Jvm.Stand Jvm.LawKit Jvm.RoadKit Bundle Jvm.Pilot.@@N@@.Jvm.D
/-- what a walk owes from a state on: the run comes to a state of which G speaks -/
def own_Go (p : Program) (e : Env) (below : List Frame) (A : State) (G : State → Prop) : Prop := ∃ B, (∀ t, Steps p.tables e below B t → Steps p.tables e below A t) ∧ G B
theorem own_via {p : Program} {e : Env} {below : List Frame} {A B : State} {G : State → Prop} (h : ∀ t, Steps p.tables e below B t → Steps p.tables e below A t) (k : own_Go p e below B G) : own_Go p e below A G := by
  obtain ⟨C, h1, h2⟩ := k
  exact ⟨C, fun t q => h t (h1 t q), h2⟩
theorem own_done {p : Program} {e : Env} {below : List Frame} {A : State} {G : State → Prop} (g : G A) : own_Go p e below A G := ⟨A, fun _ q => q, g⟩
theorem own_bind {p : Program} {e : Env} {below : List Frame} {A : State} {G G' : State → Prop} (h : own_Go p e below A G) (k : ∀ B, G B → own_Go p e below B G') : own_Go p e below A G' := by
  obtain ⟨B, h1, h2⟩ := h
  exact own_via h1 (k B h2)
/-- the method ends here -/
def own_End (p : Program) (e : Env) (below : List Frame) (s : State) (Q : Option Value → Heap → List Loc → Prop) (C S : Nat) (B : State) : Prop :=
  ∃ s₂ o, Steps p.tables e below B s₂ ∧ s₂.status = .running ∧ Ended s₂ below o ∧ ∃ v L, o = .returned v ∧ Q v s₂.heap L ∧ FrameEnd s o s₂ L C S
theorem own_body {p : Program} {e : Env} {below : List Frame} {s A A' : State} {Q : Option Value → Heap → List Loc → Prop} {C S : Nat} (q : ∀ t, Steps p.tables e below A t → Steps p.tables e below A' t) (h : own_Go p e below A (own_End p e below s Q C S)) :
    ∃ s₂ o, Steps p.tables e below A' s₂ ∧ s₂.status = .running ∧ Ended s₂ below o ∧ ∃ v L, o = .returned v ∧ Q v s₂.heap L ∧ FrameEnd s o s₂ L C S := by
  obtain ⟨B, h1, s₂, o, h2, h3⟩ := h
  exact ⟨s₂, o, q _ (h1 _ h2), h3⟩
section Leaf
variable {p : Program} {l : Launch} {e : Env} {R : Room} {s : State} {m : MethodId} {args : Array Value} {below : List Frame} {meth : Method} {c : Code} {T : State} {locs : List Loc} {cells slots : Nat}
theorem own_leaf (X : Stand p l e R s m args below meth c T locs cells slots) (hx : p.tables.exec = Jvm.exec) (hlk : meth.locks = false) {pc : Nat} {Ls : Array Slot} {w : Value} {t : FieldType} {i : Instr} {rest : List Value} (hret : meth.sig.returnType = some t) (hn : narrow t w = w)
    (hi : (i = .ireturn ∧ (t = .int ∨ t = .boolean ∨ t = .byte ∨ t = .char ∨ t = .short) ∧ ∃ z, w = .int z) ∨ (i = .lreturn ∧ t = .long ∧ ∃ z, w = .long z) ∨ (i = .dreturn ∧ t = .double ∧ ∃ z, w = .double z) ∨ (i = .freturn ∧ t = .float ∧ ∃ z, w = .float z) ∨ (i = .areturn ∧ t.isReference = true ∧ w.isRef = true))
    (hd : decode c.code pc = .ok (i, 1)) {Q : Option Value → Heap → List Loc → Prop} {C S : Nat} (hC : cells ≤ C) (hS : slots ≤ S) (hq : Q (some w) T.heap locs) : own_Go p e below (T.setTop (mkF m pc Ls (w :: rest))) (own_End p e below s Q C S) := by
  obtain ⟨fs, hr, hrun, hended, hW, hsame⟩ := X.leave (v := some w) (fun h => by rw [hret] at h; cases h) hlk
  exact own_done ⟨_, _, retOut X hx hret hn hi hd hr, hrun, hended, _, _, rfl, hq, ⟨_, rfl⟩, hW, hsame.mono hC hS⟩
theorem own_leafV (X : Stand p l e R s m args below meth c T locs cells slots) (hx : p.tables.exec = Jvm.exec) (hlk : meth.locks = false) {pc : Nat} {Ls : Array Slot} (hret : meth.sig.returnType = none)
    (hd : decode c.code pc = .ok (.return_, 1)) {Q : Option Value → Heap → List Loc → Prop} {C S : Nat} (hC : cells ≤ C) (hS : slots ≤ S) (hq : Q none T.heap locs) : own_Go p e below (T.setTop (mkF m pc Ls [])) (own_End p e below s Q C S) := by
  obtain ⟨fs, hr, hrun, hended, hW, hsame⟩ := X.leave (v := none) (fun _ => rfl) hlk
  exact own_done ⟨_, _, X.returnOut hx hret hd hr, hrun, hended, _, _, rfl, hq, ⟨_, rfl⟩, hW, hsame.mono hC hS⟩
theorem own_getFR {Z : State} {a0 : Array Value} {h : Heap} (X : Stand p l e R s m args below meth c T locs cells slots) (hx : p.tables.exec = Jvm.exec) (hZ : Z.Warmed39 s.vm) {own R0 O n d : String} {index : Nat} (hown : s.vm.findClass own = some m.cls) (w : (Cond.fieldRef own index R0 n d).before a0 Z = true) (via : Via Z R0 O n d)
    (eT : T.heap = h) {a : Addr} {v : Value} (F : Fld Z h a O n d v) {g : JFrame} (hg : g.method = m) {rest : List Value} (hs : g.stack = .ref a :: rest) (hd : decode c.code g.pc = .ok (.getfield index, 3)) : ∃ T', Stand p l e R s m args below meth c T' locs cells slots ∧ T'.heap = h ∧ ∀ target, Steps p.tables e below (T'.setTop { g with pc := g.pc + 3, stack := v :: rest }) target → Steps p.tables e below (T.setTop g) target := by
  obtain ⟨cell, cf, k, i, f, h1, h2, h3, h4, -, -, h7⟩ := F
  have hW : Z.Warmed39 T.vm := wtrans hZ X.warmed
  have w1 := Cond.fieldRef_warmed39 hW w
  obtain ⟨c', k', i', f', hi, hr⟩ := Cond.fieldRef_spec (cur := m.cls) (show (Z.setVm T.vm).vm.findClass own = some m.cls by show T.vm.findClass own = _; rw [X.warmed.alike.findClass]; exact hown) w1
  obtain ⟨k'', hi', -⟩ := State.fieldFound?_setVm (s := Z) hW.alike (via _ h2)
  cases hi.symm.trans hi'
  refine ⟨T, X, eT, fun target hrest => ?_⟩
  subst hg
  jvm_step X.here [hx, hd, getfield.wp_ready (e := e) (s := T) (f := g) X.here.top hr h3 hs (by rw [eT]; exact h1) h4 h7]
  exact hrest
def own_EndW (p : Program) (e : Env) (below : List Frame) (s : State) (Q : Option Value → Heap → List Loc → Prop) (C S : Nat) (B : State) : Prop :=
  ∃ s₂ o, Steps p.tables e below B s₂ ∧ s₂.status = .running ∧ Ended s₂ below o ∧ ∃ v L, o = .returned v ∧ Q v s₂.heap L ∧ ReturnedEndW s o s₂ L C S
theorem own_bodyW {A A' : State} {Q : Option Value → Heap → List Loc → Prop} {C S : Nat} (q : ∀ t, Steps p.tables e below A t → Steps p.tables e below A' t) (h : own_Go p e below A (own_EndW p e below s Q C S)) :
    ∃ s₂ o, Steps p.tables e below A' s₂ ∧ s₂.status = .running ∧ Ended s₂ below o ∧ ∃ v L, o = .returned v ∧ Q v s₂.heap L ∧ ReturnedEndW s o s₂ L C S := by
  obtain ⟨B, h1, s₂, o, h2, h3⟩ := h
  exact ⟨s₂, o, q _ (h1 _ h2), h3⟩
theorem own_leafW {vm₁ : Vm} (X : Stand p l e R (s.setVm vm₁) m args below meth c T locs cells slots) (hx : p.tables.exec = Jvm.exec) (hlk : meth.locks = false) {n : Nat} (hS : s.Since vm₁ n) (hk : n ≤ T.heap.size) {pc : Nat} {Ls : Array Slot} {w : Value} {t : FieldType} {i : Instr} {rest : List Value} (hret : meth.sig.returnType = some t) (hn : narrow t w = w)
    (hi : (i = .ireturn ∧ (t = .int ∨ t = .boolean ∨ t = .byte ∨ t = .char ∨ t = .short) ∧ ∃ z, w = .int z) ∨ (i = .lreturn ∧ t = .long ∧ ∃ z, w = .long z) ∨ (i = .dreturn ∧ t = .double ∧ ∃ z, w = .double z) ∨ (i = .freturn ∧ t = .float ∧ ∃ z, w = .float z) ∨ (i = .areturn ∧ t.isReference = true ∧ w.isRef = true))
    (hd : decode c.code pc = .ok (i, 1)) {Q : Option Value → Heap → List Loc → Prop} {C S : Nat} (hC : cells ≤ C) (hS' : slots ≤ S) (hq : Q (some w) T.heap locs) : own_Go p e below (T.setTop (mkF m pc Ls (w :: rest))) (own_EndW p e below s Q C S) := by
  obtain ⟨fs, hr, hrun, hended, h1, h2, h3, hsame⟩ := X.leaveW hS hk (v := some w) (fun h => by rw [hret] at h; cases h) hlk
  exact own_done ⟨_, _, retOut X hx hret hn hi hd hr, hrun, hended, _, _, rfl, hq, h1, h2, h3, hsame.mono hC hS'⟩
theorem own_leafVW {vm₁ : Vm} (X : Stand p l e R (s.setVm vm₁) m args below meth c T locs cells slots) (hx : p.tables.exec = Jvm.exec) (hlk : meth.locks = false) {n : Nat} (hS : s.Since vm₁ n) (hk : n ≤ T.heap.size) {pc : Nat} {Ls : Array Slot} (hret : meth.sig.returnType = none)
    (hd : decode c.code pc = .ok (.return_, 1)) {Q : Option Value → Heap → List Loc → Prop} {C S : Nat} (hC : cells ≤ C) (hS' : slots ≤ S) (hq : Q none T.heap locs) : own_Go p e below (T.setTop (mkF m pc Ls [])) (own_EndW p e below s Q C S) := by
  obtain ⟨fs, hr, hrun, hended, h1, h2, h3, hsame⟩ := X.leaveW hS hk (v := none) (fun _ => rfl) hlk
  exact own_done ⟨_, _, X.returnOut hx hret hd hr, hrun, hended, _, _, rfl, hq, h1, h2, h3, hsame.mono hC hS'⟩
def own_bit (P : Prop) [Decidable P] : Int32 := if P then 1 else 0
theorem own_bit01 (P : Prop) [Decidable P] : own_bit P = 0 ∨ own_bit P = 1 := by unfold own_bit; split <;> simp
theorem own_bitT {P : Prop} [Decidable P] (h : P) : own_bit P = 1 := if_pos h
theorem own_bitF {P : Prop} [Decidable P] (h : ¬ P) : own_bit P = 0 := if_neg h
theorem own_bit0 {P : Prop} [Decidable P] : own_bit P = 0 ↔ ¬ P := by unfold own_bit; split <;> simp_all
theorem own_bit1 {P : Prop} [Decidable P] : own_bit P = 1 ↔ P := by unfold own_bit; split <;> simp_all
theorem own_bits {P P' : Prop} [Decidable P] [Decidable P'] (h : P ↔ P') : own_bit P = own_bit P' := by unfold own_bit; simp [h]
theorem own_lt (x y : Int32) : x < y ↔ x.toInt < y.toInt := Int32.lt_iff_toInt_lt
theorem own_eq (x y : Int32) : x = y ↔ x.toInt = y.toInt := Int32.toInt_inj.symm
theorem own_ltL (x y : Int64) : x < y ↔ x.toInt < y.toInt := Int64.lt_iff_toInt_lt
theorem own_eqL (x y : Int64) : x = y ↔ x.toInt = y.toInt := Int64.toInt_inj.symm
theorem own_mask (x : Int32) : 0 ≤ (x &&& (2147483647 : Int32)).toInt := by
  have h : (x &&& (2147483647 : Int32)).toBitVec.msb = false := by
    show (x.toBitVec &&& 2147483647#32).msb = false
    have e : (2147483647#32).msb = false := by decide
    rw [BitVec.msb_and, e]; simp
  have := BitVec.toInt_eq_msb_cond (x &&& (2147483647 : Int32)).toBitVec
  rw [h] at this
  show 0 ≤ (x &&& (2147483647 : Int32)).toBitVec.toInt
  rw [this]
  simp only [Bool.false_eq_true, if_false]
  exact Int.natCast_nonneg _
theorem own_modm (x m : Int32) (hm : 0 < m.toInt) : 0 ≤ ((x &&& (2147483647 : Int32)) % m).toInt ∧ ((x &&& (2147483647 : Int32)) % m).toInt < m.toInt := by
  have h := own_mask x
  rw [Int32.toInt_mod, Int.tmod_eq_emod_of_nonneg h]
  exact ⟨Int.emod_nonneg _ (by omega), Int.emod_lt_of_pos _ hm⟩
theorem own_fb {x : Int32} (h : x = 0 ∨ x = 1) : fits .boolean (.int x) = true := by rcases h with rfl | rfl <;> decide
theorem own_eqI {t : Term} {k : Int32} {args : Array Value} {s : State} (h : (Cond.eq t (Term.int k)).value args s none s [] = some true) : t.eval args s none [] s = some (.int k) := by
  simp only [Cond.value] at h
  have hn : (Term.int k).eval args s none [] s = some (.int k) := rfl
  rw [hn] at h
  cases ht : t.eval args s none [] s with
  | none => simp [ht] at h
  | some v => cases v <;> simp [ht] at h ⊢ <;> first | exact h | (exact h.elim) | simp_all
theorem own_eqJ {t : Term} {k : Int64} {args : Array Value} {s : State} (h : (Cond.eq t (Term.long k)).value args s none s [] = some true) : t.eval args s none [] s = some (.long k) := by
  simp only [Cond.value] at h
  have hn : (Term.long k).eval args s none [] s = some (.long k) := rfl
  rw [hn] at h
  cases ht : t.eval args s none [] s with
  | none => simp [ht] at h
  | some v => cases v <;> simp [ht] at h ⊢ <;> first | exact h | (exact h.elim) | simp_all
theorem own_b1 {x : Int32} (h : x = 0 ∨ x = 1) : narrow .boolean (.int x) = .int x := by rcases h with rfl | rfl <;> rfl
end Leaf

def own_C (c : Int32) : Prop := ¬ c < 0 ∧ ¬ (255 : Int32) < c
theorem own_C256 {c : Int32} (h : own_C c) : ∃ k : Fin 256, c = Int32.ofNat k.val := by
  obtain ⟨h1, h2⟩ := h
  rw [own_lt] at h1 h2
  have e0 : (0 : Int32).toInt = 0 := by decide
  have e1 : (255 : Int32).toInt = 255 := by decide
  rw [e0] at h1; rw [e1] at h2
  refine ⟨⟨c.toInt.toNat, by omega⟩, ?_⟩
  rw [own_eq]
  show _ = (Int32.ofNat c.toInt.toNat).toInt
  rw [Int32.toInt_ofNat_of_lt (by omega)]
  omega
theorem own_i2c {c : Int32} (h : own_C c) : c.toUInt32.toUInt16.toUInt32.toInt32 = c := by
  obtain ⟨k, rfl⟩ := own_C256 h
  exact (by decide +kernel : ∀ k : Fin 256, (Int32.ofNat k.val).toUInt32.toUInt16.toUInt32.toInt32 = Int32.ofNat k.val) k
theorem own_cg {a b : Int32} (e : a = b) (h : own_C a) : own_C b := e ▸ h
theorem own_nc {c : Int32} (h : own_C c) : nar .char c = c := own_i2c h
theorem own_b255 (x : Int32) : own_C (x &&& (255 : Int32)) := by
  have h : (x &&& 255).toBitVec.toNat < 256 := by
    simp only [Int32.toBitVec_and, BitVec.toNat_and]
    exact Nat.lt_succ_of_le Nat.and_le_right
  have e : (x &&& 255) = Int32.ofNat (x &&& 255).toBitVec.toNat := by
    apply Int32.toBitVec_inj.mp
    show _ = BitVec.ofNat 32 _
    rw [BitVec.ofNat_toNat]; simp
  rw [e]
  exact (by decide +kernel : ∀ k : Fin 256, ¬ (Int32.ofNat k.val) < 0 ∧ ¬ (255 : Int32) < (Int32.ofNat k.val)) ⟨_, h⟩
theorem own_cs1 {a : Int32} (h : own_C a) : ∀ c ∈ [a], ¬ c < 0 ∧ ¬ (255 : Int32) < c := fun c hc => by
  simp only [List.mem_cons, List.not_mem_nil, or_false] at hc; subst hc; exact h
theorem own_cs2 {a b : Int32} (h : own_C a) (h' : own_C b) : ∀ c ∈ [a, b], ¬ c < 0 ∧ ¬ (255 : Int32) < c := fun c hc => by
  simp only [List.mem_cons, List.not_mem_nil, or_false] at hc; rcases hc with rfl | rfl
  · exact h
  · exact h'
theorem own_cs3 {a b d : Int32} (h : own_C a) (h' : own_C b) (h2 : own_C d) : ∀ c ∈ [a, b, d], ¬ c < 0 ∧ ¬ (255 : Int32) < c := fun c hc => by
  simp only [List.mem_cons, List.not_mem_nil, or_false] at hc; rcases hc with rfl | rfl | rfl
  · exact h
  · exact h'
  · exact h2
theorem own_eqv {v : Option Value} {P : Prop} [Decidable P] (h : (v = some (.int 1) ∧ P) ∨ (v = some (.int 0) ∧ ¬ P)) : v = some (.int (own_bit P)) := by
  rcases h with ⟨h1, h2⟩ | ⟨h1, h2⟩
  · rw [h1, own_bitT h2]
  · rw [h1, own_bitF h2]
theorem own_up255 {cs : List Int32} (h : ∀ c ∈ cs, ¬ c < 0 ∧ ¬ (255 : Int32) < c) : ∀ c ∈ cs, ¬ c < 0 ∧ ¬ (65535 : Int32) < c := fun c hc => ⟨(h c hc).1, fun q => (h c hc).2 (by rw [Int32.lt_iff_toInt_lt] at q ⊢; have e1 : (65535 : Int32).toInt = 65535 := rfl; have e2 : (255 : Int32).toInt = 255 := rfl; omega)⟩

theorem own_ibW {Z s : State} {vm' : Vm} {Ts : List String} (I : IB Z s.vm Ts) (h : s.WarmedH vm') : IB Z vm' Ts := by
  obtain ⟨more, e, hm⟩ := I
  exact ⟨more, h.interned_eq.trans e, hm⟩
section Ib
variable {p : Program} {l : Launch} {e : Env} {R : Room} {s : State} {args : Array Value} {below : List Frame} {Z : State} {a0 : Array Value} {h : Heap}
/-- a callee that may intern and wants to know that nobody has interned since the start -/
theorem own_backI {y : MethodName} {bytes : ByteArray} {maxL : Nat} {ret : Option FieldType} {rm : Room} {len W : Nat} {as' : Array Value} {Q : Option Value → Heap → List Loc → Prop}
    (hM : MetFree l y (head1 [Cond.code y bytes maxL ret] rm) (fun a U => a = as' ∧ Z.Warmed39 U.vm ∧ U.heap = h ∧ IB Z U.vm []) (fun _ _ _ _ _ => True) (fun _ U o U' => ∃ v L, o = .returned v ∧ Q v U'.heap L ∧ ReturnedEndW U o U' L rm.cells rm.slots))
    (hI : IB Z s.vm []) (hZ : Z.Warmed39 s.vm) (wc : (Cond.code y bytes maxL ret).before a0 Z = true) (wz : (Cond.initialized y.cls).before a0 Z = true) (hf : rm.frames + 1 ≤ R.frames) (hl : W + (maxL + 11) + rm.locals ≤ R.locals) :
    BackS l R p e below s args y len W (fun A a => a = as' ∧ A.U.heap = h ∧ A.cells + rm.cells ≤ R.cells ∧ A.slots + rm.slots ≤ R.slots)
      (fun A _ v B => ∃ L, Q v B.U.heap L ∧ B.locs = A.locs ++ L ∧ B.cells = A.cells + rm.cells ∧ B.slots = A.slots + rm.slots) := by
  refine BackS.of_freeW (bytes := bytes) (maxL := maxL) (ret := ret) (E := fun _ _ o t L k n => k = rm.cells ∧ n = rm.slots ∧ ∃ v, o = .returned v ∧ Q v t.heap L) hM hf hl ?_ ?_ ?_ ?_ ?_
  · intro m meth c A a Y hp
    have hU : Z.Warmed39 A.U.vm := wtrans hZ Y.warmed
    exact ⟨by show (Cond.and _ .tt).before a A.U = true; rw [Cond.before_and, mv hU wc]; rfl, mv hU wc, mv hU wz, hp.2.2.1, hp.2.2.2⟩
  · intro m meth c A a g mk Y hp
    exact ⟨hp.1, wtrans hZ Y.warmed, hp.2.1, own_ibW hI Y.warmed⟩
  · intros; trivial
  · rintro _ _ _ _ ⟨v, L, h1, h2, h3⟩
    exact ⟨L, _, _, h3, rfl, rfl, v, h1, h2⟩
  · rintro m meth c A a g mk v t L k n Y hp _ _ ⟨e1, e2, v', e3, e4⟩
    cases e3; subst e1 e2; exact ⟨L, e4, rfl, rfl, rfl⟩
end Ib

theorem own_b8 (x : Int32) : x.toInt8.toInt32.toInt8.toInt32 = x.toInt8.toInt32 := by simp
theorem own_fl (x k : Int32) : True := trivial
theorem own_pn0 : plainName "java/lang/String" = true := by first | (simp [plainName, overriddenIn]; done) | decide +kernel
theorem own_dE_0 : decode jdk_42_method_149_code 0 = .ok (.aload_n 0, 1) := by decide +kernel
theorem own_dE_1 : decode jdk_42_method_149_code 1 = .ok (.invokespecial 1, 3) := by decide +kernel
theorem own_dE_4 : decode jdk_42_method_149_code 4 = .ok (.iload_n 3, 1) := by decide +kernel
theorem own_dE_5 : decode jdk_42_method_149_code 5 = .ok (.ifCond .ne 22, 3) := by decide +kernel
theorem own_dE_8 : decode jdk_42_method_149_code 8 = .ok (.aload_n 0, 1) := by decide +kernel
theorem own_dE_9 : decode jdk_42_method_149_code 9 = .ok (.ldc 7, 2) := by decide +kernel
theorem own_dE_11 : decode jdk_42_method_149_code 11 = .ok (.getfield 9, 3) := by decide +kernel
theorem own_dE_14 : decode jdk_42_method_149_code 14 = .ok (.putfield 9, 3) := by decide +kernel
theorem own_dE_17 : decode jdk_42_method_149_code 17 = .ok (.aload_n 0, 1) := by decide +kernel
theorem own_dE_18 : decode jdk_42_method_149_code 18 = .ok (.ldc 7, 2) := by decide +kernel
theorem own_dE_20 : decode jdk_42_method_149_code 20 = .ok (.getfield 15, 3) := by decide +kernel
theorem own_dE_23 : decode jdk_42_method_149_code 23 = .ok (.putfield 15, 3) := by decide +kernel
theorem own_dE_26 : decode jdk_42_method_149_code 26 = .ok (.return_, 1) := by decide +kernel
theorem own_efE (m : MethodId) (x0 : Addr) (x1 : Addr) (x2 : Int32) (x3 : Int32) : entryFrame m #[(.ref x0), (.ref x1), (.int x2), (.int x3), .null] 6 = mkF m 0 #[.val (.ref x0), .val (.ref x1), .val (.int x2), .val (.int x3), .val .null, .unset] [] := by first | (simp [entryFrame, mkF, argsToLocals, Value.category]; done) | rfl
def QE (Z : State) (x1 : Addr) (b1 : Addr) (o1 : Int32) (l1 : Int32) (u1 : Value) (h0 : Heap) (n0 : Nat) (v : Option Value) (h : Heap) (L : List Loc) : Prop := v = none ∧ Fr n0 L ∧ Keep h0 h [x1]
set_option maxRecDepth 65536 in
set_option maxHeartbeats 40000000 in
theorem rmE (l : Launch) (Z : State) (a0 : Array Value) (hw : ∀ d ∈ tables_1, d.before a0 Z = true) (ws : List Jvm.Cond) (x1 : Addr) (b1 : Addr) (o1 : Int32) (l1 : Int32) (u1 : Value) (h0 : Heap) (n0 : Nat) (Z0 : n0 ≤ h0.size) (O0 : Old Z n0 h0) (hch : Jvm.Lit.constHeld Z "java/lang/String" 7) (hcw : Jvm.Lit.compactW.before a0 Z = true) (E1 : Exa Z h0 x1 "java/lang/String") (Fv : Fld Z h0 x1 "java/lang/String" "value" "[B" .null) (Fc : Fld Z h0 x1 "java/lang/String" "coder" "B" u1) (g_x1 : n0 ≤ x1) (hl : l1 = (0 : Int32)) :
    MetFree l (⟨"java/lang/String", "<init>", "([CIILjava/lang/Void;)V"⟩ : MethodName) (head1 (Jvm.Cond.code (⟨"java/lang/String", "<init>", "([CIILjava/lang/Void;)V"⟩ : MethodName) jdk_42_method_149_code 6 none :: ws) ({ frames := 1, cells := 2, slots := 4, locals := 12 } : Room)) (fun a U => a = #[(.ref x1), (.ref b1), (.int o1), (.int l1), .null] ∧ Z.Warmed39 U.vm ∧ U.heap = h0 ∧ IB Z U.vm []) (fun _ _ _ _ _ => True) (fun _ U o U' => ∃ v L, o = .returned v ∧ QE Z x1 b1 o1 l1 u1 h0 n0 v U'.heap L ∧ ReturnedEndW U o U' L ({ frames := 1, cells := 2, slots := 4, locals := 12 } : Room).cells ({ frames := 1, cells := 2, slots := 4, locals := 12 } : Room).slots) := by
  refine MetFree.of_bodySF (plainFor_of_name own_pn0) hisR ?_
  intro p e s m args below meth c s₁ Bd hml0 hP hK
  obtain ⟨rfl, hZ, hh, hI⟩ := hP
  have hx := Bd.exec
  have hby := Bd.bytes
  have hlk : meth.locks = false := Bd.notSynchronized
  have hml : c.maxLocals = 6 := hml0
  have hown : s.vm.findClass "java/lang/String" = some m.cls := findClass_of_methodNamed Bd.named
  have hnm := (name_of_methodNamed Bd.named Bd.method).1
  have X0 : Stand p l e ({ frames := 1, cells := 2, slots := 4, locals := 12 } : Room) (s.setVm s.vm) m #[(.ref x1), (.ref b1), (.int o1), (.int l1), .null] below meth c s₁ [] 0 0 := Stand.of_body Bd
  have e0 : s₁.heap = h0 := by rw [← hh, Bd.state]; rfl
  have N0 := Fr.nil n0
  have hS0 : s.Since s.vm h0.size := (State.WarmedH.refl s).since _
  have hk0 : h0.size ≤ h0.size := Nat.le_refl _
  have wS : ∀ a ∈ Bundle.stringAtoms, a.before a0 Z = true := by
    intro a ha
    simp only [Bundle.stringAtoms, List.mem_cons, List.not_mem_nil, or_false] at ha
    rcases ha with rfl | rfl | rfl | rfl | rfl | rfl | rfl
    · exact (hw _ (List.mem_of_getElem? (i := 6) rfl))
    · exact (hw _ (List.mem_of_getElem? (i := 5) rfl))
    · exact (hw _ (List.mem_of_getElem? (i := 19) rfl))
    · exact (hw _ (List.mem_of_getElem? (i := 20) rfl))
    · exact (hw _ (List.mem_of_getElem? (i := 21) rfl))
    · exact (hw _ (List.mem_of_getElem? (i := 22) rfl))
    · exact (hw _ (List.mem_of_getElem? (i := 23) rfl))
  refine own_bodyW (A := s₁.setTop (mkF m 0 #[.val (.ref x1), .val (.ref b1), .val (.int o1), .val (.int l1), .val .null, .unset] [])) (Q := QE Z x1 b1 o1 l1 u1 h0 n0) (fun t k => castTop (own_efE m x1 b1 o1 l1) k) ?_
  refine own_via (B := s₁.setTop (mkF m 1 #[.val (.ref x1), .val (.ref b1), .val (.int o1), .val (.int l1), .val .null, .unset] [(.ref x1)])) (fun t k => XS.aloadN X0.here hx rfl (hb hby own_dE_0) rfl rfl k) ?_
  obtain ⟨T1, X1, e1, st1⟩ := initO X0 hx hZ hown (hw _ (List.mem_of_getElem? (i := 15) rfl)) (hw _ (List.mem_of_getElem? (i := 16) rfl)) (hw _ (List.mem_of_getElem? (i := 17) rfl)) e0 (g := (mkF m 1 #[.val (.ref x1), .val (.ref b1), .val (.int o1), .val (.int l1), .val .null, .unset] [(.ref x1)])) rfl (by rw [hml]; rfl) rfl (hb hby own_dE_1) (by decide) (W := 0) (by show 2 * 0 + _ ≤ _; exact Nat.le_of_eq rfl) (by decide)
  refine own_via (B := T1.setTop (mkF m 4 #[.val (.ref x1), .val (.ref b1), .val (.int o1), .val (.int l1), .val .null, .unset] [])) (fun t k => st1 t k) ?_
  refine own_via (B := T1.setTop (mkF m 5 #[.val (.ref x1), .val (.ref b1), .val (.int o1), .val (.int l1), .val .null, .unset] [(.int l1)])) (fun t k => XS.iloadN X1.here hx rfl (hb hby own_dE_4) rfl k) ?_
  have hc5 : l1 = (0 : Int32) := hl
  refine own_via (B := T1.setTop (mkF m 8 #[.val (.ref x1), .val (.ref b1), .val (.int o1), .val (.int l1), .val .null, .unset] [])) (fun t k => XS.ifNo X1.here hx rfl (hb hby own_dE_5) rfl ((if0 _ _).trans (teq hc5).2) k) ?_
  refine own_via (B := T1.setTop (mkF m 9 #[.val (.ref x1), .val (.ref b1), .val (.int o1), .val (.int l1), .val .null, .unset] [(.ref x1)])) (fun t k => XS.aloadN X1.here hx rfl (hb hby own_dE_8) rfl rfl k) ?_
  obtain ⟨c2, T2, h2, k2, t2, kt2, X2, e2, E2, hS2, hk2, hZ, hown, gE2, gC2, gV2, gA2, la2, lb2, hI2, hlit_c2, st2⟩ := ldcSVL X1 hx hZ hown (hw _ (List.mem_of_getElem? (i := 18) rfl)) wS e1 hS0 hk0 (Fr.nil _) (fun b cl q => by show s.heap[b]? = some cl; rw [hh]; exact O0.2.2 b cl q) hI (by simp) hch hcw (vs := ([] : List Int32).map Value.int) (z := (0 : Int32)) (by decide) (by decide) (by decide) (g := (mkF m 9 #[.val (.ref x1), .val (.ref b1), .val (.int o1), .val (.int l1), .val .null, .unset] [(.ref x1)])) rfl (hb hby own_dE_9) (n := 0) (by decide) (by decide) (by decide) (by decide)
  refine own_via (B := T2.setTop (mkF m 11 #[.val (.ref x1), .val (.ref b1), .val (.int o1), .val (.int l1), .val .null, .unset] [(.ref c2), (.ref x1)])) (fun t k => st2 t k) ?_
  obtain ⟨T3, X3, e3, st3⟩ := getF X2 hx hZ hown (host := "") (Or.inl (hw _ (List.mem_of_getElem? (i := 24) rfl))) Via.refl e2 gV2 (g := (mkF m 11 #[.val (.ref x1), .val (.ref b1), .val (.int o1), .val (.int l1), .val .null, .unset] [(.ref c2), (.ref x1)])) rfl rfl (hb hby own_dE_11)
  refine own_via (B := T3.setTop (mkF m 14 #[.val (.ref x1), .val (.ref b1), .val (.int o1), .val (.int l1), .val .null, .unset] [(.ref t2), (.ref x1)])) (fun t k => st3 t k) ?_
  obtain ⟨T4, h4, X4, e4, W4, st4⟩ := putF X3 hx hZ hown (host := "") (Or.inl (hw _ (List.mem_of_getElem? (i := 24) rfl))) Via.refl e3 (Fv.ext E2) (E1.ext E2) (Or.inr ⟨(hw _ (List.mem_of_getElem? (i := 20) rfl)), rfl, hnm⟩) (hw _ (List.mem_of_getElem? (i := 5) rfl)) (ty := (.array .byte)) (by decide) rfl rfl (g := (mkF m 14 #[.val (.ref x1), .val (.ref b1), .val (.int o1), .val (.int l1), .val .null, .unset] [(.ref t2), (.ref x1)])) rfl rfl (hb hby own_dE_14)
  have Fw4 := (Fv.ext E2).same W4
  have N4 := Fr.snoc X4 N0 g_x1
  refine own_via (B := T4.setTop (mkF m 17 #[.val (.ref x1), .val (.ref b1), .val (.int o1), .val (.int l1), .val .null, .unset] [])) (fun t k => st4 t k) ?_
  refine own_via (B := T4.setTop (mkF m 18 #[.val (.ref x1), .val (.ref b1), .val (.int o1), .val (.int l1), .val .null, .unset] [(.ref x1)])) (fun t k => XS.aloadN X4.here hx rfl (hb hby own_dE_17) rfl rfl k) ?_
  refine own_via (B := T4.setTop (mkF m 20 #[.val (.ref x1), .val (.ref b1), .val (.int o1), .val (.int l1), .val .null, .unset] [(.ref c2), (.ref x1)])) (fun t k => ldcAgain X4 hx hZ hown (hw _ (List.mem_of_getElem? (i := 18) rfl)) hlit_c2 (g := (mkF m 18 #[.val (.ref x1), .val (.ref b1), .val (.int o1), .val (.int l1), .val .null, .unset] [(.ref x1)])) rfl (hb hby own_dE_18) t k) ?_
  obtain ⟨T5, X5, e5, st5⟩ := getF X4 hx hZ hown (host := "") (Or.inl (hw _ (List.mem_of_getElem? (i := 25) rfl))) Via.refl e4 (gC2.other W4 (Or.inl (Fld.ne gV2 (Fv.ext E2) nofun))) (g := (mkF m 20 #[.val (.ref x1), .val (.ref b1), .val (.int o1), .val (.int l1), .val .null, .unset] [(.ref c2), (.ref x1)])) rfl rfl (hb hby own_dE_20)
  refine own_via (B := T5.setTop (mkF m 23 #[.val (.ref x1), .val (.ref b1), .val (.int o1), .val (.int l1), .val .null, .unset] [(.int (0 : Int32)), (.ref x1)])) (fun t k => st5 t k) ?_
  obtain ⟨T6, h6, X6, e6, W6, st6⟩ := putFN X5 hx hZ hown (hw _ (List.mem_of_getElem? (i := 25) rfl)) Via.refl e5 ((Fc.ext E2).other W4 (Or.inr (slot_ne (Or.inr (hw _ (List.mem_of_getElem? (i := 21) rfl))) (Or.inr (hw _ (List.mem_of_getElem? (i := 20) rfl))) (by decide +kernel) (t := .byte) (t' := (.array .byte)) (by decide +kernel) (by decide +kernel)))) ((E1.ext E2).wr W4) (Or.inr ⟨(hw _ (List.mem_of_getElem? (i := 21) rfl)), rfl, hnm⟩) (hw _ (List.mem_of_getElem? (i := 5) rfl)) (ty := .byte) (v' := (.int (0 : Int32))) (by decide) (by decide) (by decide) (g := (mkF m 23 #[.val (.ref x1), .val (.ref b1), .val (.int o1), .val (.int l1), .val .null, .unset] [(.int (0 : Int32)), (.ref x1)])) rfl rfl (hb hby own_dE_23)
  have Fw6 := ((Fc.ext E2).other W4 (Or.inr (slot_ne (Or.inr (hw _ (List.mem_of_getElem? (i := 21) rfl))) (Or.inr (hw _ (List.mem_of_getElem? (i := 20) rfl))) (by decide +kernel) (t := .byte) (t' := (.array .byte)) (by decide +kernel) (by decide +kernel)))).same W6
  have N6 := Fr.snoc X6 N4 g_x1
  refine own_via (B := T6.setTop (mkF m 26 #[.val (.ref x1), .val (.ref b1), .val (.int o1), .val (.int l1), .val .null, .unset] [])) (fun t k => st6 t k) ?_
  refine own_leafVW X6 hx hlk hS2 (by rw [e6]; exact (Nat.le_trans (Nat.le_trans hk2 (Keep.of_wr W4).1) (Keep.of_wr W6).1)) Bd.returns (hb hby own_dE_26) (by decide) (by decide) ?_
  show QE Z x1 b1 o1 l1 u1 h0 n0 _ T6.heap _
  rw [e6]
  refine ⟨?_, N6, ((((Keep.refl h0 [x1]).ext E2).wr W4 (Or.inl (List.mem_of_getElem? (i := 0) rfl))).wr W6 (Or.inl (List.mem_of_getElem? (i := 0) rfl)))⟩
  rfl
theorem own_pd0 : parseMethodDescriptor "([CIILjava/lang/Void;)V" = some ⟨[(.array .char), .int, .int, (.object "java/lang/Void")], none⟩ := by decide +kernel
theorem own_dF_0 : decode jdk_42_method_3_code 0 = .ok (.aload_n 0, 1) := by decide +kernel
theorem own_dF_1 : decode jdk_42_method_3_code 1 = .ok (.aload_n 1, 1) := by decide +kernel
theorem own_dF_2 : decode jdk_42_method_3_code 2 = .ok (.iconst 0, 1) := by decide +kernel
theorem own_dF_3 : decode jdk_42_method_3_code 3 = .ok (.aload_n 1, 1) := by decide +kernel
theorem own_dF_4 : decode jdk_42_method_3_code 4 = .ok (.arraylength, 1) := by decide +kernel
theorem own_dF_5 : decode jdk_42_method_3_code 5 = .ok (.aconst_null, 1) := by decide +kernel
theorem own_dF_6 : decode jdk_42_method_3_code 6 = .ok (.invokespecial 27, 3) := by decide +kernel
theorem own_dF_9 : decode jdk_42_method_3_code 9 = .ok (.return_, 1) := by decide +kernel
theorem own_efF (m : MethodId) (x0 : Addr) (x1 : Addr) : entryFrame m #[(.ref x0), (.ref x1)] 2 = mkF m 0 #[.val (.ref x0), .val (.ref x1)] [] := by first | (simp [entryFrame, mkF, argsToLocals, Value.category]; done) | rfl
def QF (Z : State) (x2 : Addr) (b2 : Addr) (u1 : Value) (k2 : ClassId) (h0 : Heap) (n0 : Nat) (v : Option Value) (h : Heap) (L : List Loc) : Prop := v = none ∧ Fr n0 L ∧ Keep h0 h [x2]
set_option maxRecDepth 65536 in
set_option maxHeartbeats 40000000 in
theorem rmF (l : Launch) (Z : State) (a0 : Array Value) (hw : ∀ d ∈ tables_1, d.before a0 Z = true) (ws : List Jvm.Cond) (x2 : Addr) (b2 : Addr) (u1 : Value) (k2 : ClassId) (h0 : Heap) (n0 : Nat) (Z0 : n0 ≤ h0.size) (O0 : Old Z n0 h0) (hch : Jvm.Lit.constHeld Z "java/lang/String" 7) (hcw : Jvm.Lit.compactW.before a0 Z = true) (E2 : Exa Z h0 x2 "java/lang/String") (Fv : Fld Z h0 x2 "java/lang/String" "value" "[B" .null) (Fc : Fld Z h0 x2 "java/lang/String" "coder" "B" u1) (g_x2 : n0 ≤ x2) (V2 : Arv Z h0 b2 k2 .char (0 : Int32) [] (.int (0 : Int32))) :
    MetFree l (⟨"java/lang/String", "<init>", "([C)V"⟩ : MethodName) (head1 (Jvm.Cond.code (⟨"java/lang/String", "<init>", "([C)V"⟩ : MethodName) jdk_42_method_3_code 2 none :: ws) ({ frames := 2, cells := 2, slots := 4, locals := 31 } : Room)) (fun a U => a = #[(.ref x2), (.ref b2)] ∧ Z.Warmed39 U.vm ∧ U.heap = h0 ∧ IB Z U.vm []) (fun _ _ _ _ _ => True) (fun _ U o U' => ∃ v L, o = .returned v ∧ QF Z x2 b2 u1 k2 h0 n0 v U'.heap L ∧ ReturnedEndW U o U' L ({ frames := 2, cells := 2, slots := 4, locals := 31 } : Room).cells ({ frames := 2, cells := 2, slots := 4, locals := 31 } : Room).slots) := by
  refine MetFree.of_bodySF (plainFor_of_name own_pn0) hisR ?_
  intro p e s m args below meth c s₁ Bd hml0 hP hK
  obtain ⟨rfl, hZ, hh, hI⟩ := hP
  have hx := Bd.exec
  have hby := Bd.bytes
  have hlk : meth.locks = false := Bd.notSynchronized
  have hml : c.maxLocals = 2 := hml0
  have hown : s.vm.findClass "java/lang/String" = some m.cls := findClass_of_methodNamed Bd.named
  have hnm := (name_of_methodNamed Bd.named Bd.method).1
  have X0 : Stand p l e ({ frames := 2, cells := 2, slots := 4, locals := 31 } : Room) (s.setVm s.vm) m #[(.ref x2), (.ref b2)] below meth c s₁ [] 0 0 := Stand.of_body Bd
  have e0 : s₁.heap = h0 := by rw [← hh, Bd.state]; rfl
  have N0 := Fr.nil n0
  have hS0 : s.Since s.vm h0.size := (State.WarmedH.refl s).since _
  have hk0 : h0.size ≤ h0.size := Nat.le_refl _
  have wS : ∀ a ∈ Bundle.stringAtoms, a.before a0 Z = true := by
    intro a ha
    simp only [Bundle.stringAtoms, List.mem_cons, List.not_mem_nil, or_false] at ha
    rcases ha with rfl | rfl | rfl | rfl | rfl | rfl | rfl
    · exact (hw _ (List.mem_of_getElem? (i := 6) rfl))
    · exact (hw _ (List.mem_of_getElem? (i := 5) rfl))
    · exact (hw _ (List.mem_of_getElem? (i := 19) rfl))
    · exact (hw _ (List.mem_of_getElem? (i := 20) rfl))
    · exact (hw _ (List.mem_of_getElem? (i := 21) rfl))
    · exact (hw _ (List.mem_of_getElem? (i := 22) rfl))
    · exact (hw _ (List.mem_of_getElem? (i := 23) rfl))
  refine own_bodyW (A := s₁.setTop (mkF m 0 #[.val (.ref x2), .val (.ref b2)] [])) (Q := QF Z x2 b2 u1 k2 h0 n0) (fun t k => castTop (own_efF m x2 b2) k) ?_
  refine own_via (B := s₁.setTop (mkF m 1 #[.val (.ref x2), .val (.ref b2)] [(.ref x2)])) (fun t k => XS.aloadN X0.here hx rfl (hb hby own_dF_0) rfl rfl k) ?_
  refine own_via (B := s₁.setTop (mkF m 2 #[.val (.ref x2), .val (.ref b2)] [(.ref b2), (.ref x2)])) (fun t k => XS.aloadN X0.here hx rfl (hb hby own_dF_1) rfl rfl k) ?_
  refine own_via (B := s₁.setTop (mkF m 3 #[.val (.ref x2), .val (.ref b2)] [(.int (0 : Int32)), (.ref b2), (.ref x2)])) (fun t k => XS.iconst X0.here hx rfl (hb hby own_dF_2) k) ?_
  refine own_via (B := s₁.setTop (mkF m 4 #[.val (.ref x2), .val (.ref b2)] [(.ref b2), (.int (0 : Int32)), (.ref b2), (.ref x2)])) (fun t k => XS.aloadN X0.here hx rfl (hb hby own_dF_3) rfl rfl k) ?_
  obtain ⟨cl1, Ar1, q1, S1, M1, H1, G1⟩ := id V2
  refine own_via (B := s₁.setTop (mkF m 5 #[.val (.ref x2), .val (.ref b2)] [(.int (0 : Int32)), (.int (0 : Int32)), (.ref b2), (.ref x2)])) (fun t k => X0.arraylength hx (by rw [e0]; exact Ar1.1) (State.isArrayOf_alike hZ.alike Ar1.2.1) (g := (mkF m 4 #[.val (.ref x2), .val (.ref b2)] [(.ref b2), (.int (0 : Int32)), (.ref b2), (.ref x2)])) rfl rfl (hb hby own_dF_4) _ (by rw [len_of S1 M1]; exact k)) ?_
  refine own_via (B := s₁.setTop (mkF m 6 #[.val (.ref x2), .val (.ref b2)] [.null, (.int (0 : Int32)), (.int (0 : Int32)), (.ref b2), (.ref x2)])) (fun t k => XS.aconstNull X0.here hx rfl (hb hby own_dF_5) k) ?_
  obtain ⟨_, _, ⟨T2, L2, k2, n2⟩, -, X2, hT2, gT2, ⟨Lc2, hQ2, l2, y2, z2⟩, st2⟩ := X0.specialBackS hx (y := (⟨"java/lang/String", "<init>", "([CIILjava/lang/Void;)V"⟩ : MethodName)) rfl hown (mvT hZ (hw _ (List.mem_of_getElem? (i := 11) rfl))) (mvT hZ (hw _ (List.mem_of_getElem? (i := 12) rfl))) (mvT hZ (hw _ (List.mem_of_getElem? (i := 14) rfl))) (by decide) (own_backI (W := 0) (rmE l Z a0 hw [] x2 b2 (0 : Int32) (0 : Int32) u1 h0 n0 Z0 O0 (by assumption) (by assumption) E2 Fv Fc g_x2 rfl) (show IB Z (s.setVm s.vm).vm [] from hI) hZ (hw _ (List.mem_of_getElem? (i := 14) rfl)) (hw _ (List.mem_of_getElem? (i := 6) rfl)) (by decide) (by decide)) (g := (mkF m 6 #[.val (.ref x2), .val (.ref b2)] [.null, (.int (0 : Int32)), (.int (0 : Int32)), (.ref b2), (.ref x2)])) rfl (by rw [hml]; rfl) (Steps.refl _) (a := x2) (argsL := [(.ref b2), (.int (0 : Int32)), (.int (0 : Int32)), .null]) (rest := []) (lenOf own_pd0 rfl) rfl (by show 2 * 0 + _ ≤ _; exact Nat.le_of_eq rfl) (hb hby own_dF_6) (fun _ _ => ⟨rfl, e0, (by decide : 0 + 2 ≤ _), (by decide : 0 + 4 ≤ _)⟩)
  dsimp only [Pt.U, Pt.locs, Pt.cells, Pt.slots] at X2 l2 y2 z2 st2 hQ2 hT2 gT2
  subst l2 y2 z2
  obtain ⟨X2, hS2, hZ, hown⟩ := rebS hS0 (by rw [e0]; exact hk0) X2 hT2 gT2 hZ hown
  obtain ⟨rfl, Nq2, Kq2⟩ := hQ2
  have N2 := Fr.app N0 Nq2
  refine own_via (B := T2.setTop (mkF m 9 #[.val (.ref x2), .val (.ref b2)] [])) (fun t k => st2.trans k) ?_
  refine own_leafVW X2 hx hlk hS2 (Nat.le_refl _) Bd.returns (hb hby own_dF_9) (by decide) (by decide) ?_
  show QF Z x2 b2 u1 k2 h0 n0 _ T2.heap _
  refine ⟨?_, N2, ((Keep.refl h0 [x2]).trans Kq2 (allS (Or.inl (List.mem_of_getElem? (i := 0) rfl)) all0))⟩
  rfl
theorem own_pn1 : plainName "java/lang/StringLatin1" = true := by first | (simp [plainName, overriddenIn]; done) | decide +kernel
theorem own_dG_0 : decode jdk_43_method_3_code 0 = .ok (.iload_n 0, 1) := by decide +kernel
theorem own_dG_1 : decode jdk_43_method_3_code 1 = .ok (.sipush 255, 3) := by decide +kernel
theorem own_dG_4 : decode jdk_43_method_3_code 4 = .ok (.if_icmp .gt 7, 3) := by decide +kernel
theorem own_dG_7 : decode jdk_43_method_3_code 7 = .ok (.iconst 1, 1) := by decide +kernel
theorem own_dG_8 : decode jdk_43_method_3_code 8 = .ok (.goto 4, 3) := by decide +kernel
theorem own_dG_12 : decode jdk_43_method_3_code 12 = .ok (.ireturn, 1) := by decide +kernel
theorem own_efG (m : MethodId) (x0 : Int32) : entryFrame m #[(.int x0)] 1 = mkF m 0 #[.val (.int x0)] [] := by first | (simp [entryFrame, mkF, argsToLocals, Value.category]; done) | rfl
def QG (Z : State) (c3 : Int32) (h0 : Heap) (n0 : Nat) (v : Option Value) (h : Heap) (L : List Loc) : Prop := v = some (.int (1 : Int32)) ∧ Fr n0 L ∧ h = h0
set_option maxRecDepth 65536 in
set_option maxHeartbeats 40000000 in
theorem rmG (l : Launch) (Z : State) (a0 : Array Value) (hw : ∀ d ∈ tables_1, d.before a0 Z = true) (ws : List Jvm.Cond) (c3 : Int32) (h0 : Heap) (n0 : Nat) (Z0 : n0 ≤ h0.size) (hc3 : own_C c3) :
    MetFree l (⟨"java/lang/StringLatin1", "canEncode", "(C)Z"⟩ : MethodName) (head1 (Jvm.Cond.code (⟨"java/lang/StringLatin1", "canEncode", "(C)Z"⟩ : MethodName) jdk_43_method_3_code 1 (some .boolean) :: ws) ({ frames := 0, cells := 0, slots := 0, locals := 0 } : Room)) (fun a U => a = #[(.int c3)] ∧ Z.Warmed39 U.vm ∧ U.heap = h0) (fun _ _ _ _ _ => True) (fun _ U o U' => ∃ v L, o = .returned v ∧ QG Z c3 h0 n0 v U'.heap L ∧ FrameEnd U o U' L ({ frames := 0, cells := 0, slots := 0, locals := 0 } : Room).cells ({ frames := 0, cells := 0, slots := 0, locals := 0 } : Room).slots) := by
  refine MetFree.of_bodySF (plainFor_of_name own_pn1) hisR ?_
  intro p e s m args below meth c s₁ Bd hml0 hP hK
  obtain ⟨rfl, hZ, hh⟩ := hP
  have hx := Bd.exec
  have hby := Bd.bytes
  have hlk : meth.locks = false := Bd.notSynchronized
  have hml : c.maxLocals = 1 := hml0
  have hown : s.vm.findClass "java/lang/StringLatin1" = some m.cls := findClass_of_methodNamed Bd.named
  have hnm := (name_of_methodNamed Bd.named Bd.method).1
  have X0 : Stand p l e ({ frames := 0, cells := 0, slots := 0, locals := 0 } : Room) s m #[(.int c3)] below meth c s₁ [] 0 0 := Stand.of_body Bd
  have e0 : s₁.heap = h0 := by rw [← hh, Bd.state]; rfl
  have N0 := Fr.nil n0
  refine own_body (A := s₁.setTop (mkF m 0 #[.val (.int c3)] [])) (Q := QG Z c3 h0 n0) (fun t k => castTop (own_efG m c3) k) ?_
  refine own_via (B := s₁.setTop (mkF m 1 #[.val (.int c3)] [(.int c3)])) (fun t k => XS.iloadN X0.here hx rfl (hb hby own_dG_0) rfl k) ?_
  refine own_via (B := s₁.setTop (mkF m 4 #[.val (.int c3)] [(.int (255 : Int32)), (.int c3)])) (fun t k => XS.sipush X0.here hx rfl (hb hby own_dG_1) k) ?_
  have hc4 : ¬ ((255 : Int32) < c3) := hc3.2
  refine own_via (B := s₁.setTop (mkF m 7 #[.val (.int c3)] [])) (fun t k => XS.icmpNo X0.here hx rfl (hb hby own_dG_4) rfl (flt hc4).2.2.1 k) ?_
  refine own_via (B := s₁.setTop (mkF m 8 #[.val (.int c3)] [(.int (1 : Int32))])) (fun t k => XS.iconst X0.here hx rfl (hb hby own_dG_7) k) ?_
  refine own_via (B := s₁.setTop (mkF m 12 #[.val (.int c3)] [(.int (1 : Int32))])) (fun t k => XS.goto X0.here hx rfl (pc0 := 8) (pc' := 12) rfl (hb hby own_dG_8) (by decide) (by decide) k) ?_
  refine own_leaf X0 hx hlk (t := .boolean) Bd.returns (by decide) (Or.inl ⟨rfl, by simp, _, rfl⟩) (hb hby own_dG_12) (by decide) (by decide) ?_
  show QG Z c3 h0 n0 _ s₁.heap _
  rw [e0]
  refine ⟨?_, N0, rfl⟩
  rfl
theorem own_dH_0 : decode jdk_43_method_46_code 0 = .ok (.iconst 1, 1) := by decide +kernel
theorem own_dH_1 : decode jdk_43_method_46_code 1 = .ok (.newarray .byte, 2) := by decide +kernel
theorem own_dH_3 : decode jdk_43_method_46_code 3 = .ok (.dup, 1) := by decide +kernel
theorem own_dH_4 : decode jdk_43_method_46_code 4 = .ok (.iconst 0, 1) := by decide +kernel
theorem own_dH_5 : decode jdk_43_method_46_code 5 = .ok (.iload_n 0, 1) := by decide +kernel
theorem own_dH_6 : decode jdk_43_method_46_code 6 = .ok (.i2b, 1) := by decide +kernel
theorem own_dH_7 : decode jdk_43_method_46_code 7 = .ok (.bastore, 1) := by decide +kernel
theorem own_dH_8 : decode jdk_43_method_46_code 8 = .ok (.areturn, 1) := by decide +kernel
theorem own_efH (m : MethodId) (x0 : Int32) : entryFrame m #[(.int x0)] 1 = mkF m 0 #[.val (.int x0)] [] := by first | (simp [entryFrame, mkF, argsToLocals, Value.category]; done) | rfl
def QH (Z : State) (c4 : Int32) (h0 : Heap) (n0 : Nat) (v : Option Value) (h : Heap) (L : List Loc) : Prop := ∃ (r : Addr) (kr : ClassId), v = some (.ref r) ∧ Fr n0 L ∧ Keep h0 h [] ∧ (h0.size ≤ r) ∧ (Arv Z h r kr .byte (1 : Int32) [(.int c4.toInt8.toInt32)] (.int (0 : Int32)))
set_option maxRecDepth 65536 in
set_option maxHeartbeats 40000000 in
theorem rmH (l : Launch) (Z : State) (a0 : Array Value) (hw : ∀ d ∈ tables_1, d.before a0 Z = true) (ws : List Jvm.Cond) (c4 : Int32) (h0 : Heap) (n0 : Nat) (Z0 : n0 ≤ h0.size) :
    MetFree l (⟨"java/lang/StringLatin1", "toBytes", "(C)[B"⟩ : MethodName) (head1 (Jvm.Cond.code (⟨"java/lang/StringLatin1", "toBytes", "(C)[B"⟩ : MethodName) jdk_43_method_46_code 1 (some (.array .byte)) :: ws) ({ frames := 0, cells := 1, slots := 1, locals := 0 } : Room)) (fun a U => a = #[(.int c4)] ∧ Z.Warmed39 U.vm ∧ U.heap = h0) (fun _ _ _ _ _ => True) (fun _ U o U' => ∃ v L, o = .returned v ∧ QH Z c4 h0 n0 v U'.heap L ∧ FrameEnd U o U' L ({ frames := 0, cells := 1, slots := 1, locals := 0 } : Room).cells ({ frames := 0, cells := 1, slots := 1, locals := 0 } : Room).slots) := by
  refine MetFree.of_bodySF (plainFor_of_name own_pn1) hisR ?_
  intro p e s m args below meth c s₁ Bd hml0 hP hK
  obtain ⟨rfl, hZ, hh⟩ := hP
  have hx := Bd.exec
  have hby := Bd.bytes
  have hlk : meth.locks = false := Bd.notSynchronized
  have hml : c.maxLocals = 1 := hml0
  have hown : s.vm.findClass "java/lang/StringLatin1" = some m.cls := findClass_of_methodNamed Bd.named
  have hnm := (name_of_methodNamed Bd.named Bd.method).1
  have X0 : Stand p l e ({ frames := 0, cells := 1, slots := 1, locals := 0 } : Room) s m #[(.int c4)] below meth c s₁ [] 0 0 := Stand.of_body Bd
  have e0 : s₁.heap = h0 := by rw [← hh, Bd.state]; rfl
  have N0 := Fr.nil n0
  refine own_body (A := s₁.setTop (mkF m 0 #[.val (.int c4)] [])) (Q := QH Z c4 h0 n0) (fun t k => castTop (own_efH m c4) k) ?_
  refine own_via (B := s₁.setTop (mkF m 1 #[.val (.int c4)] [(.int (1 : Int32))])) (fun t k => XS.iconst X0.here hx rfl (hb hby own_dH_0) k) ?_
  obtain ⟨T1, h1, kc1, X1, e1, E1, A1, st1⟩ := newP X0 hx hZ (hw _ (List.mem_of_getElem? (i := 19) rfl)) e0 (g := (mkF m 1 #[.val (.int c4)] [(.int (1 : Int32))])) rfl (hb hby own_dH_1) rfl (by decide) (cap := 1) (by decide) (by decide) (by decide) (by decide)
  obtain ⟨b1, g1⟩ : ∃ z, z = h0.size := ⟨_, rfl⟩
  rw [← g1] at A1 st1
  have g_b1 : n0 ≤ b1 := Nat.le_trans Z0 (Nat.le_of_eq g1.symm)
  have V1 : Arv Z h1 b1 kc1 .byte (1 : Int32) [(.int (0 : Int32))] (.int (0 : Int32)) := (Arv.new A1 (by decide)).pad (pad_rep [] (.int (0 : Int32)) 1)
  refine own_via (B := T1.setTop (mkF m 3 #[.val (.int c4)] [(.ref b1)])) (fun t k => st1 t k) ?_
  refine own_via (B := T1.setTop (mkF m 4 #[.val (.int c4)] [(.ref b1), (.ref b1)])) (fun t k => XS.dup X1.here hx rfl (hb hby own_dH_3) rfl rfl k) ?_
  refine own_via (B := T1.setTop (mkF m 5 #[.val (.int c4)] [(.int (0 : Int32)), (.ref b1), (.ref b1)])) (fun t k => XS.iconst X1.here hx rfl (hb hby own_dH_4) k) ?_
  refine own_via (B := T1.setTop (mkF m 6 #[.val (.int c4)] [(.int c4), (.int (0 : Int32)), (.ref b1), (.ref b1)])) (fun t k => XS.iloadN X1.here hx rfl (hb hby own_dH_5) rfl k) ?_
  refine own_via (B := T1.setTop (mkF m 7 #[.val (.int c4)] [(.int (c4.toInt8.toInt32)), (.int (0 : Int32)), (.ref b1), (.ref b1)])) (fun t k => XS.i2b X1.here hx rfl (hb hby own_dH_6) rfl k) ?_
  obtain ⟨cl2, Ar2, q2, S2, M2, H2, G2⟩ := id V1
  obtain ⟨T3, h3, X3, e3, W3, st3⟩ := stB X1 hx hZ e1 Ar2 (j := (0 : Int32)) (inb_of S2 ⟨by decide, by decide⟩) (g := (mkF m 7 #[.val (.int c4)] [(.int (c4.toInt8.toInt32)), (.int (0 : Int32)), (.ref b1), (.ref b1)])) rfl rfl (hb hby own_dH_7)
  have V3 : Arv Z h3 b1 kc1 .byte (1 : Int32) [(.int (c4.toInt8.toInt32).toInt8.toInt32)] (.int (0 : Int32)) := Arv.set Ar2 q2 S2 M2 H2 G2 (fits_nar_byte _) W3 0 rfl (Nat.le_of_ble_eq_true rfl)
  have N3 := Fr.snoc X3 N0 g_b1
  refine own_via (B := T3.setTop (mkF m 8 #[.val (.int c4)] [(.ref b1)])) (fun t k => st3 t k) ?_
  refine own_leaf X3 hx hlk (t := (.array .byte)) Bd.returns rfl (Or.inr (Or.inr (Or.inr (Or.inr ⟨rfl, rfl, rfl⟩)))) (hb hby own_dH_8) (by decide) (by decide) ?_
  show QH Z c4 h0 n0 _ T3.heap _
  rw [e3]
  refine ⟨b1, kc1, ?_, N3, (((Keep.refl h0 []).ext E1).wr W3 (Or.inr (Nat.le_of_eq g1.symm))), ?_, (by have q := V3; rw [own_b8] at q; exact q)⟩
  · rfl
  · exact (Nat.le_of_eq g1.symm)
theorem own_dI_0 : decode jdk_42_method_151_code 0 = .ok (.aload_n 0, 1) := by decide +kernel
theorem own_dI_1 : decode jdk_42_method_151_code 1 = .ok (.invokespecial 1, 3) := by decide +kernel
theorem own_dI_4 : decode jdk_42_method_151_code 4 = .ok (.aload_n 0, 1) := by decide +kernel
theorem own_dI_5 : decode jdk_42_method_151_code 5 = .ok (.aload_n 1, 1) := by decide +kernel
theorem own_dI_6 : decode jdk_42_method_151_code 6 = .ok (.putfield 9, 3) := by decide +kernel
theorem own_dI_9 : decode jdk_42_method_151_code 9 = .ok (.aload_n 0, 1) := by decide +kernel
theorem own_dI_10 : decode jdk_42_method_151_code 10 = .ok (.iload_n 2, 1) := by decide +kernel
theorem own_dI_11 : decode jdk_42_method_151_code 11 = .ok (.putfield 15, 3) := by decide +kernel
theorem own_dI_14 : decode jdk_42_method_151_code 14 = .ok (.return_, 1) := by decide +kernel
theorem own_efI (m : MethodId) (x0 : Addr) (x1 : Addr) (x2 : Int32) : entryFrame m #[(.ref x0), (.ref x1), (.int x2)] 3 = mkF m 0 #[.val (.ref x0), .val (.ref x1), .val (.int x2)] [] := by first | (simp [entryFrame, mkF, argsToLocals, Value.category]; done) | rfl
def QI (Z : State) (x5 : Addr) (b5 : Addr) (k5 : Int32) (u0 : Value) (u1 : Value) (h0 : Heap) (n0 : Nat) (v : Option Value) (h : Heap) (L : List Loc) : Prop := v = none ∧ Fr n0 L ∧ Keep h0 h [x5] ∧ (Fld Z h x5 "java/lang/String" "coder" "B" (.int (0 : Int32))) ∧ (Fld Z h x5 "java/lang/String" "value" "[B" (.ref b5))
set_option maxRecDepth 65536 in
set_option maxHeartbeats 40000000 in
theorem rmI (l : Launch) (Z : State) (a0 : Array Value) (hw : ∀ d ∈ tables_1, d.before a0 Z = true) (ws : List Jvm.Cond) (x5 : Addr) (b5 : Addr) (k5 : Int32) (u0 : Value) (u1 : Value) (h0 : Heap) (n0 : Nat) (Z0 : n0 ≤ h0.size) (E5 : Exa Z h0 x5 "java/lang/String") (F50 : Fld Z h0 x5 "java/lang/String" "value" "[B" u0) (F51 : Fld Z h0 x5 "java/lang/String" "coder" "B" u1) (g_x5 : n0 ≤ x5) (hk5 : k5 = (0 : Int32)) :
    MetFree l (⟨"java/lang/String", "<init>", "([BB)V"⟩ : MethodName) (head1 (Jvm.Cond.code (⟨"java/lang/String", "<init>", "([BB)V"⟩ : MethodName) jdk_42_method_151_code 3 none :: ws) ({ frames := 1, cells := 0, slots := 0, locals := 12 } : Room)) (fun a U => a = #[(.ref x5), (.ref b5), (.int k5)] ∧ Z.Warmed39 U.vm ∧ U.heap = h0) (fun _ _ _ _ _ => True) (fun _ U o U' => ∃ v L, o = .returned v ∧ QI Z x5 b5 k5 u0 u1 h0 n0 v U'.heap L ∧ FrameEnd U o U' L ({ frames := 1, cells := 0, slots := 0, locals := 12 } : Room).cells ({ frames := 1, cells := 0, slots := 0, locals := 12 } : Room).slots) := by
  refine MetFree.of_bodySF (plainFor_of_name own_pn0) hisR ?_
  intro p e s m args below meth c s₁ Bd hml0 hP hK
  obtain ⟨rfl, hZ, hh⟩ := hP
  have hx := Bd.exec
  have hby := Bd.bytes
  have hlk : meth.locks = false := Bd.notSynchronized
  have hml : c.maxLocals = 3 := hml0
  have hown : s.vm.findClass "java/lang/String" = some m.cls := findClass_of_methodNamed Bd.named
  have hnm := (name_of_methodNamed Bd.named Bd.method).1
  have X0 : Stand p l e ({ frames := 1, cells := 0, slots := 0, locals := 12 } : Room) s m #[(.ref x5), (.ref b5), (.int k5)] below meth c s₁ [] 0 0 := Stand.of_body Bd
  have e0 : s₁.heap = h0 := by rw [← hh, Bd.state]; rfl
  have N0 := Fr.nil n0
  refine own_body (A := s₁.setTop (mkF m 0 #[.val (.ref x5), .val (.ref b5), .val (.int k5)] [])) (Q := QI Z x5 b5 k5 u0 u1 h0 n0) (fun t k => castTop (own_efI m x5 b5 k5) k) ?_
  refine own_via (B := s₁.setTop (mkF m 1 #[.val (.ref x5), .val (.ref b5), .val (.int k5)] [(.ref x5)])) (fun t k => XS.aloadN X0.here hx rfl (hb hby own_dI_0) rfl rfl k) ?_
  obtain ⟨T1, X1, e1, st1⟩ := initO X0 hx hZ hown (hw _ (List.mem_of_getElem? (i := 15) rfl)) (hw _ (List.mem_of_getElem? (i := 16) rfl)) (hw _ (List.mem_of_getElem? (i := 17) rfl)) e0 (g := (mkF m 1 #[.val (.ref x5), .val (.ref b5), .val (.int k5)] [(.ref x5)])) rfl (by rw [hml]; rfl) rfl (hb hby own_dI_1) (by decide) (W := 0) (by show 2 * 0 + _ ≤ _; exact Nat.le_of_eq rfl) (by decide)
  refine own_via (B := T1.setTop (mkF m 4 #[.val (.ref x5), .val (.ref b5), .val (.int k5)] [])) (fun t k => st1 t k) ?_
  refine own_via (B := T1.setTop (mkF m 5 #[.val (.ref x5), .val (.ref b5), .val (.int k5)] [(.ref x5)])) (fun t k => XS.aloadN X1.here hx rfl (hb hby own_dI_4) rfl rfl k) ?_
  refine own_via (B := T1.setTop (mkF m 6 #[.val (.ref x5), .val (.ref b5), .val (.int k5)] [(.ref b5), (.ref x5)])) (fun t k => XS.aloadN X1.here hx rfl (hb hby own_dI_5) rfl rfl k) ?_
  obtain ⟨T2, h2, X2, e2, W2, st2⟩ := putF X1 hx hZ hown (host := "") (Or.inl (hw _ (List.mem_of_getElem? (i := 24) rfl))) Via.refl e1 F50 E5 (Or.inr ⟨(hw _ (List.mem_of_getElem? (i := 20) rfl)), rfl, hnm⟩) (hw _ (List.mem_of_getElem? (i := 5) rfl)) (ty := (.array .byte)) (by decide) rfl rfl (g := (mkF m 6 #[.val (.ref x5), .val (.ref b5), .val (.int k5)] [(.ref b5), (.ref x5)])) rfl rfl (hb hby own_dI_6)
  have Fw2 := F50.same W2
  have N2 := Fr.snoc X2 N0 g_x5
  refine own_via (B := T2.setTop (mkF m 9 #[.val (.ref x5), .val (.ref b5), .val (.int k5)] [])) (fun t k => st2 t k) ?_
  refine own_via (B := T2.setTop (mkF m 10 #[.val (.ref x5), .val (.ref b5), .val (.int k5)] [(.ref x5)])) (fun t k => XS.aloadN X2.here hx rfl (hb hby own_dI_9) rfl rfl k) ?_
  refine own_via (B := T2.setTop (mkF m 11 #[.val (.ref x5), .val (.ref b5), .val (.int k5)] [(.int k5), (.ref x5)])) (fun t k => XS.iloadN X2.here hx rfl (hb hby own_dI_10) rfl k) ?_
  obtain ⟨T3, h3, X3, e3, W3, st3⟩ := putFN X2 hx hZ hown (hw _ (List.mem_of_getElem? (i := 25) rfl)) Via.refl e2 (F51.other W2 (Or.inr (slot_ne (Or.inr (hw _ (List.mem_of_getElem? (i := 21) rfl))) (Or.inr (hw _ (List.mem_of_getElem? (i := 20) rfl))) (by decide +kernel) (t := .byte) (t' := (.array .byte)) (by decide +kernel) (by decide +kernel)))) (E5.wr W2) (Or.inr ⟨(hw _ (List.mem_of_getElem? (i := 21) rfl)), rfl, hnm⟩) (hw _ (List.mem_of_getElem? (i := 5) rfl)) (ty := .byte) (v' := (.int (0 : Int32))) (by decide) (by rw [hk5]; rfl) (by decide) (g := (mkF m 11 #[.val (.ref x5), .val (.ref b5), .val (.int k5)] [(.int k5), (.ref x5)])) rfl rfl (hb hby own_dI_11)
  have Fw3 := (F51.other W2 (Or.inr (slot_ne (Or.inr (hw _ (List.mem_of_getElem? (i := 21) rfl))) (Or.inr (hw _ (List.mem_of_getElem? (i := 20) rfl))) (by decide +kernel) (t := .byte) (t' := (.array .byte)) (by decide +kernel) (by decide +kernel)))).same W3
  have N3 := Fr.snoc X3 N2 g_x5
  refine own_via (B := T3.setTop (mkF m 14 #[.val (.ref x5), .val (.ref b5), .val (.int k5)] [])) (fun t k => st3 t k) ?_
  refine own_leafV X3 hx hlk Bd.returns (hb hby own_dI_14) (by decide) (by decide) ?_
  show QI Z x5 b5 k5 u0 u1 h0 n0 _ T3.heap _
  rw [e3]
  refine ⟨?_, N3, (((Keep.refl h0 [x5]).wr W2 (Or.inl (List.mem_of_getElem? (i := 0) rfl))).wr W3 (Or.inl (List.mem_of_getElem? (i := 0) rfl))), Fw3, (Fw2.other W3 (Or.inr (slot_ne (Or.inr (hw _ (List.mem_of_getElem? (i := 20) rfl))) (Or.inr (hw _ (List.mem_of_getElem? (i := 21) rfl))) (by decide +kernel) (t := (.array .byte)) (t' := .byte) (by decide +kernel) (by decide +kernel))))⟩
  rfl
theorem own_pd1 : parseMethodDescriptor "(C)Z" = some ⟨[.char], some .boolean⟩ := by decide +kernel
theorem own_pd2 : parseMethodDescriptor "(C)[B" = some ⟨[.char], some (.array .byte)⟩ := by decide +kernel
theorem own_pd3 : parseMethodDescriptor "([BB)V" = some ⟨[(.array .byte), .byte], none⟩ := by decide +kernel
theorem own_dJ_0 : decode jdk_42_method_139_code 0 = .ok (.getstatic 38, 3) := by decide +kernel
theorem own_dJ_3 : decode jdk_42_method_139_code 3 = .ok (.ifCond .eq 23, 3) := by decide +kernel
theorem own_dJ_6 : decode jdk_42_method_139_code 6 = .ok (.iload_n 0, 1) := by decide +kernel
theorem own_dJ_7 : decode jdk_42_method_139_code 7 = .ok (.invokestatic 1015, 3) := by decide +kernel
theorem own_dJ_10 : decode jdk_42_method_139_code 10 = .ok (.ifCond .eq 16, 3) := by decide +kernel
theorem own_dJ_13 : decode jdk_42_method_139_code 13 = .ok (.new 10, 3) := by decide +kernel
theorem own_dJ_16 : decode jdk_42_method_139_code 16 = .ok (.dup, 1) := by decide +kernel
theorem own_dJ_17 : decode jdk_42_method_139_code 17 = .ok (.iload_n 0, 1) := by decide +kernel
theorem own_dJ_18 : decode jdk_42_method_139_code 18 = .ok (.invokestatic 1018, 3) := by decide +kernel
theorem own_dJ_21 : decode jdk_42_method_139_code 21 = .ok (.iconst 0, 1) := by decide +kernel
theorem own_dJ_22 : decode jdk_42_method_139_code 22 = .ok (.invokespecial 209, 3) := by decide +kernel
theorem own_dJ_25 : decode jdk_42_method_139_code 25 = .ok (.areturn, 1) := by decide +kernel
theorem own_efJ (m : MethodId) (x0 : Int32) : entryFrame m #[(.int x0)] 1 = mkF m 0 #[.val (.int x0)] [] := by first | (simp [entryFrame, mkF, argsToLocals, Value.category]; done) | rfl
def QJ (Z : State) (c6 : Int32) (zc : Int32) (h0 : Heap) (n0 : Nat) (v : Option Value) (h : Heap) (L : List Loc) : Prop := ∃ (r : Addr) (tr : Addr) (kr : ClassId), v = some (.ref r) ∧ Fr n0 L ∧ Keep h0 h [] ∧ (h0.size ≤ r) ∧ (h0.size ≤ tr) ∧ (Exa Z h r "java/lang/String") ∧ (Fld Z h r "java/lang/String" "coder" "B" (.int (0 : Int32))) ∧ (Fld Z h r "java/lang/String" "value" "[B" (.ref tr)) ∧ (Arv Z h tr kr .byte (Int32.ofNat [c6].length) (([c6].map StrChars.lo8).map Value.int) (.int 0))
set_option maxRecDepth 65536 in
set_option maxHeartbeats 40000000 in
theorem rmJ (l : Launch) (Z : State) (a0 : Array Value) (hw : ∀ d ∈ tables_1, d.before a0 Z = true) (ws : List Jvm.Cond) (c6 : Int32) (zc : Int32) (h0 : Heap) (n0 : Nat) (Z0 : n0 ≤ h0.size) (O0 : Old Z n0 h0) (Scz : Sta Z Z.heap "java/lang/String" "COMPACT_STRINGS" "Z" (.int zc)) (hcz : ¬ zc = 0) (hc6 : own_C c6) :
    MetFree l (⟨"java/lang/String", "valueOf", "(C)Ljava/lang/String;"⟩ : MethodName) (head1 (Jvm.Cond.code (⟨"java/lang/String", "valueOf", "(C)Ljava/lang/String;"⟩ : MethodName) jdk_42_method_139_code 1 (some (.object "java/lang/String")) :: ws) ({ frames := 2, cells := 2, slots := 5, locals := 28 } : Room)) (fun a U => a = #[(.int c6)] ∧ Z.Warmed39 U.vm ∧ U.heap = h0) (fun _ _ _ _ _ => True) (fun _ U o U' => ∃ v L, o = .returned v ∧ QJ Z c6 zc h0 n0 v U'.heap L ∧ FrameEnd U o U' L ({ frames := 2, cells := 2, slots := 5, locals := 28 } : Room).cells ({ frames := 2, cells := 2, slots := 5, locals := 28 } : Room).slots) := by
  refine MetFree.of_bodySF (plainFor_of_name own_pn0) hisR ?_
  intro p e s m args below meth c s₁ Bd hml0 hP hK
  obtain ⟨rfl, hZ, hh⟩ := hP
  have hx := Bd.exec
  have hby := Bd.bytes
  have hlk : meth.locks = false := Bd.notSynchronized
  have hml : c.maxLocals = 1 := hml0
  have hown : s.vm.findClass "java/lang/String" = some m.cls := findClass_of_methodNamed Bd.named
  have hnm := (name_of_methodNamed Bd.named Bd.method).1
  have X0 : Stand p l e ({ frames := 2, cells := 2, slots := 5, locals := 28 } : Room) s m #[(.int c6)] below meth c s₁ [] 0 0 := Stand.of_body Bd
  have e0 : s₁.heap = h0 := by rw [← hh, Bd.state]; rfl
  have N0 := Fr.nil n0
  refine own_body (A := s₁.setTop (mkF m 0 #[.val (.int c6)] [])) (Q := QJ Z c6 zc h0 n0) (fun t k => castTop (own_efJ m c6) k) ?_
  obtain ⟨T1, X1, e1, st1⟩ := getS2 X0 hx hZ hown (host := "") (Or.inl (hw _ (List.mem_of_getElem? (i := 102) rfl))) Via.refl e0 (Scz.ext O0.2) (g := (mkF m 0 #[.val (.int c6)] [])) rfl (hb hby own_dJ_0)
  refine own_via (B := T1.setTop (mkF m 3 #[.val (.int c6)] [(.int zc)])) (fun t k => st1 t k) ?_
  have hc3 : ¬ (zc = (0 : Int32)) := hcz
  refine own_via (B := T1.setTop (mkF m 6 #[.val (.int c6)] [])) (fun t k => XS.ifNo X1.here hx rfl (hb hby own_dJ_3) rfl ((if0 _ _).trans (feq hc3).1) k) ?_
  refine own_via (B := T1.setTop (mkF m 7 #[.val (.int c6)] [(.int c6)])) (fun t k => XS.iloadN X1.here hx rfl (hb hby own_dJ_6) rfl k) ?_
  obtain ⟨_, _, ⟨T2, L2, k2, n2⟩, -, X2, ⟨Lc2, hQ2, l2, y2, z2⟩, st2⟩ := Jvm.LawKit.callS X1 hx (y := (⟨"java/lang/StringLatin1", "canEncode", "(C)Z"⟩ : MethodName)) hown (mvT hZ (hw _ (List.mem_of_getElem? (i := 116) rfl))) (mvT hZ (hw _ (List.mem_of_getElem? (i := 117) rfl))) (mvT hZ (hw _ (List.mem_of_getElem? (i := 118) rfl))) (mvT hZ (hw _ (List.mem_of_getElem? (i := 119) rfl))) (by decide) (backOf (W := 0) (rmG l Z a0 hw [] c6 h0 n0 Z0 hc6) hZ (hw _ (List.mem_of_getElem? (i := 119) rfl)) (hw _ (List.mem_of_getElem? (i := 118) rfl)) (by decide) (by decide)) (g := (mkF m 7 #[.val (.int c6)] [(.int c6)])) rfl (by rw [hml]; rfl) (argsL := [(.int c6)]) (rest := []) (lenOf own_pd1 rfl) rfl (by show 2 * 0 + _ ≤ _; exact Nat.le_of_eq rfl) (hb hby own_dJ_7) (fun _ _ => ⟨rfl, e1, (by decide : 0 + 0 ≤ _), (by decide : 0 + 0 ≤ _)⟩)
  dsimp only [Pt.U, Pt.locs, Pt.cells, Pt.slots] at X2 l2 y2 z2 st2 hQ2
  subst l2 y2 z2
  obtain ⟨rfl, Nq2, eq2⟩ := hQ2
  have N2 := Fr.app N0 Nq2
  refine own_via (B := T2.setTop (mkF m 10 #[.val (.int c6)] [(.int (1 : Int32))])) (fun t k => st2 t k) ?_
  have hc10 : ¬ ((1 : Int32) = (0 : Int32)) := by decide
  refine own_via (B := T2.setTop (mkF m 13 #[.val (.int c6)] [])) (fun t k => XS.ifNo X2.here hx rfl (hb hby own_dJ_10) rfl ((if0 _ _).trans (feq hc10).1) k) ?_
  obtain ⟨T3, h3, X3, e3, E3, A3, D3, -, st3⟩ := newO X2 hx hZ hown (hw _ (List.mem_of_getElem? (i := 120) rfl)) (hw _ (List.mem_of_getElem? (i := 5) rfl)) (hw _ (List.mem_of_getElem? (i := 6) rfl)) eq2 (g := (mkF m 13 #[.val (.int c6)] [])) rfl (hb hby own_dJ_13) (by decide) (by decide)
  obtain ⟨b3, g3⟩ : ∃ z, z = h0.size := ⟨_, rfl⟩
  rw [← g3] at A3 D3 st3
  have g_b3 : n0 ≤ b3 := Nat.le_trans Z0 (Nat.le_of_eq g3.symm)
  have F3_value : Fld Z h3 b3 "java/lang/String" "value" "[B" .null := D3 (Or.inr (hw _ (List.mem_of_getElem? (i := 20) rfl))) (ty := (.array .byte)) (by decide)
  have F3_coder : Fld Z h3 b3 "java/lang/String" "coder" "B" (.int (0 : Int32)) := D3 (Or.inr (hw _ (List.mem_of_getElem? (i := 21) rfl))) (ty := .byte) (by decide)
  refine own_via (B := T3.setTop (mkF m 16 #[.val (.int c6)] [(.ref b3)])) (fun t k => st3 t k) ?_
  refine own_via (B := T3.setTop (mkF m 17 #[.val (.int c6)] [(.ref b3), (.ref b3)])) (fun t k => XS.dup X3.here hx rfl (hb hby own_dJ_16) rfl rfl k) ?_
  refine own_via (B := T3.setTop (mkF m 18 #[.val (.int c6)] [(.int c6), (.ref b3), (.ref b3)])) (fun t k => XS.iloadN X3.here hx rfl (hb hby own_dJ_17) rfl k) ?_
  obtain ⟨_, _, ⟨T4, L4, k4, n4⟩, -, X4, ⟨Lc4, hQ4, l4, y4, z4⟩, st4⟩ := Jvm.LawKit.callS X3 hx (y := (⟨"java/lang/StringLatin1", "toBytes", "(C)[B"⟩ : MethodName)) hown (mvT hZ (hw _ (List.mem_of_getElem? (i := 121) rfl))) (mvT hZ (hw _ (List.mem_of_getElem? (i := 122) rfl))) (mvT hZ (hw _ (List.mem_of_getElem? (i := 118) rfl))) (mvT hZ (hw _ (List.mem_of_getElem? (i := 123) rfl))) (by decide) (backOf (W := 2) (rmH l Z a0 hw [] c6 h3 n0 (Nat.le_trans Z0 E3.1) ) hZ (hw _ (List.mem_of_getElem? (i := 123) rfl)) (hw _ (List.mem_of_getElem? (i := 118) rfl)) (by decide) (by decide)) (g := (mkF m 18 #[.val (.int c6)] [(.int c6), (.ref b3), (.ref b3)])) rfl (by rw [hml]; rfl) (argsL := [(.int c6)]) (rest := [(.ref b3), (.ref b3)]) (lenOf own_pd2 rfl) rfl (by show 2 * 0 + _ ≤ _; exact Nat.le_of_eq rfl) (hb hby own_dJ_18) (fun _ _ => ⟨rfl, e3, (by decide : ((0 + 0) + 1) + 1 ≤ _), (by decide : ((0 + 0) + 4) + 1 ≤ _)⟩)
  dsimp only [Pt.U, Pt.locs, Pt.cells, Pt.slots] at X4 l4 y4 z4 st4 hQ4
  subst l4 y4 z4
  obtain ⟨r_4, kr_4, rfl, Nq4, Kq4, hr_4, f4_0⟩ := hQ4
  have N4 := Fr.app N2 Nq4
  have g_r_4 : n0 ≤ r_4 := Nat.le_trans (Nat.le_trans Z0 E3.1) hr_4
  refine own_via (B := T4.setTop (mkF m 21 #[.val (.int c6)] [(.ref r_4), (.ref b3), (.ref b3)])) (fun t k => st4 t k) ?_
  refine own_via (B := T4.setTop (mkF m 22 #[.val (.int c6)] [(.int (0 : Int32)), (.ref r_4), (.ref b3), (.ref b3)])) (fun t k => XS.iconst X4.here hx rfl (hb hby own_dJ_21) k) ?_
  obtain ⟨_, _, ⟨T5, L5, k5, n5⟩, -, X5, ⟨Lc5, hQ5, l5, y5, z5⟩, st5⟩ := X4.specialBack hx (y := (⟨"java/lang/String", "<init>", "([BB)V"⟩ : MethodName)) rfl hown (mvT hZ (hw _ (List.mem_of_getElem? (i := 124) rfl))) (mvT hZ (hw _ (List.mem_of_getElem? (i := 125) rfl))) (mvT hZ (hw _ (List.mem_of_getElem? (i := 126) rfl))) (by decide) (backOf (W := 1) (rmI l Z a0 hw [] b3 r_4 (0 : Int32) .null (.int (0 : Int32)) T4.heap n0 (Nat.le_trans (Nat.le_trans Z0 E3.1) Kq4.1) (A3.keep Kq4) (F3_value.keep Kq4 nin0) (F3_coder.keep Kq4 nin0) g_b3 rfl) hZ (hw _ (List.mem_of_getElem? (i := 126) rfl)) (hw _ (List.mem_of_getElem? (i := 6) rfl)) (by decide) (by decide)) (g := (mkF m 22 #[.val (.int c6)] [(.int (0 : Int32)), (.ref r_4), (.ref b3), (.ref b3)])) rfl (by rw [hml]; rfl) (Steps.refl _) (a := b3) (argsL := [(.ref r_4), (.int (0 : Int32))]) (rest := [(.ref b3)]) (lenOf own_pd3 rfl) rfl (by show 2 * 0 + _ ≤ _; exact Nat.le_of_eq rfl) (hb hby own_dJ_22) (fun _ _ => ⟨rfl, rfl, (by decide : (((0 + 0) + 1) + 1) + 0 ≤ _), (by decide : (((0 + 0) + 4) + 1) + 0 ≤ _)⟩)
  dsimp only [Pt.U, Pt.locs, Pt.cells, Pt.slots] at X5 l5 y5 z5 st5 hQ5
  subst l5 y5 z5
  obtain ⟨rfl, Nq5, Kq5, f5_0, f5_1⟩ := hQ5
  have N5 := Fr.app N4 Nq5
  refine own_via (B := T5.setTop (mkF m 25 #[.val (.int c6)] [(.ref b3)])) (fun t k => st5.trans k) ?_
  refine own_leaf X5 hx hlk (t := (.object "java/lang/String")) Bd.returns rfl (Or.inr (Or.inr (Or.inr (Or.inr ⟨rfl, rfl, rfl⟩)))) (hb hby own_dJ_25) (by decide) (by decide) ?_
  show QJ Z c6 zc h0 n0 _ T5.heap _
  refine ⟨b3, r_4, kr_4, ?_, N5, ((((Keep.refl h0 []).ext E3).trans Kq4 all0).trans Kq5 (allS (Or.inr (Nat.le_of_eq g3.symm)) all0)), ?_, ?_, ((A3.keep Kq4).keep Kq5), f5_0, f5_1, (f4_0.keep Kq5 (ninS (Ne.symm (Nat.ne_of_lt (Nat.lt_of_lt_of_le A3.lt hr_4))) nin0))⟩
  · rfl
  · exact (Nat.le_of_eq g3.symm)
  · exact (Nat.le_trans (Nat.le_trans (Nat.le_refl _) E3.1) hr_4)
theorem own_pn2 : plainName "java/lang/Record" = true := by first | (simp [plainName, overriddenIn]; done) | decide +kernel
theorem own_dR_0 : decode jdk_30_method_1_code 0 = .ok (.aload_n 0, 1) := by decide +kernel
theorem own_dR_1 : decode jdk_30_method_1_code 1 = .ok (.invokespecial 1, 3) := by decide +kernel
theorem own_dR_4 : decode jdk_30_method_1_code 4 = .ok (.return_, 1) := by decide +kernel
theorem own_efR (m : MethodId) (x0 : Addr) : entryFrame m #[(.ref x0)] 1 = mkF m 0 #[.val (.ref x0)] [] := by first | (simp [entryFrame, mkF, argsToLocals, Value.category]; done) | rfl
def QR (Z : State) (aR : Addr) (h0 : Heap) (n0 : Nat) (v : Option Value) (h : Heap) (L : List Loc) : Prop := v = none ∧ Fr n0 L ∧ h = h0
set_option maxRecDepth 65536 in
set_option maxHeartbeats 40000000 in
theorem rmR (l : Launch) (Z : State) (a0 : Array Value) (hw : ∀ d ∈ tables_1, d.before a0 Z = true) (ws : List Jvm.Cond) (aR : Addr) (h0 : Heap) (n0 : Nat) (Z0 : n0 ≤ h0.size) :
    MetFree l (⟨"java/lang/Record", "<init>", "()V"⟩ : MethodName) (head1 (Jvm.Cond.code (⟨"java/lang/Record", "<init>", "()V"⟩ : MethodName) jdk_30_method_1_code 1 none :: ws) ({ frames := 1, cells := 0, slots := 0, locals := 12 } : Room)) (fun a U => a = #[(.ref aR)] ∧ Z.Warmed39 U.vm ∧ U.heap = h0) (fun _ _ _ _ _ => True) (fun _ U o U' => ∃ v L, o = .returned v ∧ QR Z aR h0 n0 v U'.heap L ∧ FrameEnd U o U' L ({ frames := 1, cells := 0, slots := 0, locals := 12 } : Room).cells ({ frames := 1, cells := 0, slots := 0, locals := 12 } : Room).slots) := by
  refine MetFree.of_bodySF (plainFor_of_name own_pn2) hisR ?_
  intro p e s m args below meth c s₁ Bd hml0 hP hK
  obtain ⟨rfl, hZ, hh⟩ := hP
  have hx := Bd.exec
  have hby := Bd.bytes
  have hlk : meth.locks = false := Bd.notSynchronized
  have hml : c.maxLocals = 1 := hml0
  have hown : s.vm.findClass "java/lang/Record" = some m.cls := findClass_of_methodNamed Bd.named
  have hnm := (name_of_methodNamed Bd.named Bd.method).1
  have X0 : Stand p l e ({ frames := 1, cells := 0, slots := 0, locals := 12 } : Room) s m #[(.ref aR)] below meth c s₁ [] 0 0 := Stand.of_body Bd
  have e0 : s₁.heap = h0 := by rw [← hh, Bd.state]; rfl
  have N0 := Fr.nil n0
  refine own_body (A := s₁.setTop (mkF m 0 #[.val (.ref aR)] [])) (Q := QR Z aR h0 n0) (fun t k => castTop (own_efR m aR) k) ?_
  refine own_via (B := s₁.setTop (mkF m 1 #[.val (.ref aR)] [(.ref aR)])) (fun t k => XS.aloadN X0.here hx rfl (hb hby own_dR_0) rfl rfl k) ?_
  obtain ⟨T1, X1, e1, st1⟩ := initO X0 hx hZ hown (hw _ (List.mem_of_getElem? (i := 37) rfl)) (hw _ (List.mem_of_getElem? (i := 16) rfl)) (hw _ (List.mem_of_getElem? (i := 17) rfl)) e0 (g := (mkF m 1 #[.val (.ref aR)] [(.ref aR)])) rfl (by rw [hml]; rfl) rfl (hb hby own_dR_1) (by decide) (W := 0) (by show 2 * 0 + _ ≤ _; exact Nat.le_of_eq rfl) (by decide)
  refine own_via (B := T1.setTop (mkF m 4 #[.val (.ref aR)] [])) (fun t k => st1 t k) ?_
  refine own_leafV X1 hx hlk Bd.returns (hb hby own_dR_4) (by decide) (by decide) ?_
  show QR Z aR h0 n0 _ T1.heap _
  rw [e1]
  refine ⟨?_, N0, rfl⟩
  rfl
theorem own_pn3 : plainName "com/example/planmend/planmend/pg/SelectBlock$ColumnReference" = true := by first | (simp [plainName, overriddenIn]; done) | decide +kernel
theorem own_pd4 : parseMethodDescriptor "()V" = some ⟨[], none⟩ := by decide +kernel
theorem own_dCnn_0 : decode prog_47_method_1_code 0 = .ok (.aload_n 0, 1) := by decide +kernel
theorem own_dCnn_1 : decode prog_47_method_1_code 1 = .ok (.invokespecial 1, 3) := by decide +kernel
theorem own_dCnn_4 : decode prog_47_method_1_code 4 = .ok (.aload_n 0, 1) := by decide +kernel
theorem own_dCnn_5 : decode prog_47_method_1_code 5 = .ok (.iload_n 1, 1) := by decide +kernel
theorem own_dCnn_6 : decode prog_47_method_1_code 6 = .ok (.putfield 7, 3) := by decide +kernel
theorem own_dCnn_9 : decode prog_47_method_1_code 9 = .ok (.aload_n 0, 1) := by decide +kernel
theorem own_dCnn_10 : decode prog_47_method_1_code 10 = .ok (.iload_n 2, 1) := by decide +kernel
theorem own_dCnn_11 : decode prog_47_method_1_code 11 = .ok (.putfield 13, 3) := by decide +kernel
theorem own_dCnn_14 : decode prog_47_method_1_code 14 = .ok (.aload_n 0, 1) := by decide +kernel
theorem own_dCnn_15 : decode prog_47_method_1_code 15 = .ok (.aload_n 3, 1) := by decide +kernel
theorem own_dCnn_16 : decode prog_47_method_1_code 16 = .ok (.putfield 16, 3) := by decide +kernel
theorem own_dCnn_19 : decode prog_47_method_1_code 19 = .ok (.aload_n 0, 1) := by decide +kernel
theorem own_dCnn_20 : decode prog_47_method_1_code 20 = .ok (.aload 4, 2) := by decide +kernel
theorem own_dCnn_22 : decode prog_47_method_1_code 22 = .ok (.putfield 20, 3) := by decide +kernel
theorem own_dCnn_25 : decode prog_47_method_1_code 25 = .ok (.return_, 1) := by decide +kernel
theorem own_efCnn (m : MethodId) (x0 : Addr) (x1 : Int32) (x2 : Int32) : entryFrame m #[(.ref x0), (.int x1), (.int x2), .null, .null] 5 = mkF m 0 #[.val (.ref x0), .val (.int x1), .val (.int x2), .val .null, .val .null] [] := by first | (simp [entryFrame, mkF, argsToLocals, Value.category]; done) | rfl
def QCnn (Z : State) (a7 : Addr) (p7 : Int32) (q7 : Int32) (u0 : Value) (u1 : Value) (u2 : Value) (u3 : Value) (h0 : Heap) (n0 : Nat) (v : Option Value) (h : Heap) (L : List Loc) : Prop := v = none ∧ Fr n0 L ∧ Keep h0 h [a7] ∧ (Fld Z h a7 "com/example/planmend/planmend/pg/SelectBlock$ColumnReference" "token" "I" (.int p7)) ∧ (Fld Z h a7 "com/example/planmend/planmend/pg/SelectBlock$ColumnReference" "qualifier" "I" (.int q7)) ∧ (Fld Z h a7 "com/example/planmend/planmend/pg/SelectBlock$ColumnReference" "target" "Lcom/example/planmend/planmend/pg/FromItem$Leaf;" .null) ∧ (Fld Z h a7 "com/example/planmend/planmend/pg/SelectBlock$ColumnReference" "column" "Ljava/lang/String;" .null)
set_option maxRecDepth 65536 in
set_option maxHeartbeats 40000000 in
theorem rmCnn (l : Launch) (Z : State) (a0 : Array Value) (hw : ∀ d ∈ tables_1, d.before a0 Z = true) (ws : List Jvm.Cond) (a7 : Addr) (p7 : Int32) (q7 : Int32) (u0 : Value) (u1 : Value) (u2 : Value) (u3 : Value) (h0 : Heap) (n0 : Nat) (Z0 : n0 ≤ h0.size) (E7 : Exa Z h0 a7 "com/example/planmend/planmend/pg/SelectBlock$ColumnReference") (F70 : Fld Z h0 a7 "com/example/planmend/planmend/pg/SelectBlock$ColumnReference" "token" "I" u0) (F71 : Fld Z h0 a7 "com/example/planmend/planmend/pg/SelectBlock$ColumnReference" "qualifier" "I" u1) (F72 : Fld Z h0 a7 "com/example/planmend/planmend/pg/SelectBlock$ColumnReference" "target" "Lcom/example/planmend/planmend/pg/FromItem$Leaf;" u2) (F73 : Fld Z h0 a7 "com/example/planmend/planmend/pg/SelectBlock$ColumnReference" "column" "Ljava/lang/String;" u3) (g_a7 : n0 ≤ a7) :
    MetFree l (⟨"com/example/planmend/planmend/pg/SelectBlock$ColumnReference", "<init>", "(IILcom/example/planmend/planmend/pg/FromItem$Leaf;Ljava/lang/String;)V"⟩ : MethodName) (head1 (Jvm.Cond.code (⟨"com/example/planmend/planmend/pg/SelectBlock$ColumnReference", "<init>", "(IILcom/example/planmend/planmend/pg/FromItem$Leaf;Ljava/lang/String;)V"⟩ : MethodName) prog_47_method_1_code 5 none :: ws) ({ frames := 2, cells := 0, slots := 0, locals := 24 } : Room)) (fun a U => a = #[(.ref a7), (.int p7), (.int q7), .null, .null] ∧ Z.Warmed39 U.vm ∧ U.heap = h0) (fun _ _ _ _ _ => True) (fun _ U o U' => ∃ v L, o = .returned v ∧ QCnn Z a7 p7 q7 u0 u1 u2 u3 h0 n0 v U'.heap L ∧ FrameEnd U o U' L ({ frames := 2, cells := 0, slots := 0, locals := 24 } : Room).cells ({ frames := 2, cells := 0, slots := 0, locals := 24 } : Room).slots) := by
  refine MetFree.of_bodySF (plainFor_of_name own_pn3) hisR ?_
  intro p e s m args below meth c s₁ Bd hml0 hP hK
  obtain ⟨rfl, hZ, hh⟩ := hP
  have hx := Bd.exec
  have hby := Bd.bytes
  have hlk : meth.locks = false := Bd.notSynchronized
  have hml : c.maxLocals = 5 := hml0
  have hown : s.vm.findClass "com/example/planmend/planmend/pg/SelectBlock$ColumnReference" = some m.cls := findClass_of_methodNamed Bd.named
  have hnm := (name_of_methodNamed Bd.named Bd.method).1
  have X0 : Stand p l e ({ frames := 2, cells := 0, slots := 0, locals := 24 } : Room) s m #[(.ref a7), (.int p7), (.int q7), .null, .null] below meth c s₁ [] 0 0 := Stand.of_body Bd
  have e0 : s₁.heap = h0 := by rw [← hh, Bd.state]; rfl
  have N0 := Fr.nil n0
  refine own_body (A := s₁.setTop (mkF m 0 #[.val (.ref a7), .val (.int p7), .val (.int q7), .val .null, .val .null] [])) (Q := QCnn Z a7 p7 q7 u0 u1 u2 u3 h0 n0) (fun t k => castTop (own_efCnn m a7 p7 q7) k) ?_
  refine own_via (B := s₁.setTop (mkF m 1 #[.val (.ref a7), .val (.int p7), .val (.int q7), .val .null, .val .null] [(.ref a7)])) (fun t k => XS.aloadN X0.here hx rfl (hb hby own_dCnn_0) rfl rfl k) ?_
  obtain ⟨_, _, ⟨T1, L1, k1, n1⟩, -, X1, ⟨Lc1, hQ1, l1, y1, z1⟩, st1⟩ := X0.specialBack hx (y := (⟨"java/lang/Record", "<init>", "()V"⟩ : MethodName)) rfl hown (mvT hZ (hw _ (List.mem_of_getElem? (i := 32) rfl))) (mvT hZ (hw _ (List.mem_of_getElem? (i := 33) rfl))) (mvT hZ (hw _ (List.mem_of_getElem? (i := 36) rfl))) (by decide) (backOf (W := 0) (rmR l Z a0 hw [] a7 h0 n0 Z0 ) hZ (hw _ (List.mem_of_getElem? (i := 36) rfl)) (hw _ (List.mem_of_getElem? (i := 35) rfl)) (by decide) (by decide)) (g := (mkF m 1 #[.val (.ref a7), .val (.int p7), .val (.int q7), .val .null, .val .null] [(.ref a7)])) rfl (by rw [hml]; rfl) (Steps.refl _) (a := a7) (argsL := []) (rest := []) (lenOf own_pd4 rfl) rfl (by show 2 * 0 + _ ≤ _; exact Nat.le_of_eq rfl) (hb hby own_dCnn_1) (fun _ _ => ⟨rfl, e0, (by decide : 0 + 0 ≤ _), (by decide : 0 + 0 ≤ _)⟩)
  dsimp only [Pt.U, Pt.locs, Pt.cells, Pt.slots] at X1 l1 y1 z1 st1 hQ1
  subst l1 y1 z1
  obtain ⟨rfl, Nq1, eq1⟩ := hQ1
  have N1 := Fr.app N0 Nq1
  refine own_via (B := T1.setTop (mkF m 4 #[.val (.ref a7), .val (.int p7), .val (.int q7), .val .null, .val .null] [])) (fun t k => st1.trans k) ?_
  refine own_via (B := T1.setTop (mkF m 5 #[.val (.ref a7), .val (.int p7), .val (.int q7), .val .null, .val .null] [(.ref a7)])) (fun t k => XS.aloadN X1.here hx rfl (hb hby own_dCnn_4) rfl rfl k) ?_
  refine own_via (B := T1.setTop (mkF m 6 #[.val (.ref a7), .val (.int p7), .val (.int q7), .val .null, .val .null] [(.int p7), (.ref a7)])) (fun t k => XS.iloadN X1.here hx rfl (hb hby own_dCnn_5) rfl k) ?_
  obtain ⟨T2, h2, X2, e2, W2, st2⟩ := putF X1 hx hZ hown (host := "") (Or.inl (hw _ (List.mem_of_getElem? (i := 38) rfl))) Via.refl eq1 F70 E7 (Or.inr ⟨(hw _ (List.mem_of_getElem? (i := 39) rfl)), rfl, hnm⟩) (hw _ (List.mem_of_getElem? (i := 27) rfl)) (ty := .int) (by decide) rfl rfl (g := (mkF m 6 #[.val (.ref a7), .val (.int p7), .val (.int q7), .val .null, .val .null] [(.int p7), (.ref a7)])) rfl rfl (hb hby own_dCnn_6)
  have Fw2 := F70.same W2
  have N2 := Fr.snoc X2 N1 g_a7
  refine own_via (B := T2.setTop (mkF m 9 #[.val (.ref a7), .val (.int p7), .val (.int q7), .val .null, .val .null] [])) (fun t k => st2 t k) ?_
  refine own_via (B := T2.setTop (mkF m 10 #[.val (.ref a7), .val (.int p7), .val (.int q7), .val .null, .val .null] [(.ref a7)])) (fun t k => XS.aloadN X2.here hx rfl (hb hby own_dCnn_9) rfl rfl k) ?_
  refine own_via (B := T2.setTop (mkF m 11 #[.val (.ref a7), .val (.int p7), .val (.int q7), .val .null, .val .null] [(.int q7), (.ref a7)])) (fun t k => XS.iloadN X2.here hx rfl (hb hby own_dCnn_10) rfl k) ?_
  obtain ⟨T3, h3, X3, e3, W3, st3⟩ := putF X2 hx hZ hown (host := "") (Or.inl (hw _ (List.mem_of_getElem? (i := 40) rfl))) Via.refl e2 (F71.other W2 (Or.inr (slot_ne (Or.inr (hw _ (List.mem_of_getElem? (i := 41) rfl))) (Or.inr (hw _ (List.mem_of_getElem? (i := 39) rfl))) (by decide +kernel) (t := .int) (t' := .int) (by decide +kernel) (by decide +kernel)))) (E7.wr W2) (Or.inr ⟨(hw _ (List.mem_of_getElem? (i := 41) rfl)), rfl, hnm⟩) (hw _ (List.mem_of_getElem? (i := 27) rfl)) (ty := .int) (by decide) rfl rfl (g := (mkF m 11 #[.val (.ref a7), .val (.int p7), .val (.int q7), .val .null, .val .null] [(.int q7), (.ref a7)])) rfl rfl (hb hby own_dCnn_11)
  have Fw3 := (F71.other W2 (Or.inr (slot_ne (Or.inr (hw _ (List.mem_of_getElem? (i := 41) rfl))) (Or.inr (hw _ (List.mem_of_getElem? (i := 39) rfl))) (by decide +kernel) (t := .int) (t' := .int) (by decide +kernel) (by decide +kernel)))).same W3
  have N3 := Fr.snoc X3 N2 g_a7
  refine own_via (B := T3.setTop (mkF m 14 #[.val (.ref a7), .val (.int p7), .val (.int q7), .val .null, .val .null] [])) (fun t k => st3 t k) ?_
  refine own_via (B := T3.setTop (mkF m 15 #[.val (.ref a7), .val (.int p7), .val (.int q7), .val .null, .val .null] [(.ref a7)])) (fun t k => XS.aloadN X3.here hx rfl (hb hby own_dCnn_14) rfl rfl k) ?_
  refine own_via (B := T3.setTop (mkF m 16 #[.val (.ref a7), .val (.int p7), .val (.int q7), .val .null, .val .null] [.null, (.ref a7)])) (fun t k => XS.aloadN X3.here hx rfl (hb hby own_dCnn_15) rfl rfl k) ?_
  obtain ⟨T4, h4, X4, e4, W4, st4⟩ := putF X3 hx hZ hown (host := "") (Or.inl (hw _ (List.mem_of_getElem? (i := 42) rfl))) Via.refl e3 ((F72.other W2 (Or.inr (slot_ne (Or.inr (hw _ (List.mem_of_getElem? (i := 43) rfl))) (Or.inr (hw _ (List.mem_of_getElem? (i := 39) rfl))) (by decide +kernel) (t := (.object "com/example/planmend/planmend/pg/FromItem$Leaf")) (t' := .int) (by decide +kernel) (by decide +kernel)))).other W3 (Or.inr (slot_ne (Or.inr (hw _ (List.mem_of_getElem? (i := 43) rfl))) (Or.inr (hw _ (List.mem_of_getElem? (i := 41) rfl))) (by decide +kernel) (t := (.object "com/example/planmend/planmend/pg/FromItem$Leaf")) (t' := .int) (by decide +kernel) (by decide +kernel)))) ((E7.wr W2).wr W3) (Or.inr ⟨(hw _ (List.mem_of_getElem? (i := 43) rfl)), rfl, hnm⟩) (hw _ (List.mem_of_getElem? (i := 27) rfl)) (ty := (.object "com/example/planmend/planmend/pg/FromItem$Leaf")) (by decide) rfl rfl (g := (mkF m 16 #[.val (.ref a7), .val (.int p7), .val (.int q7), .val .null, .val .null] [.null, (.ref a7)])) rfl rfl (hb hby own_dCnn_16)
  have Fw4 := ((F72.other W2 (Or.inr (slot_ne (Or.inr (hw _ (List.mem_of_getElem? (i := 43) rfl))) (Or.inr (hw _ (List.mem_of_getElem? (i := 39) rfl))) (by decide +kernel) (t := (.object "com/example/planmend/planmend/pg/FromItem$Leaf")) (t' := .int) (by decide +kernel) (by decide +kernel)))).other W3 (Or.inr (slot_ne (Or.inr (hw _ (List.mem_of_getElem? (i := 43) rfl))) (Or.inr (hw _ (List.mem_of_getElem? (i := 41) rfl))) (by decide +kernel) (t := (.object "com/example/planmend/planmend/pg/FromItem$Leaf")) (t' := .int) (by decide +kernel) (by decide +kernel)))).same W4
  have N4 := Fr.snoc X4 N3 g_a7
  refine own_via (B := T4.setTop (mkF m 19 #[.val (.ref a7), .val (.int p7), .val (.int q7), .val .null, .val .null] [])) (fun t k => st4 t k) ?_
  refine own_via (B := T4.setTop (mkF m 20 #[.val (.ref a7), .val (.int p7), .val (.int q7), .val .null, .val .null] [(.ref a7)])) (fun t k => XS.aloadN X4.here hx rfl (hb hby own_dCnn_19) rfl rfl k) ?_
  refine own_via (B := T4.setTop (mkF m 22 #[.val (.ref a7), .val (.int p7), .val (.int q7), .val .null, .val .null] [.null, (.ref a7)])) (fun t k => XS.aload X4.here hx rfl (hb hby own_dCnn_20) rfl rfl k) ?_
  obtain ⟨T5, h5, X5, e5, W5, st5⟩ := putF X4 hx hZ hown (host := "") (Or.inl (hw _ (List.mem_of_getElem? (i := 44) rfl))) Via.refl e4 (((F73.other W2 (Or.inr (slot_ne (Or.inr (hw _ (List.mem_of_getElem? (i := 45) rfl))) (Or.inr (hw _ (List.mem_of_getElem? (i := 39) rfl))) (by decide +kernel) (t := (.object "java/lang/String")) (t' := .int) (by decide +kernel) (by decide +kernel)))).other W3 (Or.inr (slot_ne (Or.inr (hw _ (List.mem_of_getElem? (i := 45) rfl))) (Or.inr (hw _ (List.mem_of_getElem? (i := 41) rfl))) (by decide +kernel) (t := (.object "java/lang/String")) (t' := .int) (by decide +kernel) (by decide +kernel)))).other W4 (Or.inr (slot_ne (Or.inr (hw _ (List.mem_of_getElem? (i := 45) rfl))) (Or.inr (hw _ (List.mem_of_getElem? (i := 43) rfl))) (by decide +kernel) (t := (.object "java/lang/String")) (t' := (.object "com/example/planmend/planmend/pg/FromItem$Leaf")) (by decide +kernel) (by decide +kernel)))) (((E7.wr W2).wr W3).wr W4) (Or.inr ⟨(hw _ (List.mem_of_getElem? (i := 45) rfl)), rfl, hnm⟩) (hw _ (List.mem_of_getElem? (i := 27) rfl)) (ty := (.object "java/lang/String")) (by decide) rfl rfl (g := (mkF m 22 #[.val (.ref a7), .val (.int p7), .val (.int q7), .val .null, .val .null] [.null, (.ref a7)])) rfl rfl (hb hby own_dCnn_22)
  have Fw5 := (((F73.other W2 (Or.inr (slot_ne (Or.inr (hw _ (List.mem_of_getElem? (i := 45) rfl))) (Or.inr (hw _ (List.mem_of_getElem? (i := 39) rfl))) (by decide +kernel) (t := (.object "java/lang/String")) (t' := .int) (by decide +kernel) (by decide +kernel)))).other W3 (Or.inr (slot_ne (Or.inr (hw _ (List.mem_of_getElem? (i := 45) rfl))) (Or.inr (hw _ (List.mem_of_getElem? (i := 41) rfl))) (by decide +kernel) (t := (.object "java/lang/String")) (t' := .int) (by decide +kernel) (by decide +kernel)))).other W4 (Or.inr (slot_ne (Or.inr (hw _ (List.mem_of_getElem? (i := 45) rfl))) (Or.inr (hw _ (List.mem_of_getElem? (i := 43) rfl))) (by decide +kernel) (t := (.object "java/lang/String")) (t' := (.object "com/example/planmend/planmend/pg/FromItem$Leaf")) (by decide +kernel) (by decide +kernel)))).same W5
  have N5 := Fr.snoc X5 N4 g_a7
  refine own_via (B := T5.setTop (mkF m 25 #[.val (.ref a7), .val (.int p7), .val (.int q7), .val .null, .val .null] [])) (fun t k => st5 t k) ?_
  refine own_leafV X5 hx hlk Bd.returns (hb hby own_dCnn_25) (by decide) (by decide) ?_
  show QCnn Z a7 p7 q7 u0 u1 u2 u3 h0 n0 _ T5.heap _
  rw [e5]
  refine ⟨?_, N5, (((((Keep.refl h0 [a7]).wr W2 (Or.inl (List.mem_of_getElem? (i := 0) rfl))).wr W3 (Or.inl (List.mem_of_getElem? (i := 0) rfl))).wr W4 (Or.inl (List.mem_of_getElem? (i := 0) rfl))).wr W5 (Or.inl (List.mem_of_getElem? (i := 0) rfl))), (((Fw2.other W3 (Or.inr (slot_ne (Or.inr (hw _ (List.mem_of_getElem? (i := 39) rfl))) (Or.inr (hw _ (List.mem_of_getElem? (i := 41) rfl))) (by decide +kernel) (t := .int) (t' := .int) (by decide +kernel) (by decide +kernel)))).other W4 (Or.inr (slot_ne (Or.inr (hw _ (List.mem_of_getElem? (i := 39) rfl))) (Or.inr (hw _ (List.mem_of_getElem? (i := 43) rfl))) (by decide +kernel) (t := .int) (t' := (.object "com/example/planmend/planmend/pg/FromItem$Leaf")) (by decide +kernel) (by decide +kernel)))).other W5 (Or.inr (slot_ne (Or.inr (hw _ (List.mem_of_getElem? (i := 39) rfl))) (Or.inr (hw _ (List.mem_of_getElem? (i := 45) rfl))) (by decide +kernel) (t := .int) (t' := (.object "java/lang/String")) (by decide +kernel) (by decide +kernel)))), ((Fw3.other W4 (Or.inr (slot_ne (Or.inr (hw _ (List.mem_of_getElem? (i := 41) rfl))) (Or.inr (hw _ (List.mem_of_getElem? (i := 43) rfl))) (by decide +kernel) (t := .int) (t' := (.object "com/example/planmend/planmend/pg/FromItem$Leaf")) (by decide +kernel) (by decide +kernel)))).other W5 (Or.inr (slot_ne (Or.inr (hw _ (List.mem_of_getElem? (i := 41) rfl))) (Or.inr (hw _ (List.mem_of_getElem? (i := 45) rfl))) (by decide +kernel) (t := .int) (t' := (.object "java/lang/String")) (by decide +kernel) (by decide +kernel)))), (Fw4.other W5 (Or.inr (slot_ne (Or.inr (hw _ (List.mem_of_getElem? (i := 43) rfl))) (Or.inr (hw _ (List.mem_of_getElem? (i := 45) rfl))) (by decide +kernel) (t := (.object "com/example/planmend/planmend/pg/FromItem$Leaf")) (t' := (.object "java/lang/String")) (by decide +kernel) (by decide +kernel)))), Fw5⟩
  rfl
theorem own_dCnr_0 : decode prog_47_method_1_code 0 = .ok (.aload_n 0, 1) := by decide +kernel
theorem own_dCnr_1 : decode prog_47_method_1_code 1 = .ok (.invokespecial 1, 3) := by decide +kernel
theorem own_dCnr_4 : decode prog_47_method_1_code 4 = .ok (.aload_n 0, 1) := by decide +kernel
theorem own_dCnr_5 : decode prog_47_method_1_code 5 = .ok (.iload_n 1, 1) := by decide +kernel
theorem own_dCnr_6 : decode prog_47_method_1_code 6 = .ok (.putfield 7, 3) := by decide +kernel
theorem own_dCnr_9 : decode prog_47_method_1_code 9 = .ok (.aload_n 0, 1) := by decide +kernel
theorem own_dCnr_10 : decode prog_47_method_1_code 10 = .ok (.iload_n 2, 1) := by decide +kernel
theorem own_dCnr_11 : decode prog_47_method_1_code 11 = .ok (.putfield 13, 3) := by decide +kernel
theorem own_dCnr_14 : decode prog_47_method_1_code 14 = .ok (.aload_n 0, 1) := by decide +kernel
theorem own_dCnr_15 : decode prog_47_method_1_code 15 = .ok (.aload_n 3, 1) := by decide +kernel
theorem own_dCnr_16 : decode prog_47_method_1_code 16 = .ok (.putfield 16, 3) := by decide +kernel
theorem own_dCnr_19 : decode prog_47_method_1_code 19 = .ok (.aload_n 0, 1) := by decide +kernel
theorem own_dCnr_20 : decode prog_47_method_1_code 20 = .ok (.aload 4, 2) := by decide +kernel
theorem own_dCnr_22 : decode prog_47_method_1_code 22 = .ok (.putfield 20, 3) := by decide +kernel
theorem own_dCnr_25 : decode prog_47_method_1_code 25 = .ok (.return_, 1) := by decide +kernel
theorem own_efCnr (m : MethodId) (x0 : Addr) (x1 : Int32) (x2 : Int32) (x4 : Addr) : entryFrame m #[(.ref x0), (.int x1), (.int x2), .null, (.ref x4)] 5 = mkF m 0 #[.val (.ref x0), .val (.int x1), .val (.int x2), .val .null, .val (.ref x4)] [] := by first | (simp [entryFrame, mkF, argsToLocals, Value.category]; done) | rfl
def QCnr (Z : State) (a7 : Addr) (p7 : Int32) (q7 : Int32) (c7 : Addr) (u0 : Value) (u1 : Value) (u2 : Value) (u3 : Value) (h0 : Heap) (n0 : Nat) (v : Option Value) (h : Heap) (L : List Loc) : Prop := v = none ∧ Fr n0 L ∧ Keep h0 h [a7] ∧ (Fld Z h a7 "com/example/planmend/planmend/pg/SelectBlock$ColumnReference" "token" "I" (.int p7)) ∧ (Fld Z h a7 "com/example/planmend/planmend/pg/SelectBlock$ColumnReference" "qualifier" "I" (.int q7)) ∧ (Fld Z h a7 "com/example/planmend/planmend/pg/SelectBlock$ColumnReference" "target" "Lcom/example/planmend/planmend/pg/FromItem$Leaf;" .null) ∧ (Fld Z h a7 "com/example/planmend/planmend/pg/SelectBlock$ColumnReference" "column" "Ljava/lang/String;" (.ref c7))
set_option maxRecDepth 65536 in
set_option maxHeartbeats 40000000 in
theorem rmCnr (l : Launch) (Z : State) (a0 : Array Value) (hw : ∀ d ∈ tables_1, d.before a0 Z = true) (ws : List Jvm.Cond) (a7 : Addr) (p7 : Int32) (q7 : Int32) (c7 : Addr) (u0 : Value) (u1 : Value) (u2 : Value) (u3 : Value) (h0 : Heap) (n0 : Nat) (Z0 : n0 ≤ h0.size) (E7 : Exa Z h0 a7 "com/example/planmend/planmend/pg/SelectBlock$ColumnReference") (F70 : Fld Z h0 a7 "com/example/planmend/planmend/pg/SelectBlock$ColumnReference" "token" "I" u0) (F71 : Fld Z h0 a7 "com/example/planmend/planmend/pg/SelectBlock$ColumnReference" "qualifier" "I" u1) (F72 : Fld Z h0 a7 "com/example/planmend/planmend/pg/SelectBlock$ColumnReference" "target" "Lcom/example/planmend/planmend/pg/FromItem$Leaf;" u2) (F73 : Fld Z h0 a7 "com/example/planmend/planmend/pg/SelectBlock$ColumnReference" "column" "Ljava/lang/String;" u3) (g_a7 : n0 ≤ a7) :
    MetFree l (⟨"com/example/planmend/planmend/pg/SelectBlock$ColumnReference", "<init>", "(IILcom/example/planmend/planmend/pg/FromItem$Leaf;Ljava/lang/String;)V"⟩ : MethodName) (head1 (Jvm.Cond.code (⟨"com/example/planmend/planmend/pg/SelectBlock$ColumnReference", "<init>", "(IILcom/example/planmend/planmend/pg/FromItem$Leaf;Ljava/lang/String;)V"⟩ : MethodName) prog_47_method_1_code 5 none :: ws) ({ frames := 2, cells := 0, slots := 0, locals := 24 } : Room)) (fun a U => a = #[(.ref a7), (.int p7), (.int q7), .null, (.ref c7)] ∧ Z.Warmed39 U.vm ∧ U.heap = h0) (fun _ _ _ _ _ => True) (fun _ U o U' => ∃ v L, o = .returned v ∧ QCnr Z a7 p7 q7 c7 u0 u1 u2 u3 h0 n0 v U'.heap L ∧ FrameEnd U o U' L ({ frames := 2, cells := 0, slots := 0, locals := 24 } : Room).cells ({ frames := 2, cells := 0, slots := 0, locals := 24 } : Room).slots) := by
  refine MetFree.of_bodySF (plainFor_of_name own_pn3) hisR ?_
  intro p e s m args below meth c s₁ Bd hml0 hP hK
  obtain ⟨rfl, hZ, hh⟩ := hP
  have hx := Bd.exec
  have hby := Bd.bytes
  have hlk : meth.locks = false := Bd.notSynchronized
  have hml : c.maxLocals = 5 := hml0
  have hown : s.vm.findClass "com/example/planmend/planmend/pg/SelectBlock$ColumnReference" = some m.cls := findClass_of_methodNamed Bd.named
  have hnm := (name_of_methodNamed Bd.named Bd.method).1
  have X0 : Stand p l e ({ frames := 2, cells := 0, slots := 0, locals := 24 } : Room) s m #[(.ref a7), (.int p7), (.int q7), .null, (.ref c7)] below meth c s₁ [] 0 0 := Stand.of_body Bd
  have e0 : s₁.heap = h0 := by rw [← hh, Bd.state]; rfl
  have N0 := Fr.nil n0
  refine own_body (A := s₁.setTop (mkF m 0 #[.val (.ref a7), .val (.int p7), .val (.int q7), .val .null, .val (.ref c7)] [])) (Q := QCnr Z a7 p7 q7 c7 u0 u1 u2 u3 h0 n0) (fun t k => castTop (own_efCnr m a7 p7 q7 c7) k) ?_
  refine own_via (B := s₁.setTop (mkF m 1 #[.val (.ref a7), .val (.int p7), .val (.int q7), .val .null, .val (.ref c7)] [(.ref a7)])) (fun t k => XS.aloadN X0.here hx rfl (hb hby own_dCnr_0) rfl rfl k) ?_
  obtain ⟨_, _, ⟨T1, L1, k1, n1⟩, -, X1, ⟨Lc1, hQ1, l1, y1, z1⟩, st1⟩ := X0.specialBack hx (y := (⟨"java/lang/Record", "<init>", "()V"⟩ : MethodName)) rfl hown (mvT hZ (hw _ (List.mem_of_getElem? (i := 32) rfl))) (mvT hZ (hw _ (List.mem_of_getElem? (i := 33) rfl))) (mvT hZ (hw _ (List.mem_of_getElem? (i := 36) rfl))) (by decide) (backOf (W := 0) (rmR l Z a0 hw [] a7 h0 n0 Z0 ) hZ (hw _ (List.mem_of_getElem? (i := 36) rfl)) (hw _ (List.mem_of_getElem? (i := 35) rfl)) (by decide) (by decide)) (g := (mkF m 1 #[.val (.ref a7), .val (.int p7), .val (.int q7), .val .null, .val (.ref c7)] [(.ref a7)])) rfl (by rw [hml]; rfl) (Steps.refl _) (a := a7) (argsL := []) (rest := []) (lenOf own_pd4 rfl) rfl (by show 2 * 0 + _ ≤ _; exact Nat.le_of_eq rfl) (hb hby own_dCnr_1) (fun _ _ => ⟨rfl, e0, (by decide : 0 + 0 ≤ _), (by decide : 0 + 0 ≤ _)⟩)
  dsimp only [Pt.U, Pt.locs, Pt.cells, Pt.slots] at X1 l1 y1 z1 st1 hQ1
  subst l1 y1 z1
  obtain ⟨rfl, Nq1, eq1⟩ := hQ1
  have N1 := Fr.app N0 Nq1
  refine own_via (B := T1.setTop (mkF m 4 #[.val (.ref a7), .val (.int p7), .val (.int q7), .val .null, .val (.ref c7)] [])) (fun t k => st1.trans k) ?_
  refine own_via (B := T1.setTop (mkF m 5 #[.val (.ref a7), .val (.int p7), .val (.int q7), .val .null, .val (.ref c7)] [(.ref a7)])) (fun t k => XS.aloadN X1.here hx rfl (hb hby own_dCnr_4) rfl rfl k) ?_
  refine own_via (B := T1.setTop (mkF m 6 #[.val (.ref a7), .val (.int p7), .val (.int q7), .val .null, .val (.ref c7)] [(.int p7), (.ref a7)])) (fun t k => XS.iloadN X1.here hx rfl (hb hby own_dCnr_5) rfl k) ?_
  obtain ⟨T2, h2, X2, e2, W2, st2⟩ := putF X1 hx hZ hown (host := "") (Or.inl (hw _ (List.mem_of_getElem? (i := 38) rfl))) Via.refl eq1 F70 E7 (Or.inr ⟨(hw _ (List.mem_of_getElem? (i := 39) rfl)), rfl, hnm⟩) (hw _ (List.mem_of_getElem? (i := 27) rfl)) (ty := .int) (by decide) rfl rfl (g := (mkF m 6 #[.val (.ref a7), .val (.int p7), .val (.int q7), .val .null, .val (.ref c7)] [(.int p7), (.ref a7)])) rfl rfl (hb hby own_dCnr_6)
  have Fw2 := F70.same W2
  have N2 := Fr.snoc X2 N1 g_a7
  refine own_via (B := T2.setTop (mkF m 9 #[.val (.ref a7), .val (.int p7), .val (.int q7), .val .null, .val (.ref c7)] [])) (fun t k => st2 t k) ?_
  refine own_via (B := T2.setTop (mkF m 10 #[.val (.ref a7), .val (.int p7), .val (.int q7), .val .null, .val (.ref c7)] [(.ref a7)])) (fun t k => XS.aloadN X2.here hx rfl (hb hby own_dCnr_9) rfl rfl k) ?_
  refine own_via (B := T2.setTop (mkF m 11 #[.val (.ref a7), .val (.int p7), .val (.int q7), .val .null, .val (.ref c7)] [(.int q7), (.ref a7)])) (fun t k => XS.iloadN X2.here hx rfl (hb hby own_dCnr_10) rfl k) ?_
  obtain ⟨T3, h3, X3, e3, W3, st3⟩ := putF X2 hx hZ hown (host := "") (Or.inl (hw _ (List.mem_of_getElem? (i := 40) rfl))) Via.refl e2 (F71.other W2 (Or.inr (slot_ne (Or.inr (hw _ (List.mem_of_getElem? (i := 41) rfl))) (Or.inr (hw _ (List.mem_of_getElem? (i := 39) rfl))) (by decide +kernel) (t := .int) (t' := .int) (by decide +kernel) (by decide +kernel)))) (E7.wr W2) (Or.inr ⟨(hw _ (List.mem_of_getElem? (i := 41) rfl)), rfl, hnm⟩) (hw _ (List.mem_of_getElem? (i := 27) rfl)) (ty := .int) (by decide) rfl rfl (g := (mkF m 11 #[.val (.ref a7), .val (.int p7), .val (.int q7), .val .null, .val (.ref c7)] [(.int q7), (.ref a7)])) rfl rfl (hb hby own_dCnr_11)
  have Fw3 := (F71.other W2 (Or.inr (slot_ne (Or.inr (hw _ (List.mem_of_getElem? (i := 41) rfl))) (Or.inr (hw _ (List.mem_of_getElem? (i := 39) rfl))) (by decide +kernel) (t := .int) (t' := .int) (by decide +kernel) (by decide +kernel)))).same W3
  have N3 := Fr.snoc X3 N2 g_a7
  refine own_via (B := T3.setTop (mkF m 14 #[.val (.ref a7), .val (.int p7), .val (.int q7), .val .null, .val (.ref c7)] [])) (fun t k => st3 t k) ?_
  refine own_via (B := T3.setTop (mkF m 15 #[.val (.ref a7), .val (.int p7), .val (.int q7), .val .null, .val (.ref c7)] [(.ref a7)])) (fun t k => XS.aloadN X3.here hx rfl (hb hby own_dCnr_14) rfl rfl k) ?_
  refine own_via (B := T3.setTop (mkF m 16 #[.val (.ref a7), .val (.int p7), .val (.int q7), .val .null, .val (.ref c7)] [.null, (.ref a7)])) (fun t k => XS.aloadN X3.here hx rfl (hb hby own_dCnr_15) rfl rfl k) ?_
  obtain ⟨T4, h4, X4, e4, W4, st4⟩ := putF X3 hx hZ hown (host := "") (Or.inl (hw _ (List.mem_of_getElem? (i := 42) rfl))) Via.refl e3 ((F72.other W2 (Or.inr (slot_ne (Or.inr (hw _ (List.mem_of_getElem? (i := 43) rfl))) (Or.inr (hw _ (List.mem_of_getElem? (i := 39) rfl))) (by decide +kernel) (t := (.object "com/example/planmend/planmend/pg/FromItem$Leaf")) (t' := .int) (by decide +kernel) (by decide +kernel)))).other W3 (Or.inr (slot_ne (Or.inr (hw _ (List.mem_of_getElem? (i := 43) rfl))) (Or.inr (hw _ (List.mem_of_getElem? (i := 41) rfl))) (by decide +kernel) (t := (.object "com/example/planmend/planmend/pg/FromItem$Leaf")) (t' := .int) (by decide +kernel) (by decide +kernel)))) ((E7.wr W2).wr W3) (Or.inr ⟨(hw _ (List.mem_of_getElem? (i := 43) rfl)), rfl, hnm⟩) (hw _ (List.mem_of_getElem? (i := 27) rfl)) (ty := (.object "com/example/planmend/planmend/pg/FromItem$Leaf")) (by decide) rfl rfl (g := (mkF m 16 #[.val (.ref a7), .val (.int p7), .val (.int q7), .val .null, .val (.ref c7)] [.null, (.ref a7)])) rfl rfl (hb hby own_dCnr_16)
  have Fw4 := ((F72.other W2 (Or.inr (slot_ne (Or.inr (hw _ (List.mem_of_getElem? (i := 43) rfl))) (Or.inr (hw _ (List.mem_of_getElem? (i := 39) rfl))) (by decide +kernel) (t := (.object "com/example/planmend/planmend/pg/FromItem$Leaf")) (t' := .int) (by decide +kernel) (by decide +kernel)))).other W3 (Or.inr (slot_ne (Or.inr (hw _ (List.mem_of_getElem? (i := 43) rfl))) (Or.inr (hw _ (List.mem_of_getElem? (i := 41) rfl))) (by decide +kernel) (t := (.object "com/example/planmend/planmend/pg/FromItem$Leaf")) (t' := .int) (by decide +kernel) (by decide +kernel)))).same W4
  have N4 := Fr.snoc X4 N3 g_a7
  refine own_via (B := T4.setTop (mkF m 19 #[.val (.ref a7), .val (.int p7), .val (.int q7), .val .null, .val (.ref c7)] [])) (fun t k => st4 t k) ?_
  refine own_via (B := T4.setTop (mkF m 20 #[.val (.ref a7), .val (.int p7), .val (.int q7), .val .null, .val (.ref c7)] [(.ref a7)])) (fun t k => XS.aloadN X4.here hx rfl (hb hby own_dCnr_19) rfl rfl k) ?_
  refine own_via (B := T4.setTop (mkF m 22 #[.val (.ref a7), .val (.int p7), .val (.int q7), .val .null, .val (.ref c7)] [(.ref c7), (.ref a7)])) (fun t k => XS.aload X4.here hx rfl (hb hby own_dCnr_20) rfl rfl k) ?_
  obtain ⟨T5, h5, X5, e5, W5, st5⟩ := putF X4 hx hZ hown (host := "") (Or.inl (hw _ (List.mem_of_getElem? (i := 44) rfl))) Via.refl e4 (((F73.other W2 (Or.inr (slot_ne (Or.inr (hw _ (List.mem_of_getElem? (i := 45) rfl))) (Or.inr (hw _ (List.mem_of_getElem? (i := 39) rfl))) (by decide +kernel) (t := (.object "java/lang/String")) (t' := .int) (by decide +kernel) (by decide +kernel)))).other W3 (Or.inr (slot_ne (Or.inr (hw _ (List.mem_of_getElem? (i := 45) rfl))) (Or.inr (hw _ (List.mem_of_getElem? (i := 41) rfl))) (by decide +kernel) (t := (.object "java/lang/String")) (t' := .int) (by decide +kernel) (by decide +kernel)))).other W4 (Or.inr (slot_ne (Or.inr (hw _ (List.mem_of_getElem? (i := 45) rfl))) (Or.inr (hw _ (List.mem_of_getElem? (i := 43) rfl))) (by decide +kernel) (t := (.object "java/lang/String")) (t' := (.object "com/example/planmend/planmend/pg/FromItem$Leaf")) (by decide +kernel) (by decide +kernel)))) (((E7.wr W2).wr W3).wr W4) (Or.inr ⟨(hw _ (List.mem_of_getElem? (i := 45) rfl)), rfl, hnm⟩) (hw _ (List.mem_of_getElem? (i := 27) rfl)) (ty := (.object "java/lang/String")) (by decide) rfl rfl (g := (mkF m 22 #[.val (.ref a7), .val (.int p7), .val (.int q7), .val .null, .val (.ref c7)] [(.ref c7), (.ref a7)])) rfl rfl (hb hby own_dCnr_22)
  have Fw5 := (((F73.other W2 (Or.inr (slot_ne (Or.inr (hw _ (List.mem_of_getElem? (i := 45) rfl))) (Or.inr (hw _ (List.mem_of_getElem? (i := 39) rfl))) (by decide +kernel) (t := (.object "java/lang/String")) (t' := .int) (by decide +kernel) (by decide +kernel)))).other W3 (Or.inr (slot_ne (Or.inr (hw _ (List.mem_of_getElem? (i := 45) rfl))) (Or.inr (hw _ (List.mem_of_getElem? (i := 41) rfl))) (by decide +kernel) (t := (.object "java/lang/String")) (t' := .int) (by decide +kernel) (by decide +kernel)))).other W4 (Or.inr (slot_ne (Or.inr (hw _ (List.mem_of_getElem? (i := 45) rfl))) (Or.inr (hw _ (List.mem_of_getElem? (i := 43) rfl))) (by decide +kernel) (t := (.object "java/lang/String")) (t' := (.object "com/example/planmend/planmend/pg/FromItem$Leaf")) (by decide +kernel) (by decide +kernel)))).same W5
  have N5 := Fr.snoc X5 N4 g_a7
  refine own_via (B := T5.setTop (mkF m 25 #[.val (.ref a7), .val (.int p7), .val (.int q7), .val .null, .val (.ref c7)] [])) (fun t k => st5 t k) ?_
  refine own_leafV X5 hx hlk Bd.returns (hb hby own_dCnr_25) (by decide) (by decide) ?_
  show QCnr Z a7 p7 q7 c7 u0 u1 u2 u3 h0 n0 _ T5.heap _
  rw [e5]
  refine ⟨?_, N5, (((((Keep.refl h0 [a7]).wr W2 (Or.inl (List.mem_of_getElem? (i := 0) rfl))).wr W3 (Or.inl (List.mem_of_getElem? (i := 0) rfl))).wr W4 (Or.inl (List.mem_of_getElem? (i := 0) rfl))).wr W5 (Or.inl (List.mem_of_getElem? (i := 0) rfl))), (((Fw2.other W3 (Or.inr (slot_ne (Or.inr (hw _ (List.mem_of_getElem? (i := 39) rfl))) (Or.inr (hw _ (List.mem_of_getElem? (i := 41) rfl))) (by decide +kernel) (t := .int) (t' := .int) (by decide +kernel) (by decide +kernel)))).other W4 (Or.inr (slot_ne (Or.inr (hw _ (List.mem_of_getElem? (i := 39) rfl))) (Or.inr (hw _ (List.mem_of_getElem? (i := 43) rfl))) (by decide +kernel) (t := .int) (t' := (.object "com/example/planmend/planmend/pg/FromItem$Leaf")) (by decide +kernel) (by decide +kernel)))).other W5 (Or.inr (slot_ne (Or.inr (hw _ (List.mem_of_getElem? (i := 39) rfl))) (Or.inr (hw _ (List.mem_of_getElem? (i := 45) rfl))) (by decide +kernel) (t := .int) (t' := (.object "java/lang/String")) (by decide +kernel) (by decide +kernel)))), ((Fw3.other W4 (Or.inr (slot_ne (Or.inr (hw _ (List.mem_of_getElem? (i := 41) rfl))) (Or.inr (hw _ (List.mem_of_getElem? (i := 43) rfl))) (by decide +kernel) (t := .int) (t' := (.object "com/example/planmend/planmend/pg/FromItem$Leaf")) (by decide +kernel) (by decide +kernel)))).other W5 (Or.inr (slot_ne (Or.inr (hw _ (List.mem_of_getElem? (i := 41) rfl))) (Or.inr (hw _ (List.mem_of_getElem? (i := 45) rfl))) (by decide +kernel) (t := .int) (t' := (.object "java/lang/String")) (by decide +kernel) (by decide +kernel)))), (Fw4.other W5 (Or.inr (slot_ne (Or.inr (hw _ (List.mem_of_getElem? (i := 43) rfl))) (Or.inr (hw _ (List.mem_of_getElem? (i := 45) rfl))) (by decide +kernel) (t := (.object "com/example/planmend/planmend/pg/FromItem$Leaf")) (t' := (.object "java/lang/String")) (by decide +kernel) (by decide +kernel)))), Fw5⟩
  rfl
theorem own_dCrn_0 : decode prog_47_method_1_code 0 = .ok (.aload_n 0, 1) := by decide +kernel
theorem own_dCrn_1 : decode prog_47_method_1_code 1 = .ok (.invokespecial 1, 3) := by decide +kernel
theorem own_dCrn_4 : decode prog_47_method_1_code 4 = .ok (.aload_n 0, 1) := by decide +kernel
theorem own_dCrn_5 : decode prog_47_method_1_code 5 = .ok (.iload_n 1, 1) := by decide +kernel
theorem own_dCrn_6 : decode prog_47_method_1_code 6 = .ok (.putfield 7, 3) := by decide +kernel
theorem own_dCrn_9 : decode prog_47_method_1_code 9 = .ok (.aload_n 0, 1) := by decide +kernel
theorem own_dCrn_10 : decode prog_47_method_1_code 10 = .ok (.iload_n 2, 1) := by decide +kernel
theorem own_dCrn_11 : decode prog_47_method_1_code 11 = .ok (.putfield 13, 3) := by decide +kernel
theorem own_dCrn_14 : decode prog_47_method_1_code 14 = .ok (.aload_n 0, 1) := by decide +kernel
theorem own_dCrn_15 : decode prog_47_method_1_code 15 = .ok (.aload_n 3, 1) := by decide +kernel
theorem own_dCrn_16 : decode prog_47_method_1_code 16 = .ok (.putfield 16, 3) := by decide +kernel
theorem own_dCrn_19 : decode prog_47_method_1_code 19 = .ok (.aload_n 0, 1) := by decide +kernel
theorem own_dCrn_20 : decode prog_47_method_1_code 20 = .ok (.aload 4, 2) := by decide +kernel
theorem own_dCrn_22 : decode prog_47_method_1_code 22 = .ok (.putfield 20, 3) := by decide +kernel
theorem own_dCrn_25 : decode prog_47_method_1_code 25 = .ok (.return_, 1) := by decide +kernel
theorem own_efCrn (m : MethodId) (x0 : Addr) (x1 : Int32) (x2 : Int32) (x3 : Addr) : entryFrame m #[(.ref x0), (.int x1), (.int x2), (.ref x3), .null] 5 = mkF m 0 #[.val (.ref x0), .val (.int x1), .val (.int x2), .val (.ref x3), .val .null] [] := by first | (simp [entryFrame, mkF, argsToLocals, Value.category]; done) | rfl
def QCrn (Z : State) (a7 : Addr) (p7 : Int32) (q7 : Int32) (t7 : Addr) (u0 : Value) (u1 : Value) (u2 : Value) (u3 : Value) (h0 : Heap) (n0 : Nat) (v : Option Value) (h : Heap) (L : List Loc) : Prop := v = none ∧ Fr n0 L ∧ Keep h0 h [a7] ∧ (Fld Z h a7 "com/example/planmend/planmend/pg/SelectBlock$ColumnReference" "token" "I" (.int p7)) ∧ (Fld Z h a7 "com/example/planmend/planmend/pg/SelectBlock$ColumnReference" "qualifier" "I" (.int q7)) ∧ (Fld Z h a7 "com/example/planmend/planmend/pg/SelectBlock$ColumnReference" "target" "Lcom/example/planmend/planmend/pg/FromItem$Leaf;" (.ref t7)) ∧ (Fld Z h a7 "com/example/planmend/planmend/pg/SelectBlock$ColumnReference" "column" "Ljava/lang/String;" .null)
set_option maxRecDepth 65536 in
set_option maxHeartbeats 40000000 in
theorem rmCrn (l : Launch) (Z : State) (a0 : Array Value) (hw : ∀ d ∈ tables_1, d.before a0 Z = true) (ws : List Jvm.Cond) (a7 : Addr) (p7 : Int32) (q7 : Int32) (t7 : Addr) (u0 : Value) (u1 : Value) (u2 : Value) (u3 : Value) (h0 : Heap) (n0 : Nat) (Z0 : n0 ≤ h0.size) (E7 : Exa Z h0 a7 "com/example/planmend/planmend/pg/SelectBlock$ColumnReference") (F70 : Fld Z h0 a7 "com/example/planmend/planmend/pg/SelectBlock$ColumnReference" "token" "I" u0) (F71 : Fld Z h0 a7 "com/example/planmend/planmend/pg/SelectBlock$ColumnReference" "qualifier" "I" u1) (F72 : Fld Z h0 a7 "com/example/planmend/planmend/pg/SelectBlock$ColumnReference" "target" "Lcom/example/planmend/planmend/pg/FromItem$Leaf;" u2) (F73 : Fld Z h0 a7 "com/example/planmend/planmend/pg/SelectBlock$ColumnReference" "column" "Ljava/lang/String;" u3) (g_a7 : n0 ≤ a7) :
    MetFree l (⟨"com/example/planmend/planmend/pg/SelectBlock$ColumnReference", "<init>", "(IILcom/example/planmend/planmend/pg/FromItem$Leaf;Ljava/lang/String;)V"⟩ : MethodName) (head1 (Jvm.Cond.code (⟨"com/example/planmend/planmend/pg/SelectBlock$ColumnReference", "<init>", "(IILcom/example/planmend/planmend/pg/FromItem$Leaf;Ljava/lang/String;)V"⟩ : MethodName) prog_47_method_1_code 5 none :: ws) ({ frames := 2, cells := 0, slots := 0, locals := 24 } : Room)) (fun a U => a = #[(.ref a7), (.int p7), (.int q7), (.ref t7), .null] ∧ Z.Warmed39 U.vm ∧ U.heap = h0) (fun _ _ _ _ _ => True) (fun _ U o U' => ∃ v L, o = .returned v ∧ QCrn Z a7 p7 q7 t7 u0 u1 u2 u3 h0 n0 v U'.heap L ∧ FrameEnd U o U' L ({ frames := 2, cells := 0, slots := 0, locals := 24 } : Room).cells ({ frames := 2, cells := 0, slots := 0, locals := 24 } : Room).slots) := by
  refine MetFree.of_bodySF (plainFor_of_name own_pn3) hisR ?_
  intro p e s m args below meth c s₁ Bd hml0 hP hK
  obtain ⟨rfl, hZ, hh⟩ := hP
  have hx := Bd.exec
  have hby := Bd.bytes
  have hlk : meth.locks = false := Bd.notSynchronized
  have hml : c.maxLocals = 5 := hml0
  have hown : s.vm.findClass "com/example/planmend/planmend/pg/SelectBlock$ColumnReference" = some m.cls := findClass_of_methodNamed Bd.named
  have hnm := (name_of_methodNamed Bd.named Bd.method).1
  have X0 : Stand p l e ({ frames := 2, cells := 0, slots := 0, locals := 24 } : Room) s m #[(.ref a7), (.int p7), (.int q7), (.ref t7), .null] below meth c s₁ [] 0 0 := Stand.of_body Bd
  have e0 : s₁.heap = h0 := by rw [← hh, Bd.state]; rfl
  have N0 := Fr.nil n0
  refine own_body (A := s₁.setTop (mkF m 0 #[.val (.ref a7), .val (.int p7), .val (.int q7), .val (.ref t7), .val .null] [])) (Q := QCrn Z a7 p7 q7 t7 u0 u1 u2 u3 h0 n0) (fun t k => castTop (own_efCrn m a7 p7 q7 t7) k) ?_
  refine own_via (B := s₁.setTop (mkF m 1 #[.val (.ref a7), .val (.int p7), .val (.int q7), .val (.ref t7), .val .null] [(.ref a7)])) (fun t k => XS.aloadN X0.here hx rfl (hb hby own_dCrn_0) rfl rfl k) ?_
  obtain ⟨_, _, ⟨T1, L1, k1, n1⟩, -, X1, ⟨Lc1, hQ1, l1, y1, z1⟩, st1⟩ := X0.specialBack hx (y := (⟨"java/lang/Record", "<init>", "()V"⟩ : MethodName)) rfl hown (mvT hZ (hw _ (List.mem_of_getElem? (i := 32) rfl))) (mvT hZ (hw _ (List.mem_of_getElem? (i := 33) rfl))) (mvT hZ (hw _ (List.mem_of_getElem? (i := 36) rfl))) (by decide) (backOf (W := 0) (rmR l Z a0 hw [] a7 h0 n0 Z0 ) hZ (hw _ (List.mem_of_getElem? (i := 36) rfl)) (hw _ (List.mem_of_getElem? (i := 35) rfl)) (by decide) (by decide)) (g := (mkF m 1 #[.val (.ref a7), .val (.int p7), .val (.int q7), .val (.ref t7), .val .null] [(.ref a7)])) rfl (by rw [hml]; rfl) (Steps.refl _) (a := a7) (argsL := []) (rest := []) (lenOf own_pd4 rfl) rfl (by show 2 * 0 + _ ≤ _; exact Nat.le_of_eq rfl) (hb hby own_dCrn_1) (fun _ _ => ⟨rfl, e0, (by decide : 0 + 0 ≤ _), (by decide : 0 + 0 ≤ _)⟩)
  dsimp only [Pt.U, Pt.locs, Pt.cells, Pt.slots] at X1 l1 y1 z1 st1 hQ1
  subst l1 y1 z1
  obtain ⟨rfl, Nq1, eq1⟩ := hQ1
  have N1 := Fr.app N0 Nq1
  refine own_via (B := T1.setTop (mkF m 4 #[.val (.ref a7), .val (.int p7), .val (.int q7), .val (.ref t7), .val .null] [])) (fun t k => st1.trans k) ?_
  refine own_via (B := T1.setTop (mkF m 5 #[.val (.ref a7), .val (.int p7), .val (.int q7), .val (.ref t7), .val .null] [(.ref a7)])) (fun t k => XS.aloadN X1.here hx rfl (hb hby own_dCrn_4) rfl rfl k) ?_
  refine own_via (B := T1.setTop (mkF m 6 #[.val (.ref a7), .val (.int p7), .val (.int q7), .val (.ref t7), .val .null] [(.int p7), (.ref a7)])) (fun t k => XS.iloadN X1.here hx rfl (hb hby own_dCrn_5) rfl k) ?_
  obtain ⟨T2, h2, X2, e2, W2, st2⟩ := putF X1 hx hZ hown (host := "") (Or.inl (hw _ (List.mem_of_getElem? (i := 38) rfl))) Via.refl eq1 F70 E7 (Or.inr ⟨(hw _ (List.mem_of_getElem? (i := 39) rfl)), rfl, hnm⟩) (hw _ (List.mem_of_getElem? (i := 27) rfl)) (ty := .int) (by decide) rfl rfl (g := (mkF m 6 #[.val (.ref a7), .val (.int p7), .val (.int q7), .val (.ref t7), .val .null] [(.int p7), (.ref a7)])) rfl rfl (hb hby own_dCrn_6)
  have Fw2 := F70.same W2
  have N2 := Fr.snoc X2 N1 g_a7
  refine own_via (B := T2.setTop (mkF m 9 #[.val (.ref a7), .val (.int p7), .val (.int q7), .val (.ref t7), .val .null] [])) (fun t k => st2 t k) ?_
  refine own_via (B := T2.setTop (mkF m 10 #[.val (.ref a7), .val (.int p7), .val (.int q7), .val (.ref t7), .val .null] [(.ref a7)])) (fun t k => XS.aloadN X2.here hx rfl (hb hby own_dCrn_9) rfl rfl k) ?_
  refine own_via (B := T2.setTop (mkF m 11 #[.val (.ref a7), .val (.int p7), .val (.int q7), .val (.ref t7), .val .null] [(.int q7), (.ref a7)])) (fun t k => XS.iloadN X2.here hx rfl (hb hby own_dCrn_10) rfl k) ?_
  obtain ⟨T3, h3, X3, e3, W3, st3⟩ := putF X2 hx hZ hown (host := "") (Or.inl (hw _ (List.mem_of_getElem? (i := 40) rfl))) Via.refl e2 (F71.other W2 (Or.inr (slot_ne (Or.inr (hw _ (List.mem_of_getElem? (i := 41) rfl))) (Or.inr (hw _ (List.mem_of_getElem? (i := 39) rfl))) (by decide +kernel) (t := .int) (t' := .int) (by decide +kernel) (by decide +kernel)))) (E7.wr W2) (Or.inr ⟨(hw _ (List.mem_of_getElem? (i := 41) rfl)), rfl, hnm⟩) (hw _ (List.mem_of_getElem? (i := 27) rfl)) (ty := .int) (by decide) rfl rfl (g := (mkF m 11 #[.val (.ref a7), .val (.int p7), .val (.int q7), .val (.ref t7), .val .null] [(.int q7), (.ref a7)])) rfl rfl (hb hby own_dCrn_11)
  have Fw3 := (F71.other W2 (Or.inr (slot_ne (Or.inr (hw _ (List.mem_of_getElem? (i := 41) rfl))) (Or.inr (hw _ (List.mem_of_getElem? (i := 39) rfl))) (by decide +kernel) (t := .int) (t' := .int) (by decide +kernel) (by decide +kernel)))).same W3
  have N3 := Fr.snoc X3 N2 g_a7
  refine own_via (B := T3.setTop (mkF m 14 #[.val (.ref a7), .val (.int p7), .val (.int q7), .val (.ref t7), .val .null] [])) (fun t k => st3 t k) ?_
  refine own_via (B := T3.setTop (mkF m 15 #[.val (.ref a7), .val (.int p7), .val (.int q7), .val (.ref t7), .val .null] [(.ref a7)])) (fun t k => XS.aloadN X3.here hx rfl (hb hby own_dCrn_14) rfl rfl k) ?_
  refine own_via (B := T3.setTop (mkF m 16 #[.val (.ref a7), .val (.int p7), .val (.int q7), .val (.ref t7), .val .null] [(.ref t7), (.ref a7)])) (fun t k => XS.aloadN X3.here hx rfl (hb hby own_dCrn_15) rfl rfl k) ?_
  obtain ⟨T4, h4, X4, e4, W4, st4⟩ := putF X3 hx hZ hown (host := "") (Or.inl (hw _ (List.mem_of_getElem? (i := 42) rfl))) Via.refl e3 ((F72.other W2 (Or.inr (slot_ne (Or.inr (hw _ (List.mem_of_getElem? (i := 43) rfl))) (Or.inr (hw _ (List.mem_of_getElem? (i := 39) rfl))) (by decide +kernel) (t := (.object "com/example/planmend/planmend/pg/FromItem$Leaf")) (t' := .int) (by decide +kernel) (by decide +kernel)))).other W3 (Or.inr (slot_ne (Or.inr (hw _ (List.mem_of_getElem? (i := 43) rfl))) (Or.inr (hw _ (List.mem_of_getElem? (i := 41) rfl))) (by decide +kernel) (t := (.object "com/example/planmend/planmend/pg/FromItem$Leaf")) (t' := .int) (by decide +kernel) (by decide +kernel)))) ((E7.wr W2).wr W3) (Or.inr ⟨(hw _ (List.mem_of_getElem? (i := 43) rfl)), rfl, hnm⟩) (hw _ (List.mem_of_getElem? (i := 27) rfl)) (ty := (.object "com/example/planmend/planmend/pg/FromItem$Leaf")) (by decide) rfl rfl (g := (mkF m 16 #[.val (.ref a7), .val (.int p7), .val (.int q7), .val (.ref t7), .val .null] [(.ref t7), (.ref a7)])) rfl rfl (hb hby own_dCrn_16)
  have Fw4 := ((F72.other W2 (Or.inr (slot_ne (Or.inr (hw _ (List.mem_of_getElem? (i := 43) rfl))) (Or.inr (hw _ (List.mem_of_getElem? (i := 39) rfl))) (by decide +kernel) (t := (.object "com/example/planmend/planmend/pg/FromItem$Leaf")) (t' := .int) (by decide +kernel) (by decide +kernel)))).other W3 (Or.inr (slot_ne (Or.inr (hw _ (List.mem_of_getElem? (i := 43) rfl))) (Or.inr (hw _ (List.mem_of_getElem? (i := 41) rfl))) (by decide +kernel) (t := (.object "com/example/planmend/planmend/pg/FromItem$Leaf")) (t' := .int) (by decide +kernel) (by decide +kernel)))).same W4
  have N4 := Fr.snoc X4 N3 g_a7
  refine own_via (B := T4.setTop (mkF m 19 #[.val (.ref a7), .val (.int p7), .val (.int q7), .val (.ref t7), .val .null] [])) (fun t k => st4 t k) ?_
  refine own_via (B := T4.setTop (mkF m 20 #[.val (.ref a7), .val (.int p7), .val (.int q7), .val (.ref t7), .val .null] [(.ref a7)])) (fun t k => XS.aloadN X4.here hx rfl (hb hby own_dCrn_19) rfl rfl k) ?_
  refine own_via (B := T4.setTop (mkF m 22 #[.val (.ref a7), .val (.int p7), .val (.int q7), .val (.ref t7), .val .null] [.null, (.ref a7)])) (fun t k => XS.aload X4.here hx rfl (hb hby own_dCrn_20) rfl rfl k) ?_
  obtain ⟨T5, h5, X5, e5, W5, st5⟩ := putF X4 hx hZ hown (host := "") (Or.inl (hw _ (List.mem_of_getElem? (i := 44) rfl))) Via.refl e4 (((F73.other W2 (Or.inr (slot_ne (Or.inr (hw _ (List.mem_of_getElem? (i := 45) rfl))) (Or.inr (hw _ (List.mem_of_getElem? (i := 39) rfl))) (by decide +kernel) (t := (.object "java/lang/String")) (t' := .int) (by decide +kernel) (by decide +kernel)))).other W3 (Or.inr (slot_ne (Or.inr (hw _ (List.mem_of_getElem? (i := 45) rfl))) (Or.inr (hw _ (List.mem_of_getElem? (i := 41) rfl))) (by decide +kernel) (t := (.object "java/lang/String")) (t' := .int) (by decide +kernel) (by decide +kernel)))).other W4 (Or.inr (slot_ne (Or.inr (hw _ (List.mem_of_getElem? (i := 45) rfl))) (Or.inr (hw _ (List.mem_of_getElem? (i := 43) rfl))) (by decide +kernel) (t := (.object "java/lang/String")) (t' := (.object "com/example/planmend/planmend/pg/FromItem$Leaf")) (by decide +kernel) (by decide +kernel)))) (((E7.wr W2).wr W3).wr W4) (Or.inr ⟨(hw _ (List.mem_of_getElem? (i := 45) rfl)), rfl, hnm⟩) (hw _ (List.mem_of_getElem? (i := 27) rfl)) (ty := (.object "java/lang/String")) (by decide) rfl rfl (g := (mkF m 22 #[.val (.ref a7), .val (.int p7), .val (.int q7), .val (.ref t7), .val .null] [.null, (.ref a7)])) rfl rfl (hb hby own_dCrn_22)
  have Fw5 := (((F73.other W2 (Or.inr (slot_ne (Or.inr (hw _ (List.mem_of_getElem? (i := 45) rfl))) (Or.inr (hw _ (List.mem_of_getElem? (i := 39) rfl))) (by decide +kernel) (t := (.object "java/lang/String")) (t' := .int) (by decide +kernel) (by decide +kernel)))).other W3 (Or.inr (slot_ne (Or.inr (hw _ (List.mem_of_getElem? (i := 45) rfl))) (Or.inr (hw _ (List.mem_of_getElem? (i := 41) rfl))) (by decide +kernel) (t := (.object "java/lang/String")) (t' := .int) (by decide +kernel) (by decide +kernel)))).other W4 (Or.inr (slot_ne (Or.inr (hw _ (List.mem_of_getElem? (i := 45) rfl))) (Or.inr (hw _ (List.mem_of_getElem? (i := 43) rfl))) (by decide +kernel) (t := (.object "java/lang/String")) (t' := (.object "com/example/planmend/planmend/pg/FromItem$Leaf")) (by decide +kernel) (by decide +kernel)))).same W5
  have N5 := Fr.snoc X5 N4 g_a7
  refine own_via (B := T5.setTop (mkF m 25 #[.val (.ref a7), .val (.int p7), .val (.int q7), .val (.ref t7), .val .null] [])) (fun t k => st5 t k) ?_
  refine own_leafV X5 hx hlk Bd.returns (hb hby own_dCrn_25) (by decide) (by decide) ?_
  show QCrn Z a7 p7 q7 t7 u0 u1 u2 u3 h0 n0 _ T5.heap _
  rw [e5]
  refine ⟨?_, N5, (((((Keep.refl h0 [a7]).wr W2 (Or.inl (List.mem_of_getElem? (i := 0) rfl))).wr W3 (Or.inl (List.mem_of_getElem? (i := 0) rfl))).wr W4 (Or.inl (List.mem_of_getElem? (i := 0) rfl))).wr W5 (Or.inl (List.mem_of_getElem? (i := 0) rfl))), (((Fw2.other W3 (Or.inr (slot_ne (Or.inr (hw _ (List.mem_of_getElem? (i := 39) rfl))) (Or.inr (hw _ (List.mem_of_getElem? (i := 41) rfl))) (by decide +kernel) (t := .int) (t' := .int) (by decide +kernel) (by decide +kernel)))).other W4 (Or.inr (slot_ne (Or.inr (hw _ (List.mem_of_getElem? (i := 39) rfl))) (Or.inr (hw _ (List.mem_of_getElem? (i := 43) rfl))) (by decide +kernel) (t := .int) (t' := (.object "com/example/planmend/planmend/pg/FromItem$Leaf")) (by decide +kernel) (by decide +kernel)))).other W5 (Or.inr (slot_ne (Or.inr (hw _ (List.mem_of_getElem? (i := 39) rfl))) (Or.inr (hw _ (List.mem_of_getElem? (i := 45) rfl))) (by decide +kernel) (t := .int) (t' := (.object "java/lang/String")) (by decide +kernel) (by decide +kernel)))), ((Fw3.other W4 (Or.inr (slot_ne (Or.inr (hw _ (List.mem_of_getElem? (i := 41) rfl))) (Or.inr (hw _ (List.mem_of_getElem? (i := 43) rfl))) (by decide +kernel) (t := .int) (t' := (.object "com/example/planmend/planmend/pg/FromItem$Leaf")) (by decide +kernel) (by decide +kernel)))).other W5 (Or.inr (slot_ne (Or.inr (hw _ (List.mem_of_getElem? (i := 41) rfl))) (Or.inr (hw _ (List.mem_of_getElem? (i := 45) rfl))) (by decide +kernel) (t := .int) (t' := (.object "java/lang/String")) (by decide +kernel) (by decide +kernel)))), (Fw4.other W5 (Or.inr (slot_ne (Or.inr (hw _ (List.mem_of_getElem? (i := 43) rfl))) (Or.inr (hw _ (List.mem_of_getElem? (i := 45) rfl))) (by decide +kernel) (t := (.object "com/example/planmend/planmend/pg/FromItem$Leaf")) (t' := (.object "java/lang/String")) (by decide +kernel) (by decide +kernel)))), Fw5⟩
  rfl
theorem own_dCrr_0 : decode prog_47_method_1_code 0 = .ok (.aload_n 0, 1) := by decide +kernel
theorem own_dCrr_1 : decode prog_47_method_1_code 1 = .ok (.invokespecial 1, 3) := by decide +kernel
theorem own_dCrr_4 : decode prog_47_method_1_code 4 = .ok (.aload_n 0, 1) := by decide +kernel
theorem own_dCrr_5 : decode prog_47_method_1_code 5 = .ok (.iload_n 1, 1) := by decide +kernel
theorem own_dCrr_6 : decode prog_47_method_1_code 6 = .ok (.putfield 7, 3) := by decide +kernel
theorem own_dCrr_9 : decode prog_47_method_1_code 9 = .ok (.aload_n 0, 1) := by decide +kernel
theorem own_dCrr_10 : decode prog_47_method_1_code 10 = .ok (.iload_n 2, 1) := by decide +kernel
theorem own_dCrr_11 : decode prog_47_method_1_code 11 = .ok (.putfield 13, 3) := by decide +kernel
theorem own_dCrr_14 : decode prog_47_method_1_code 14 = .ok (.aload_n 0, 1) := by decide +kernel
theorem own_dCrr_15 : decode prog_47_method_1_code 15 = .ok (.aload_n 3, 1) := by decide +kernel
theorem own_dCrr_16 : decode prog_47_method_1_code 16 = .ok (.putfield 16, 3) := by decide +kernel
theorem own_dCrr_19 : decode prog_47_method_1_code 19 = .ok (.aload_n 0, 1) := by decide +kernel
theorem own_dCrr_20 : decode prog_47_method_1_code 20 = .ok (.aload 4, 2) := by decide +kernel
theorem own_dCrr_22 : decode prog_47_method_1_code 22 = .ok (.putfield 20, 3) := by decide +kernel
theorem own_dCrr_25 : decode prog_47_method_1_code 25 = .ok (.return_, 1) := by decide +kernel
theorem own_efCrr (m : MethodId) (x0 : Addr) (x1 : Int32) (x2 : Int32) (x3 : Addr) (x4 : Addr) : entryFrame m #[(.ref x0), (.int x1), (.int x2), (.ref x3), (.ref x4)] 5 = mkF m 0 #[.val (.ref x0), .val (.int x1), .val (.int x2), .val (.ref x3), .val (.ref x4)] [] := by first | (simp [entryFrame, mkF, argsToLocals, Value.category]; done) | rfl
def QCrr (Z : State) (a7 : Addr) (p7 : Int32) (q7 : Int32) (t7 : Addr) (c7 : Addr) (u0 : Value) (u1 : Value) (u2 : Value) (u3 : Value) (h0 : Heap) (n0 : Nat) (v : Option Value) (h : Heap) (L : List Loc) : Prop := v = none ∧ Fr n0 L ∧ Keep h0 h [a7] ∧ (Fld Z h a7 "com/example/planmend/planmend/pg/SelectBlock$ColumnReference" "token" "I" (.int p7)) ∧ (Fld Z h a7 "com/example/planmend/planmend/pg/SelectBlock$ColumnReference" "qualifier" "I" (.int q7)) ∧ (Fld Z h a7 "com/example/planmend/planmend/pg/SelectBlock$ColumnReference" "target" "Lcom/example/planmend/planmend/pg/FromItem$Leaf;" (.ref t7)) ∧ (Fld Z h a7 "com/example/planmend/planmend/pg/SelectBlock$ColumnReference" "column" "Ljava/lang/String;" (.ref c7))
set_option maxRecDepth 65536 in
set_option maxHeartbeats 40000000 in
theorem rmCrr (l : Launch) (Z : State) (a0 : Array Value) (hw : ∀ d ∈ tables_1, d.before a0 Z = true) (ws : List Jvm.Cond) (a7 : Addr) (p7 : Int32) (q7 : Int32) (t7 : Addr) (c7 : Addr) (u0 : Value) (u1 : Value) (u2 : Value) (u3 : Value) (h0 : Heap) (n0 : Nat) (Z0 : n0 ≤ h0.size) (E7 : Exa Z h0 a7 "com/example/planmend/planmend/pg/SelectBlock$ColumnReference") (F70 : Fld Z h0 a7 "com/example/planmend/planmend/pg/SelectBlock$ColumnReference" "token" "I" u0) (F71 : Fld Z h0 a7 "com/example/planmend/planmend/pg/SelectBlock$ColumnReference" "qualifier" "I" u1) (F72 : Fld Z h0 a7 "com/example/planmend/planmend/pg/SelectBlock$ColumnReference" "target" "Lcom/example/planmend/planmend/pg/FromItem$Leaf;" u2) (F73 : Fld Z h0 a7 "com/example/planmend/planmend/pg/SelectBlock$ColumnReference" "column" "Ljava/lang/String;" u3) (g_a7 : n0 ≤ a7) :
    MetFree l (⟨"com/example/planmend/planmend/pg/SelectBlock$ColumnReference", "<init>", "(IILcom/example/planmend/planmend/pg/FromItem$Leaf;Ljava/lang/String;)V"⟩ : MethodName) (head1 (Jvm.Cond.code (⟨"com/example/planmend/planmend/pg/SelectBlock$ColumnReference", "<init>", "(IILcom/example/planmend/planmend/pg/FromItem$Leaf;Ljava/lang/String;)V"⟩ : MethodName) prog_47_method_1_code 5 none :: ws) ({ frames := 2, cells := 0, slots := 0, locals := 24 } : Room)) (fun a U => a = #[(.ref a7), (.int p7), (.int q7), (.ref t7), (.ref c7)] ∧ Z.Warmed39 U.vm ∧ U.heap = h0) (fun _ _ _ _ _ => True) (fun _ U o U' => ∃ v L, o = .returned v ∧ QCrr Z a7 p7 q7 t7 c7 u0 u1 u2 u3 h0 n0 v U'.heap L ∧ FrameEnd U o U' L ({ frames := 2, cells := 0, slots := 0, locals := 24 } : Room).cells ({ frames := 2, cells := 0, slots := 0, locals := 24 } : Room).slots) := by
  refine MetFree.of_bodySF (plainFor_of_name own_pn3) hisR ?_
  intro p e s m args below meth c s₁ Bd hml0 hP hK
  obtain ⟨rfl, hZ, hh⟩ := hP
  have hx := Bd.exec
  have hby := Bd.bytes
  have hlk : meth.locks = false := Bd.notSynchronized
  have hml : c.maxLocals = 5 := hml0
  have hown : s.vm.findClass "com/example/planmend/planmend/pg/SelectBlock$ColumnReference" = some m.cls := findClass_of_methodNamed Bd.named
  have hnm := (name_of_methodNamed Bd.named Bd.method).1
  have X0 : Stand p l e ({ frames := 2, cells := 0, slots := 0, locals := 24 } : Room) s m #[(.ref a7), (.int p7), (.int q7), (.ref t7), (.ref c7)] below meth c s₁ [] 0 0 := Stand.of_body Bd
  have e0 : s₁.heap = h0 := by rw [← hh, Bd.state]; rfl
  have N0 := Fr.nil n0
  refine own_body (A := s₁.setTop (mkF m 0 #[.val (.ref a7), .val (.int p7), .val (.int q7), .val (.ref t7), .val (.ref c7)] [])) (Q := QCrr Z a7 p7 q7 t7 c7 u0 u1 u2 u3 h0 n0) (fun t k => castTop (own_efCrr m a7 p7 q7 t7 c7) k) ?_
  refine own_via (B := s₁.setTop (mkF m 1 #[.val (.ref a7), .val (.int p7), .val (.int q7), .val (.ref t7), .val (.ref c7)] [(.ref a7)])) (fun t k => XS.aloadN X0.here hx rfl (hb hby own_dCrr_0) rfl rfl k) ?_
  obtain ⟨_, _, ⟨T1, L1, k1, n1⟩, -, X1, ⟨Lc1, hQ1, l1, y1, z1⟩, st1⟩ := X0.specialBack hx (y := (⟨"java/lang/Record", "<init>", "()V"⟩ : MethodName)) rfl hown (mvT hZ (hw _ (List.mem_of_getElem? (i := 32) rfl))) (mvT hZ (hw _ (List.mem_of_getElem? (i := 33) rfl))) (mvT hZ (hw _ (List.mem_of_getElem? (i := 36) rfl))) (by decide) (backOf (W := 0) (rmR l Z a0 hw [] a7 h0 n0 Z0 ) hZ (hw _ (List.mem_of_getElem? (i := 36) rfl)) (hw _ (List.mem_of_getElem? (i := 35) rfl)) (by decide) (by decide)) (g := (mkF m 1 #[.val (.ref a7), .val (.int p7), .val (.int q7), .val (.ref t7), .val (.ref c7)] [(.ref a7)])) rfl (by rw [hml]; rfl) (Steps.refl _) (a := a7) (argsL := []) (rest := []) (lenOf own_pd4 rfl) rfl (by show 2 * 0 + _ ≤ _; exact Nat.le_of_eq rfl) (hb hby own_dCrr_1) (fun _ _ => ⟨rfl, e0, (by decide : 0 + 0 ≤ _), (by decide : 0 + 0 ≤ _)⟩)
  dsimp only [Pt.U, Pt.locs, Pt.cells, Pt.slots] at X1 l1 y1 z1 st1 hQ1
  subst l1 y1 z1
  obtain ⟨rfl, Nq1, eq1⟩ := hQ1
  have N1 := Fr.app N0 Nq1
  refine own_via (B := T1.setTop (mkF m 4 #[.val (.ref a7), .val (.int p7), .val (.int q7), .val (.ref t7), .val (.ref c7)] [])) (fun t k => st1.trans k) ?_
  refine own_via (B := T1.setTop (mkF m 5 #[.val (.ref a7), .val (.int p7), .val (.int q7), .val (.ref t7), .val (.ref c7)] [(.ref a7)])) (fun t k => XS.aloadN X1.here hx rfl (hb hby own_dCrr_4) rfl rfl k) ?_
  refine own_via (B := T1.setTop (mkF m 6 #[.val (.ref a7), .val (.int p7), .val (.int q7), .val (.ref t7), .val (.ref c7)] [(.int p7), (.ref a7)])) (fun t k => XS.iloadN X1.here hx rfl (hb hby own_dCrr_5) rfl k) ?_
  obtain ⟨T2, h2, X2, e2, W2, st2⟩ := putF X1 hx hZ hown (host := "") (Or.inl (hw _ (List.mem_of_getElem? (i := 38) rfl))) Via.refl eq1 F70 E7 (Or.inr ⟨(hw _ (List.mem_of_getElem? (i := 39) rfl)), rfl, hnm⟩) (hw _ (List.mem_of_getElem? (i := 27) rfl)) (ty := .int) (by decide) rfl rfl (g := (mkF m 6 #[.val (.ref a7), .val (.int p7), .val (.int q7), .val (.ref t7), .val (.ref c7)] [(.int p7), (.ref a7)])) rfl rfl (hb hby own_dCrr_6)
  have Fw2 := F70.same W2
  have N2 := Fr.snoc X2 N1 g_a7
  refine own_via (B := T2.setTop (mkF m 9 #[.val (.ref a7), .val (.int p7), .val (.int q7), .val (.ref t7), .val (.ref c7)] [])) (fun t k => st2 t k) ?_
  refine own_via (B := T2.setTop (mkF m 10 #[.val (.ref a7), .val (.int p7), .val (.int q7), .val (.ref t7), .val (.ref c7)] [(.ref a7)])) (fun t k => XS.aloadN X2.here hx rfl (hb hby own_dCrr_9) rfl rfl k) ?_
  refine own_via (B := T2.setTop (mkF m 11 #[.val (.ref a7), .val (.int p7), .val (.int q7), .val (.ref t7), .val (.ref c7)] [(.int q7), (.ref a7)])) (fun t k => XS.iloadN X2.here hx rfl (hb hby own_dCrr_10) rfl k) ?_
  obtain ⟨T3, h3, X3, e3, W3, st3⟩ := putF X2 hx hZ hown (host := "") (Or.inl (hw _ (List.mem_of_getElem? (i := 40) rfl))) Via.refl e2 (F71.other W2 (Or.inr (slot_ne (Or.inr (hw _ (List.mem_of_getElem? (i := 41) rfl))) (Or.inr (hw _ (List.mem_of_getElem? (i := 39) rfl))) (by decide +kernel) (t := .int) (t' := .int) (by decide +kernel) (by decide +kernel)))) (E7.wr W2) (Or.inr ⟨(hw _ (List.mem_of_getElem? (i := 41) rfl)), rfl, hnm⟩) (hw _ (List.mem_of_getElem? (i := 27) rfl)) (ty := .int) (by decide) rfl rfl (g := (mkF m 11 #[.val (.ref a7), .val (.int p7), .val (.int q7), .val (.ref t7), .val (.ref c7)] [(.int q7), (.ref a7)])) rfl rfl (hb hby own_dCrr_11)
  have Fw3 := (F71.other W2 (Or.inr (slot_ne (Or.inr (hw _ (List.mem_of_getElem? (i := 41) rfl))) (Or.inr (hw _ (List.mem_of_getElem? (i := 39) rfl))) (by decide +kernel) (t := .int) (t' := .int) (by decide +kernel) (by decide +kernel)))).same W3
  have N3 := Fr.snoc X3 N2 g_a7
  refine own_via (B := T3.setTop (mkF m 14 #[.val (.ref a7), .val (.int p7), .val (.int q7), .val (.ref t7), .val (.ref c7)] [])) (fun t k => st3 t k) ?_
  refine own_via (B := T3.setTop (mkF m 15 #[.val (.ref a7), .val (.int p7), .val (.int q7), .val (.ref t7), .val (.ref c7)] [(.ref a7)])) (fun t k => XS.aloadN X3.here hx rfl (hb hby own_dCrr_14) rfl rfl k) ?_
  refine own_via (B := T3.setTop (mkF m 16 #[.val (.ref a7), .val (.int p7), .val (.int q7), .val (.ref t7), .val (.ref c7)] [(.ref t7), (.ref a7)])) (fun t k => XS.aloadN X3.here hx rfl (hb hby own_dCrr_15) rfl rfl k) ?_
  obtain ⟨T4, h4, X4, e4, W4, st4⟩ := putF X3 hx hZ hown (host := "") (Or.inl (hw _ (List.mem_of_getElem? (i := 42) rfl))) Via.refl e3 ((F72.other W2 (Or.inr (slot_ne (Or.inr (hw _ (List.mem_of_getElem? (i := 43) rfl))) (Or.inr (hw _ (List.mem_of_getElem? (i := 39) rfl))) (by decide +kernel) (t := (.object "com/example/planmend/planmend/pg/FromItem$Leaf")) (t' := .int) (by decide +kernel) (by decide +kernel)))).other W3 (Or.inr (slot_ne (Or.inr (hw _ (List.mem_of_getElem? (i := 43) rfl))) (Or.inr (hw _ (List.mem_of_getElem? (i := 41) rfl))) (by decide +kernel) (t := (.object "com/example/planmend/planmend/pg/FromItem$Leaf")) (t' := .int) (by decide +kernel) (by decide +kernel)))) ((E7.wr W2).wr W3) (Or.inr ⟨(hw _ (List.mem_of_getElem? (i := 43) rfl)), rfl, hnm⟩) (hw _ (List.mem_of_getElem? (i := 27) rfl)) (ty := (.object "com/example/planmend/planmend/pg/FromItem$Leaf")) (by decide) rfl rfl (g := (mkF m 16 #[.val (.ref a7), .val (.int p7), .val (.int q7), .val (.ref t7), .val (.ref c7)] [(.ref t7), (.ref a7)])) rfl rfl (hb hby own_dCrr_16)
  have Fw4 := ((F72.other W2 (Or.inr (slot_ne (Or.inr (hw _ (List.mem_of_getElem? (i := 43) rfl))) (Or.inr (hw _ (List.mem_of_getElem? (i := 39) rfl))) (by decide +kernel) (t := (.object "com/example/planmend/planmend/pg/FromItem$Leaf")) (t' := .int) (by decide +kernel) (by decide +kernel)))).other W3 (Or.inr (slot_ne (Or.inr (hw _ (List.mem_of_getElem? (i := 43) rfl))) (Or.inr (hw _ (List.mem_of_getElem? (i := 41) rfl))) (by decide +kernel) (t := (.object "com/example/planmend/planmend/pg/FromItem$Leaf")) (t' := .int) (by decide +kernel) (by decide +kernel)))).same W4
  have N4 := Fr.snoc X4 N3 g_a7
  refine own_via (B := T4.setTop (mkF m 19 #[.val (.ref a7), .val (.int p7), .val (.int q7), .val (.ref t7), .val (.ref c7)] [])) (fun t k => st4 t k) ?_
  refine own_via (B := T4.setTop (mkF m 20 #[.val (.ref a7), .val (.int p7), .val (.int q7), .val (.ref t7), .val (.ref c7)] [(.ref a7)])) (fun t k => XS.aloadN X4.here hx rfl (hb hby own_dCrr_19) rfl rfl k) ?_
  refine own_via (B := T4.setTop (mkF m 22 #[.val (.ref a7), .val (.int p7), .val (.int q7), .val (.ref t7), .val (.ref c7)] [(.ref c7), (.ref a7)])) (fun t k => XS.aload X4.here hx rfl (hb hby own_dCrr_20) rfl rfl k) ?_
  obtain ⟨T5, h5, X5, e5, W5, st5⟩ := putF X4 hx hZ hown (host := "") (Or.inl (hw _ (List.mem_of_getElem? (i := 44) rfl))) Via.refl e4 (((F73.other W2 (Or.inr (slot_ne (Or.inr (hw _ (List.mem_of_getElem? (i := 45) rfl))) (Or.inr (hw _ (List.mem_of_getElem? (i := 39) rfl))) (by decide +kernel) (t := (.object "java/lang/String")) (t' := .int) (by decide +kernel) (by decide +kernel)))).other W3 (Or.inr (slot_ne (Or.inr (hw _ (List.mem_of_getElem? (i := 45) rfl))) (Or.inr (hw _ (List.mem_of_getElem? (i := 41) rfl))) (by decide +kernel) (t := (.object "java/lang/String")) (t' := .int) (by decide +kernel) (by decide +kernel)))).other W4 (Or.inr (slot_ne (Or.inr (hw _ (List.mem_of_getElem? (i := 45) rfl))) (Or.inr (hw _ (List.mem_of_getElem? (i := 43) rfl))) (by decide +kernel) (t := (.object "java/lang/String")) (t' := (.object "com/example/planmend/planmend/pg/FromItem$Leaf")) (by decide +kernel) (by decide +kernel)))) (((E7.wr W2).wr W3).wr W4) (Or.inr ⟨(hw _ (List.mem_of_getElem? (i := 45) rfl)), rfl, hnm⟩) (hw _ (List.mem_of_getElem? (i := 27) rfl)) (ty := (.object "java/lang/String")) (by decide) rfl rfl (g := (mkF m 22 #[.val (.ref a7), .val (.int p7), .val (.int q7), .val (.ref t7), .val (.ref c7)] [(.ref c7), (.ref a7)])) rfl rfl (hb hby own_dCrr_22)
  have Fw5 := (((F73.other W2 (Or.inr (slot_ne (Or.inr (hw _ (List.mem_of_getElem? (i := 45) rfl))) (Or.inr (hw _ (List.mem_of_getElem? (i := 39) rfl))) (by decide +kernel) (t := (.object "java/lang/String")) (t' := .int) (by decide +kernel) (by decide +kernel)))).other W3 (Or.inr (slot_ne (Or.inr (hw _ (List.mem_of_getElem? (i := 45) rfl))) (Or.inr (hw _ (List.mem_of_getElem? (i := 41) rfl))) (by decide +kernel) (t := (.object "java/lang/String")) (t' := .int) (by decide +kernel) (by decide +kernel)))).other W4 (Or.inr (slot_ne (Or.inr (hw _ (List.mem_of_getElem? (i := 45) rfl))) (Or.inr (hw _ (List.mem_of_getElem? (i := 43) rfl))) (by decide +kernel) (t := (.object "java/lang/String")) (t' := (.object "com/example/planmend/planmend/pg/FromItem$Leaf")) (by decide +kernel) (by decide +kernel)))).same W5
  have N5 := Fr.snoc X5 N4 g_a7
  refine own_via (B := T5.setTop (mkF m 25 #[.val (.ref a7), .val (.int p7), .val (.int q7), .val (.ref t7), .val (.ref c7)] [])) (fun t k => st5 t k) ?_
  refine own_leafV X5 hx hlk Bd.returns (hb hby own_dCrr_25) (by decide) (by decide) ?_
  show QCrr Z a7 p7 q7 t7 c7 u0 u1 u2 u3 h0 n0 _ T5.heap _
  rw [e5]
  refine ⟨?_, N5, (((((Keep.refl h0 [a7]).wr W2 (Or.inl (List.mem_of_getElem? (i := 0) rfl))).wr W3 (Or.inl (List.mem_of_getElem? (i := 0) rfl))).wr W4 (Or.inl (List.mem_of_getElem? (i := 0) rfl))).wr W5 (Or.inl (List.mem_of_getElem? (i := 0) rfl))), (((Fw2.other W3 (Or.inr (slot_ne (Or.inr (hw _ (List.mem_of_getElem? (i := 39) rfl))) (Or.inr (hw _ (List.mem_of_getElem? (i := 41) rfl))) (by decide +kernel) (t := .int) (t' := .int) (by decide +kernel) (by decide +kernel)))).other W4 (Or.inr (slot_ne (Or.inr (hw _ (List.mem_of_getElem? (i := 39) rfl))) (Or.inr (hw _ (List.mem_of_getElem? (i := 43) rfl))) (by decide +kernel) (t := .int) (t' := (.object "com/example/planmend/planmend/pg/FromItem$Leaf")) (by decide +kernel) (by decide +kernel)))).other W5 (Or.inr (slot_ne (Or.inr (hw _ (List.mem_of_getElem? (i := 39) rfl))) (Or.inr (hw _ (List.mem_of_getElem? (i := 45) rfl))) (by decide +kernel) (t := .int) (t' := (.object "java/lang/String")) (by decide +kernel) (by decide +kernel)))), ((Fw3.other W4 (Or.inr (slot_ne (Or.inr (hw _ (List.mem_of_getElem? (i := 41) rfl))) (Or.inr (hw _ (List.mem_of_getElem? (i := 43) rfl))) (by decide +kernel) (t := .int) (t' := (.object "com/example/planmend/planmend/pg/FromItem$Leaf")) (by decide +kernel) (by decide +kernel)))).other W5 (Or.inr (slot_ne (Or.inr (hw _ (List.mem_of_getElem? (i := 41) rfl))) (Or.inr (hw _ (List.mem_of_getElem? (i := 45) rfl))) (by decide +kernel) (t := .int) (t' := (.object "java/lang/String")) (by decide +kernel) (by decide +kernel)))), (Fw4.other W5 (Or.inr (slot_ne (Or.inr (hw _ (List.mem_of_getElem? (i := 43) rfl))) (Or.inr (hw _ (List.mem_of_getElem? (i := 45) rfl))) (by decide +kernel) (t := (.object "com/example/planmend/planmend/pg/FromItem$Leaf")) (t' := (.object "java/lang/String")) (by decide +kernel) (by decide +kernel)))), Fw5⟩
  rfl
theorem own_dgtoken_0 : decode prog_47_method_6_code 0 = .ok (.aload_n 0, 1) := by decide +kernel
theorem own_dgtoken_1 : decode prog_47_method_6_code 1 = .ok (.getfield 7, 3) := by decide +kernel
theorem own_dgtoken_4 : decode prog_47_method_6_code 4 = .ok (.ireturn, 1) := by decide +kernel
theorem own_efgtoken (m : MethodId) (x0 : Addr) : entryFrame m #[(.ref x0)] 1 = mkF m 0 #[.val (.ref x0)] [] := by first | (simp [entryFrame, mkF, argsToLocals, Value.category]; done) | rfl
def Qgtoken (Z : State) (a8 : Addr) (p8 : Int32) (h0 : Heap) (n0 : Nat) (v : Option Value) (h : Heap) (L : List Loc) : Prop := v = some (.int p8) ∧ Fr n0 L ∧ h = h0
set_option maxRecDepth 65536 in
set_option maxHeartbeats 40000000 in
theorem rmgtoken (l : Launch) (Z : State) (a0 : Array Value) (hw : ∀ d ∈ tables_1, d.before a0 Z = true) (ws : List Jvm.Cond) (a8 : Addr) (p8 : Int32) (h0 : Heap) (n0 : Nat) (Z0 : n0 ≤ h0.size) (F8 : Fld Z h0 a8 "com/example/planmend/planmend/pg/SelectBlock$ColumnReference" "token" "I" (.int p8)) :
    MetFree l (⟨"com/example/planmend/planmend/pg/SelectBlock$ColumnReference", "token", "()I"⟩ : MethodName) (head1 (Jvm.Cond.code (⟨"com/example/planmend/planmend/pg/SelectBlock$ColumnReference", "token", "()I"⟩ : MethodName) prog_47_method_6_code 1 (some .int) :: ws) ({ frames := 0, cells := 0, slots := 0, locals := 0 } : Room)) (fun a U => a = #[(.ref a8)] ∧ Z.Warmed39 U.vm ∧ U.heap = h0) (fun _ _ _ _ _ => True) (fun _ U o U' => ∃ v L, o = .returned v ∧ Qgtoken Z a8 p8 h0 n0 v U'.heap L ∧ FrameEnd U o U' L ({ frames := 0, cells := 0, slots := 0, locals := 0 } : Room).cells ({ frames := 0, cells := 0, slots := 0, locals := 0 } : Room).slots) := by
  refine MetFree.of_bodySF (plainFor_of_name own_pn3) hisR ?_
  intro p e s m args below meth c s₁ Bd hml0 hP hK
  obtain ⟨rfl, hZ, hh⟩ := hP
  have hx := Bd.exec
  have hby := Bd.bytes
  have hlk : meth.locks = false := Bd.notSynchronized
  have hml : c.maxLocals = 1 := hml0
  have hown : s.vm.findClass "com/example/planmend/planmend/pg/SelectBlock$ColumnReference" = some m.cls := findClass_of_methodNamed Bd.named
  have hnm := (name_of_methodNamed Bd.named Bd.method).1
  have X0 : Stand p l e ({ frames := 0, cells := 0, slots := 0, locals := 0 } : Room) s m #[(.ref a8)] below meth c s₁ [] 0 0 := Stand.of_body Bd
  have e0 : s₁.heap = h0 := by rw [← hh, Bd.state]; rfl
  have N0 := Fr.nil n0
  refine own_body (A := s₁.setTop (mkF m 0 #[.val (.ref a8)] [])) (Q := Qgtoken Z a8 p8 h0 n0) (fun t k => castTop (own_efgtoken m a8) k) ?_
  refine own_via (B := s₁.setTop (mkF m 1 #[.val (.ref a8)] [(.ref a8)])) (fun t k => XS.aloadN X0.here hx rfl (hb hby own_dgtoken_0) rfl rfl k) ?_
  obtain ⟨T1, X1, e1, st1⟩ := getF X0 hx hZ hown (host := "") (Or.inl (hw _ (List.mem_of_getElem? (i := 38) rfl))) Via.refl e0 F8 (g := (mkF m 1 #[.val (.ref a8)] [(.ref a8)])) rfl rfl (hb hby own_dgtoken_1)
  refine own_via (B := T1.setTop (mkF m 4 #[.val (.ref a8)] [(.int p8)])) (fun t k => st1 t k) ?_
  refine own_leaf X1 hx hlk (t := .int) Bd.returns rfl (Or.inl ⟨rfl, by simp, _, rfl⟩) (hb hby own_dgtoken_4) (by decide) (by decide) ?_
  show Qgtoken Z a8 p8 h0 n0 _ T1.heap _
  rw [e1]
  refine ⟨?_, N0, rfl⟩
  rfl
theorem own_dgqualifier_0 : decode prog_47_method_7_code 0 = .ok (.aload_n 0, 1) := by decide +kernel
theorem own_dgqualifier_1 : decode prog_47_method_7_code 1 = .ok (.getfield 13, 3) := by decide +kernel
theorem own_dgqualifier_4 : decode prog_47_method_7_code 4 = .ok (.ireturn, 1) := by decide +kernel
theorem own_efgqualifier (m : MethodId) (x0 : Addr) : entryFrame m #[(.ref x0)] 1 = mkF m 0 #[.val (.ref x0)] [] := by first | (simp [entryFrame, mkF, argsToLocals, Value.category]; done) | rfl
def Qgqualifier (Z : State) (a8 : Addr) (p8 : Int32) (h0 : Heap) (n0 : Nat) (v : Option Value) (h : Heap) (L : List Loc) : Prop := v = some (.int p8) ∧ Fr n0 L ∧ h = h0
set_option maxRecDepth 65536 in
set_option maxHeartbeats 40000000 in
theorem rmgqualifier (l : Launch) (Z : State) (a0 : Array Value) (hw : ∀ d ∈ tables_1, d.before a0 Z = true) (ws : List Jvm.Cond) (a8 : Addr) (p8 : Int32) (h0 : Heap) (n0 : Nat) (Z0 : n0 ≤ h0.size) (F8 : Fld Z h0 a8 "com/example/planmend/planmend/pg/SelectBlock$ColumnReference" "qualifier" "I" (.int p8)) :
    MetFree l (⟨"com/example/planmend/planmend/pg/SelectBlock$ColumnReference", "qualifier", "()I"⟩ : MethodName) (head1 (Jvm.Cond.code (⟨"com/example/planmend/planmend/pg/SelectBlock$ColumnReference", "qualifier", "()I"⟩ : MethodName) prog_47_method_7_code 1 (some .int) :: ws) ({ frames := 0, cells := 0, slots := 0, locals := 0 } : Room)) (fun a U => a = #[(.ref a8)] ∧ Z.Warmed39 U.vm ∧ U.heap = h0) (fun _ _ _ _ _ => True) (fun _ U o U' => ∃ v L, o = .returned v ∧ Qgqualifier Z a8 p8 h0 n0 v U'.heap L ∧ FrameEnd U o U' L ({ frames := 0, cells := 0, slots := 0, locals := 0 } : Room).cells ({ frames := 0, cells := 0, slots := 0, locals := 0 } : Room).slots) := by
  refine MetFree.of_bodySF (plainFor_of_name own_pn3) hisR ?_
  intro p e s m args below meth c s₁ Bd hml0 hP hK
  obtain ⟨rfl, hZ, hh⟩ := hP
  have hx := Bd.exec
  have hby := Bd.bytes
  have hlk : meth.locks = false := Bd.notSynchronized
  have hml : c.maxLocals = 1 := hml0
  have hown : s.vm.findClass "com/example/planmend/planmend/pg/SelectBlock$ColumnReference" = some m.cls := findClass_of_methodNamed Bd.named
  have hnm := (name_of_methodNamed Bd.named Bd.method).1
  have X0 : Stand p l e ({ frames := 0, cells := 0, slots := 0, locals := 0 } : Room) s m #[(.ref a8)] below meth c s₁ [] 0 0 := Stand.of_body Bd
  have e0 : s₁.heap = h0 := by rw [← hh, Bd.state]; rfl
  have N0 := Fr.nil n0
  refine own_body (A := s₁.setTop (mkF m 0 #[.val (.ref a8)] [])) (Q := Qgqualifier Z a8 p8 h0 n0) (fun t k => castTop (own_efgqualifier m a8) k) ?_
  refine own_via (B := s₁.setTop (mkF m 1 #[.val (.ref a8)] [(.ref a8)])) (fun t k => XS.aloadN X0.here hx rfl (hb hby own_dgqualifier_0) rfl rfl k) ?_
  obtain ⟨T1, X1, e1, st1⟩ := getF X0 hx hZ hown (host := "") (Or.inl (hw _ (List.mem_of_getElem? (i := 40) rfl))) Via.refl e0 F8 (g := (mkF m 1 #[.val (.ref a8)] [(.ref a8)])) rfl rfl (hb hby own_dgqualifier_1)
  refine own_via (B := T1.setTop (mkF m 4 #[.val (.ref a8)] [(.int p8)])) (fun t k => st1 t k) ?_
  refine own_leaf X1 hx hlk (t := .int) Bd.returns rfl (Or.inl ⟨rfl, by simp, _, rfl⟩) (hb hby own_dgqualifier_4) (by decide) (by decide) ?_
  show Qgqualifier Z a8 p8 h0 n0 _ T1.heap _
  rw [e1]
  refine ⟨?_, N0, rfl⟩
  rfl
theorem own_dgtargetn_0 : decode prog_47_method_8_code 0 = .ok (.aload_n 0, 1) := by decide +kernel
theorem own_dgtargetn_1 : decode prog_47_method_8_code 1 = .ok (.getfield 16, 3) := by decide +kernel
theorem own_dgtargetn_4 : decode prog_47_method_8_code 4 = .ok (.areturn, 1) := by decide +kernel
theorem own_efgtargetn (m : MethodId) (x0 : Addr) : entryFrame m #[(.ref x0)] 1 = mkF m 0 #[.val (.ref x0)] [] := by first | (simp [entryFrame, mkF, argsToLocals, Value.category]; done) | rfl
def Qgtargetn (Z : State) (a8 : Addr) (h0 : Heap) (n0 : Nat) (v : Option Value) (h : Heap) (L : List Loc) : Prop := v = some .null ∧ Fr n0 L ∧ h = h0
set_option maxRecDepth 65536 in
set_option maxHeartbeats 40000000 in
theorem rmgtargetn (l : Launch) (Z : State) (a0 : Array Value) (hw : ∀ d ∈ tables_1, d.before a0 Z = true) (ws : List Jvm.Cond) (a8 : Addr) (h0 : Heap) (n0 : Nat) (Z0 : n0 ≤ h0.size) (F8 : Fld Z h0 a8 "com/example/planmend/planmend/pg/SelectBlock$ColumnReference" "target" "Lcom/example/planmend/planmend/pg/FromItem$Leaf;" .null) :
    MetFree l (⟨"com/example/planmend/planmend/pg/SelectBlock$ColumnReference", "target", "()Lcom/example/planmend/planmend/pg/FromItem$Leaf;"⟩ : MethodName) (head1 (Jvm.Cond.code (⟨"com/example/planmend/planmend/pg/SelectBlock$ColumnReference", "target", "()Lcom/example/planmend/planmend/pg/FromItem$Leaf;"⟩ : MethodName) prog_47_method_8_code 1 (some (.object "com/example/planmend/planmend/pg/FromItem$Leaf")) :: ws) ({ frames := 0, cells := 0, slots := 0, locals := 0 } : Room)) (fun a U => a = #[(.ref a8)] ∧ Z.Warmed39 U.vm ∧ U.heap = h0) (fun _ _ _ _ _ => True) (fun _ U o U' => ∃ v L, o = .returned v ∧ Qgtargetn Z a8 h0 n0 v U'.heap L ∧ FrameEnd U o U' L ({ frames := 0, cells := 0, slots := 0, locals := 0 } : Room).cells ({ frames := 0, cells := 0, slots := 0, locals := 0 } : Room).slots) := by
  refine MetFree.of_bodySF (plainFor_of_name own_pn3) hisR ?_
  intro p e s m args below meth c s₁ Bd hml0 hP hK
  obtain ⟨rfl, hZ, hh⟩ := hP
  have hx := Bd.exec
  have hby := Bd.bytes
  have hlk : meth.locks = false := Bd.notSynchronized
  have hml : c.maxLocals = 1 := hml0
  have hown : s.vm.findClass "com/example/planmend/planmend/pg/SelectBlock$ColumnReference" = some m.cls := findClass_of_methodNamed Bd.named
  have hnm := (name_of_methodNamed Bd.named Bd.method).1
  have X0 : Stand p l e ({ frames := 0, cells := 0, slots := 0, locals := 0 } : Room) s m #[(.ref a8)] below meth c s₁ [] 0 0 := Stand.of_body Bd
  have e0 : s₁.heap = h0 := by rw [← hh, Bd.state]; rfl
  have N0 := Fr.nil n0
  refine own_body (A := s₁.setTop (mkF m 0 #[.val (.ref a8)] [])) (Q := Qgtargetn Z a8 h0 n0) (fun t k => castTop (own_efgtargetn m a8) k) ?_
  refine own_via (B := s₁.setTop (mkF m 1 #[.val (.ref a8)] [(.ref a8)])) (fun t k => XS.aloadN X0.here hx rfl (hb hby own_dgtargetn_0) rfl rfl k) ?_
  obtain ⟨T1, X1, e1, st1⟩ := getF X0 hx hZ hown (host := "") (Or.inl (hw _ (List.mem_of_getElem? (i := 42) rfl))) Via.refl e0 F8 (g := (mkF m 1 #[.val (.ref a8)] [(.ref a8)])) rfl rfl (hb hby own_dgtargetn_1)
  refine own_via (B := T1.setTop (mkF m 4 #[.val (.ref a8)] [.null])) (fun t k => st1 t k) ?_
  refine own_leaf X1 hx hlk (t := (.object "com/example/planmend/planmend/pg/FromItem$Leaf")) Bd.returns rfl (Or.inr (Or.inr (Or.inr (Or.inr ⟨rfl, rfl, rfl⟩)))) (hb hby own_dgtargetn_4) (by decide) (by decide) ?_
  show Qgtargetn Z a8 h0 n0 _ T1.heap _
  rw [e1]
  refine ⟨?_, N0, rfl⟩
  rfl
theorem own_dgtargetr_0 : decode prog_47_method_8_code 0 = .ok (.aload_n 0, 1) := by decide +kernel
theorem own_dgtargetr_1 : decode prog_47_method_8_code 1 = .ok (.getfield 16, 3) := by decide +kernel
theorem own_dgtargetr_4 : decode prog_47_method_8_code 4 = .ok (.areturn, 1) := by decide +kernel
theorem own_efgtargetr (m : MethodId) (x0 : Addr) : entryFrame m #[(.ref x0)] 1 = mkF m 0 #[.val (.ref x0)] [] := by first | (simp [entryFrame, mkF, argsToLocals, Value.category]; done) | rfl
def Qgtargetr (Z : State) (a8 : Addr) (p8 : Addr) (h0 : Heap) (n0 : Nat) (v : Option Value) (h : Heap) (L : List Loc) : Prop := v = some (.ref p8) ∧ Fr n0 L ∧ h = h0
set_option maxRecDepth 65536 in
set_option maxHeartbeats 40000000 in
theorem rmgtargetr (l : Launch) (Z : State) (a0 : Array Value) (hw : ∀ d ∈ tables_1, d.before a0 Z = true) (ws : List Jvm.Cond) (a8 : Addr) (p8 : Addr) (h0 : Heap) (n0 : Nat) (Z0 : n0 ≤ h0.size) (F8 : Fld Z h0 a8 "com/example/planmend/planmend/pg/SelectBlock$ColumnReference" "target" "Lcom/example/planmend/planmend/pg/FromItem$Leaf;" (.ref p8)) :
    MetFree l (⟨"com/example/planmend/planmend/pg/SelectBlock$ColumnReference", "target", "()Lcom/example/planmend/planmend/pg/FromItem$Leaf;"⟩ : MethodName) (head1 (Jvm.Cond.code (⟨"com/example/planmend/planmend/pg/SelectBlock$ColumnReference", "target", "()Lcom/example/planmend/planmend/pg/FromItem$Leaf;"⟩ : MethodName) prog_47_method_8_code 1 (some (.object "com/example/planmend/planmend/pg/FromItem$Leaf")) :: ws) ({ frames := 0, cells := 0, slots := 0, locals := 0 } : Room)) (fun a U => a = #[(.ref a8)] ∧ Z.Warmed39 U.vm ∧ U.heap = h0) (fun _ _ _ _ _ => True) (fun _ U o U' => ∃ v L, o = .returned v ∧ Qgtargetr Z a8 p8 h0 n0 v U'.heap L ∧ FrameEnd U o U' L ({ frames := 0, cells := 0, slots := 0, locals := 0 } : Room).cells ({ frames := 0, cells := 0, slots := 0, locals := 0 } : Room).slots) := by
  refine MetFree.of_bodySF (plainFor_of_name own_pn3) hisR ?_
  intro p e s m args below meth c s₁ Bd hml0 hP hK
  obtain ⟨rfl, hZ, hh⟩ := hP
  have hx := Bd.exec
  have hby := Bd.bytes
  have hlk : meth.locks = false := Bd.notSynchronized
  have hml : c.maxLocals = 1 := hml0
  have hown : s.vm.findClass "com/example/planmend/planmend/pg/SelectBlock$ColumnReference" = some m.cls := findClass_of_methodNamed Bd.named
  have hnm := (name_of_methodNamed Bd.named Bd.method).1
  have X0 : Stand p l e ({ frames := 0, cells := 0, slots := 0, locals := 0 } : Room) s m #[(.ref a8)] below meth c s₁ [] 0 0 := Stand.of_body Bd
  have e0 : s₁.heap = h0 := by rw [← hh, Bd.state]; rfl
  have N0 := Fr.nil n0
  refine own_body (A := s₁.setTop (mkF m 0 #[.val (.ref a8)] [])) (Q := Qgtargetr Z a8 p8 h0 n0) (fun t k => castTop (own_efgtargetr m a8) k) ?_
  refine own_via (B := s₁.setTop (mkF m 1 #[.val (.ref a8)] [(.ref a8)])) (fun t k => XS.aloadN X0.here hx rfl (hb hby own_dgtargetr_0) rfl rfl k) ?_
  obtain ⟨T1, X1, e1, st1⟩ := getF X0 hx hZ hown (host := "") (Or.inl (hw _ (List.mem_of_getElem? (i := 42) rfl))) Via.refl e0 F8 (g := (mkF m 1 #[.val (.ref a8)] [(.ref a8)])) rfl rfl (hb hby own_dgtargetr_1)
  refine own_via (B := T1.setTop (mkF m 4 #[.val (.ref a8)] [(.ref p8)])) (fun t k => st1 t k) ?_
  refine own_leaf X1 hx hlk (t := (.object "com/example/planmend/planmend/pg/FromItem$Leaf")) Bd.returns rfl (Or.inr (Or.inr (Or.inr (Or.inr ⟨rfl, rfl, rfl⟩)))) (hb hby own_dgtargetr_4) (by decide) (by decide) ?_
  show Qgtargetr Z a8 p8 h0 n0 _ T1.heap _
  rw [e1]
  refine ⟨?_, N0, rfl⟩
  rfl
theorem own_dgcolumnn_0 : decode prog_47_method_9_code 0 = .ok (.aload_n 0, 1) := by decide +kernel
theorem own_dgcolumnn_1 : decode prog_47_method_9_code 1 = .ok (.getfield 20, 3) := by decide +kernel
theorem own_dgcolumnn_4 : decode prog_47_method_9_code 4 = .ok (.areturn, 1) := by decide +kernel
theorem own_efgcolumnn (m : MethodId) (x0 : Addr) : entryFrame m #[(.ref x0)] 1 = mkF m 0 #[.val (.ref x0)] [] := by first | (simp [entryFrame, mkF, argsToLocals, Value.category]; done) | rfl
def Qgcolumnn (Z : State) (a8 : Addr) (h0 : Heap) (n0 : Nat) (v : Option Value) (h : Heap) (L : List Loc) : Prop := v = some .null ∧ Fr n0 L ∧ h = h0
set_option maxRecDepth 65536 in
set_option maxHeartbeats 40000000 in
theorem rmgcolumnn (l : Launch) (Z : State) (a0 : Array Value) (hw : ∀ d ∈ tables_1, d.before a0 Z = true) (ws : List Jvm.Cond) (a8 : Addr) (h0 : Heap) (n0 : Nat) (Z0 : n0 ≤ h0.size) (F8 : Fld Z h0 a8 "com/example/planmend/planmend/pg/SelectBlock$ColumnReference" "column" "Ljava/lang/String;" .null) :
    MetFree l (⟨"com/example/planmend/planmend/pg/SelectBlock$ColumnReference", "column", "()Ljava/lang/String;"⟩ : MethodName) (head1 (Jvm.Cond.code (⟨"com/example/planmend/planmend/pg/SelectBlock$ColumnReference", "column", "()Ljava/lang/String;"⟩ : MethodName) prog_47_method_9_code 1 (some (.object "java/lang/String")) :: ws) ({ frames := 0, cells := 0, slots := 0, locals := 0 } : Room)) (fun a U => a = #[(.ref a8)] ∧ Z.Warmed39 U.vm ∧ U.heap = h0) (fun _ _ _ _ _ => True) (fun _ U o U' => ∃ v L, o = .returned v ∧ Qgcolumnn Z a8 h0 n0 v U'.heap L ∧ FrameEnd U o U' L ({ frames := 0, cells := 0, slots := 0, locals := 0 } : Room).cells ({ frames := 0, cells := 0, slots := 0, locals := 0 } : Room).slots) := by
  refine MetFree.of_bodySF (plainFor_of_name own_pn3) hisR ?_
  intro p e s m args below meth c s₁ Bd hml0 hP hK
  obtain ⟨rfl, hZ, hh⟩ := hP
  have hx := Bd.exec
  have hby := Bd.bytes
  have hlk : meth.locks = false := Bd.notSynchronized
  have hml : c.maxLocals = 1 := hml0
  have hown : s.vm.findClass "com/example/planmend/planmend/pg/SelectBlock$ColumnReference" = some m.cls := findClass_of_methodNamed Bd.named
  have hnm := (name_of_methodNamed Bd.named Bd.method).1
  have X0 : Stand p l e ({ frames := 0, cells := 0, slots := 0, locals := 0 } : Room) s m #[(.ref a8)] below meth c s₁ [] 0 0 := Stand.of_body Bd
  have e0 : s₁.heap = h0 := by rw [← hh, Bd.state]; rfl
  have N0 := Fr.nil n0
  refine own_body (A := s₁.setTop (mkF m 0 #[.val (.ref a8)] [])) (Q := Qgcolumnn Z a8 h0 n0) (fun t k => castTop (own_efgcolumnn m a8) k) ?_
  refine own_via (B := s₁.setTop (mkF m 1 #[.val (.ref a8)] [(.ref a8)])) (fun t k => XS.aloadN X0.here hx rfl (hb hby own_dgcolumnn_0) rfl rfl k) ?_
  obtain ⟨T1, X1, e1, st1⟩ := getF X0 hx hZ hown (host := "") (Or.inl (hw _ (List.mem_of_getElem? (i := 44) rfl))) Via.refl e0 F8 (g := (mkF m 1 #[.val (.ref a8)] [(.ref a8)])) rfl rfl (hb hby own_dgcolumnn_1)
  refine own_via (B := T1.setTop (mkF m 4 #[.val (.ref a8)] [.null])) (fun t k => st1 t k) ?_
  refine own_leaf X1 hx hlk (t := (.object "java/lang/String")) Bd.returns rfl (Or.inr (Or.inr (Or.inr (Or.inr ⟨rfl, rfl, rfl⟩)))) (hb hby own_dgcolumnn_4) (by decide) (by decide) ?_
  show Qgcolumnn Z a8 h0 n0 _ T1.heap _
  rw [e1]
  refine ⟨?_, N0, rfl⟩
  rfl
theorem own_dgcolumnr_0 : decode prog_47_method_9_code 0 = .ok (.aload_n 0, 1) := by decide +kernel
theorem own_dgcolumnr_1 : decode prog_47_method_9_code 1 = .ok (.getfield 20, 3) := by decide +kernel
theorem own_dgcolumnr_4 : decode prog_47_method_9_code 4 = .ok (.areturn, 1) := by decide +kernel
theorem own_efgcolumnr (m : MethodId) (x0 : Addr) : entryFrame m #[(.ref x0)] 1 = mkF m 0 #[.val (.ref x0)] [] := by first | (simp [entryFrame, mkF, argsToLocals, Value.category]; done) | rfl
def Qgcolumnr (Z : State) (a8 : Addr) (p8 : Addr) (h0 : Heap) (n0 : Nat) (v : Option Value) (h : Heap) (L : List Loc) : Prop := v = some (.ref p8) ∧ Fr n0 L ∧ h = h0
set_option maxRecDepth 65536 in
set_option maxHeartbeats 40000000 in
theorem rmgcolumnr (l : Launch) (Z : State) (a0 : Array Value) (hw : ∀ d ∈ tables_1, d.before a0 Z = true) (ws : List Jvm.Cond) (a8 : Addr) (p8 : Addr) (h0 : Heap) (n0 : Nat) (Z0 : n0 ≤ h0.size) (F8 : Fld Z h0 a8 "com/example/planmend/planmend/pg/SelectBlock$ColumnReference" "column" "Ljava/lang/String;" (.ref p8)) :
    MetFree l (⟨"com/example/planmend/planmend/pg/SelectBlock$ColumnReference", "column", "()Ljava/lang/String;"⟩ : MethodName) (head1 (Jvm.Cond.code (⟨"com/example/planmend/planmend/pg/SelectBlock$ColumnReference", "column", "()Ljava/lang/String;"⟩ : MethodName) prog_47_method_9_code 1 (some (.object "java/lang/String")) :: ws) ({ frames := 0, cells := 0, slots := 0, locals := 0 } : Room)) (fun a U => a = #[(.ref a8)] ∧ Z.Warmed39 U.vm ∧ U.heap = h0) (fun _ _ _ _ _ => True) (fun _ U o U' => ∃ v L, o = .returned v ∧ Qgcolumnr Z a8 p8 h0 n0 v U'.heap L ∧ FrameEnd U o U' L ({ frames := 0, cells := 0, slots := 0, locals := 0 } : Room).cells ({ frames := 0, cells := 0, slots := 0, locals := 0 } : Room).slots) := by
  refine MetFree.of_bodySF (plainFor_of_name own_pn3) hisR ?_
  intro p e s m args below meth c s₁ Bd hml0 hP hK
  obtain ⟨rfl, hZ, hh⟩ := hP
  have hx := Bd.exec
  have hby := Bd.bytes
  have hlk : meth.locks = false := Bd.notSynchronized
  have hml : c.maxLocals = 1 := hml0
  have hown : s.vm.findClass "com/example/planmend/planmend/pg/SelectBlock$ColumnReference" = some m.cls := findClass_of_methodNamed Bd.named
  have hnm := (name_of_methodNamed Bd.named Bd.method).1
  have X0 : Stand p l e ({ frames := 0, cells := 0, slots := 0, locals := 0 } : Room) s m #[(.ref a8)] below meth c s₁ [] 0 0 := Stand.of_body Bd
  have e0 : s₁.heap = h0 := by rw [← hh, Bd.state]; rfl
  have N0 := Fr.nil n0
  refine own_body (A := s₁.setTop (mkF m 0 #[.val (.ref a8)] [])) (Q := Qgcolumnr Z a8 p8 h0 n0) (fun t k => castTop (own_efgcolumnr m a8) k) ?_
  refine own_via (B := s₁.setTop (mkF m 1 #[.val (.ref a8)] [(.ref a8)])) (fun t k => XS.aloadN X0.here hx rfl (hb hby own_dgcolumnr_0) rfl rfl k) ?_
  obtain ⟨T1, X1, e1, st1⟩ := getF X0 hx hZ hown (host := "") (Or.inl (hw _ (List.mem_of_getElem? (i := 44) rfl))) Via.refl e0 F8 (g := (mkF m 1 #[.val (.ref a8)] [(.ref a8)])) rfl rfl (hb hby own_dgcolumnr_1)
  refine own_via (B := T1.setTop (mkF m 4 #[.val (.ref a8)] [(.ref p8)])) (fun t k => st1 t k) ?_
  refine own_leaf X1 hx hlk (t := (.object "java/lang/String")) Bd.returns rfl (Or.inr (Or.inr (Or.inr (Or.inr ⟨rfl, rfl, rfl⟩)))) (hb hby own_dgcolumnr_4) (by decide) (by decide) ?_
  show Qgcolumnr Z a8 p8 h0 n0 _ T1.heap _
  rw [e1]
  refine ⟨?_, N0, rfl⟩
  rfl
theorem own_dgalln_0 : decode prog_47_method_2_code 0 = .ok (.aload_n 0, 1) := by decide +kernel
theorem own_dgalln_1 : decode prog_47_method_2_code 1 = .ok (.getfield 20, 3) := by decide +kernel
theorem own_dgalln_4 : decode prog_47_method_2_code 4 = .ok (.ifnonnull 7, 3) := by decide +kernel
theorem own_dgalln_7 : decode prog_47_method_2_code 7 = .ok (.iconst 1, 1) := by decide +kernel
theorem own_dgalln_8 : decode prog_47_method_2_code 8 = .ok (.goto 4, 3) := by decide +kernel
theorem own_dgalln_12 : decode prog_47_method_2_code 12 = .ok (.ireturn, 1) := by decide +kernel
theorem own_efgalln (m : MethodId) (x0 : Addr) : entryFrame m #[(.ref x0)] 1 = mkF m 0 #[.val (.ref x0)] [] := by first | (simp [entryFrame, mkF, argsToLocals, Value.category]; done) | rfl
def Qgalln (Z : State) (a8 : Addr) (h0 : Heap) (n0 : Nat) (v : Option Value) (h : Heap) (L : List Loc) : Prop := v = some (.int (1 : Int32)) ∧ Fr n0 L ∧ h = h0
set_option maxRecDepth 65536 in
set_option maxHeartbeats 40000000 in
theorem rmgalln (l : Launch) (Z : State) (a0 : Array Value) (hw : ∀ d ∈ tables_1, d.before a0 Z = true) (ws : List Jvm.Cond) (a8 : Addr) (h0 : Heap) (n0 : Nat) (Z0 : n0 ≤ h0.size) (F8 : Fld Z h0 a8 "com/example/planmend/planmend/pg/SelectBlock$ColumnReference" "column" "Ljava/lang/String;" .null) :
    MetFree l (⟨"com/example/planmend/planmend/pg/SelectBlock$ColumnReference", "all", "()Z"⟩ : MethodName) (head1 (Jvm.Cond.code (⟨"com/example/planmend/planmend/pg/SelectBlock$ColumnReference", "all", "()Z"⟩ : MethodName) prog_47_method_2_code 1 (some .boolean) :: ws) ({ frames := 0, cells := 0, slots := 0, locals := 0 } : Room)) (fun a U => a = #[(.ref a8)] ∧ Z.Warmed39 U.vm ∧ U.heap = h0) (fun _ _ _ _ _ => True) (fun _ U o U' => ∃ v L, o = .returned v ∧ Qgalln Z a8 h0 n0 v U'.heap L ∧ FrameEnd U o U' L ({ frames := 0, cells := 0, slots := 0, locals := 0 } : Room).cells ({ frames := 0, cells := 0, slots := 0, locals := 0 } : Room).slots) := by
  refine MetFree.of_bodySF (plainFor_of_name own_pn3) hisR ?_
  intro p e s m args below meth c s₁ Bd hml0 hP hK
  obtain ⟨rfl, hZ, hh⟩ := hP
  have hx := Bd.exec
  have hby := Bd.bytes
  have hlk : meth.locks = false := Bd.notSynchronized
  have hml : c.maxLocals = 1 := hml0
  have hown : s.vm.findClass "com/example/planmend/planmend/pg/SelectBlock$ColumnReference" = some m.cls := findClass_of_methodNamed Bd.named
  have hnm := (name_of_methodNamed Bd.named Bd.method).1
  have X0 : Stand p l e ({ frames := 0, cells := 0, slots := 0, locals := 0 } : Room) s m #[(.ref a8)] below meth c s₁ [] 0 0 := Stand.of_body Bd
  have e0 : s₁.heap = h0 := by rw [← hh, Bd.state]; rfl
  have N0 := Fr.nil n0
  refine own_body (A := s₁.setTop (mkF m 0 #[.val (.ref a8)] [])) (Q := Qgalln Z a8 h0 n0) (fun t k => castTop (own_efgalln m a8) k) ?_
  refine own_via (B := s₁.setTop (mkF m 1 #[.val (.ref a8)] [(.ref a8)])) (fun t k => XS.aloadN X0.here hx rfl (hb hby own_dgalln_0) rfl rfl k) ?_
  obtain ⟨T1, X1, e1, st1⟩ := getF X0 hx hZ hown (host := "") (Or.inl (hw _ (List.mem_of_getElem? (i := 44) rfl))) Via.refl e0 F8 (g := (mkF m 1 #[.val (.ref a8)] [(.ref a8)])) rfl rfl (hb hby own_dgalln_1)
  refine own_via (B := T1.setTop (mkF m 4 #[.val (.ref a8)] [.null])) (fun t k => st1 t k) ?_
  refine own_via (B := T1.setTop (mkF m 7 #[.val (.ref a8)] [])) (fun t k => XS.ifnonnullNo X1.here hx rfl (hb hby own_dgalln_4) rfl k) ?_
  refine own_via (B := T1.setTop (mkF m 8 #[.val (.ref a8)] [(.int (1 : Int32))])) (fun t k => XS.iconst X1.here hx rfl (hb hby own_dgalln_7) k) ?_
  refine own_via (B := T1.setTop (mkF m 12 #[.val (.ref a8)] [(.int (1 : Int32))])) (fun t k => XS.goto X1.here hx rfl (pc0 := 8) (pc' := 12) rfl (hb hby own_dgalln_8) (by decide) (by decide) k) ?_
  refine own_leaf X1 hx hlk (t := .boolean) Bd.returns (by decide) (Or.inl ⟨rfl, by simp, _, rfl⟩) (hb hby own_dgalln_12) (by decide) (by decide) ?_
  show Qgalln Z a8 h0 n0 _ T1.heap _
  rw [e1]
  refine ⟨?_, N0, rfl⟩
  rfl
theorem own_dgallr_0 : decode prog_47_method_2_code 0 = .ok (.aload_n 0, 1) := by decide +kernel
theorem own_dgallr_1 : decode prog_47_method_2_code 1 = .ok (.getfield 20, 3) := by decide +kernel
theorem own_dgallr_4 : decode prog_47_method_2_code 4 = .ok (.ifnonnull 7, 3) := by decide +kernel
theorem own_dgallr_11 : decode prog_47_method_2_code 11 = .ok (.iconst 0, 1) := by decide +kernel
theorem own_dgallr_12 : decode prog_47_method_2_code 12 = .ok (.ireturn, 1) := by decide +kernel
theorem own_efgallr (m : MethodId) (x0 : Addr) : entryFrame m #[(.ref x0)] 1 = mkF m 0 #[.val (.ref x0)] [] := by first | (simp [entryFrame, mkF, argsToLocals, Value.category]; done) | rfl
def Qgallr (Z : State) (a8 : Addr) (p8 : Addr) (h0 : Heap) (n0 : Nat) (v : Option Value) (h : Heap) (L : List Loc) : Prop := v = some (.int (0 : Int32)) ∧ Fr n0 L ∧ h = h0
set_option maxRecDepth 65536 in
set_option maxHeartbeats 40000000 in
theorem rmgallr (l : Launch) (Z : State) (a0 : Array Value) (hw : ∀ d ∈ tables_1, d.before a0 Z = true) (ws : List Jvm.Cond) (a8 : Addr) (p8 : Addr) (h0 : Heap) (n0 : Nat) (Z0 : n0 ≤ h0.size) (F8 : Fld Z h0 a8 "com/example/planmend/planmend/pg/SelectBlock$ColumnReference" "column" "Ljava/lang/String;" (.ref p8)) :
    MetFree l (⟨"com/example/planmend/planmend/pg/SelectBlock$ColumnReference", "all", "()Z"⟩ : MethodName) (head1 (Jvm.Cond.code (⟨"com/example/planmend/planmend/pg/SelectBlock$ColumnReference", "all", "()Z"⟩ : MethodName) prog_47_method_2_code 1 (some .boolean) :: ws) ({ frames := 0, cells := 0, slots := 0, locals := 0 } : Room)) (fun a U => a = #[(.ref a8)] ∧ Z.Warmed39 U.vm ∧ U.heap = h0) (fun _ _ _ _ _ => True) (fun _ U o U' => ∃ v L, o = .returned v ∧ Qgallr Z a8 p8 h0 n0 v U'.heap L ∧ FrameEnd U o U' L ({ frames := 0, cells := 0, slots := 0, locals := 0 } : Room).cells ({ frames := 0, cells := 0, slots := 0, locals := 0 } : Room).slots) := by
  refine MetFree.of_bodySF (plainFor_of_name own_pn3) hisR ?_
  intro p e s m args below meth c s₁ Bd hml0 hP hK
  obtain ⟨rfl, hZ, hh⟩ := hP
  have hx := Bd.exec
  have hby := Bd.bytes
  have hlk : meth.locks = false := Bd.notSynchronized
  have hml : c.maxLocals = 1 := hml0
  have hown : s.vm.findClass "com/example/planmend/planmend/pg/SelectBlock$ColumnReference" = some m.cls := findClass_of_methodNamed Bd.named
  have hnm := (name_of_methodNamed Bd.named Bd.method).1
  have X0 : Stand p l e ({ frames := 0, cells := 0, slots := 0, locals := 0 } : Room) s m #[(.ref a8)] below meth c s₁ [] 0 0 := Stand.of_body Bd
  have e0 : s₁.heap = h0 := by rw [← hh, Bd.state]; rfl
  have N0 := Fr.nil n0
  refine own_body (A := s₁.setTop (mkF m 0 #[.val (.ref a8)] [])) (Q := Qgallr Z a8 p8 h0 n0) (fun t k => castTop (own_efgallr m a8) k) ?_
  refine own_via (B := s₁.setTop (mkF m 1 #[.val (.ref a8)] [(.ref a8)])) (fun t k => XS.aloadN X0.here hx rfl (hb hby own_dgallr_0) rfl rfl k) ?_
  obtain ⟨T1, X1, e1, st1⟩ := getF X0 hx hZ hown (host := "") (Or.inl (hw _ (List.mem_of_getElem? (i := 44) rfl))) Via.refl e0 F8 (g := (mkF m 1 #[.val (.ref a8)] [(.ref a8)])) rfl rfl (hb hby own_dgallr_1)
  refine own_via (B := T1.setTop (mkF m 4 #[.val (.ref a8)] [(.ref p8)])) (fun t k => st1 t k) ?_
  refine own_via (B := T1.setTop (mkF m 11 #[.val (.ref a8)] [])) (fun t k => XS.ifnonnullYes X1.here hx rfl (pc0 := 4) (pc' := 11) rfl (hb hby own_dgallr_4) rfl (by decide) (by decide) k) ?_
  refine own_via (B := T1.setTop (mkF m 12 #[.val (.ref a8)] [(.int (0 : Int32))])) (fun t k => XS.iconst X1.here hx rfl (hb hby own_dgallr_11) k) ?_
  refine own_leaf X1 hx hlk (t := .boolean) Bd.returns (by decide) (Or.inl ⟨rfl, by simp, _, rfl⟩) (hb hby own_dgallr_12) (by decide) (by decide) ?_
  show Qgallr Z a8 p8 h0 n0 _ T1.heap _
  rw [e1]
  refine ⟨?_, N0, rfl⟩
  rfl
theorem own_pn4 : plainName "com/example/planmend/planmend/pg/FromItem$Leaf" = true := by first | (simp [plainName, overriddenIn]; done) | decide +kernel
theorem own_dL_0 : decode prog_26_method_1_code 0 = .ok (.aload_n 0, 1) := by decide +kernel
theorem own_dL_1 : decode prog_26_method_1_code 1 = .ok (.invokespecial 1, 3) := by decide +kernel
theorem own_dL_4 : decode prog_26_method_1_code 4 = .ok (.aload_n 0, 1) := by decide +kernel
theorem own_dL_5 : decode prog_26_method_1_code 5 = .ok (.aload_n 1, 1) := by decide +kernel
theorem own_dL_6 : decode prog_26_method_1_code 6 = .ok (.putfield 7, 3) := by decide +kernel
theorem own_dL_9 : decode prog_26_method_1_code 9 = .ok (.aload_n 0, 1) := by decide +kernel
theorem own_dL_10 : decode prog_26_method_1_code 10 = .ok (.aload_n 2, 1) := by decide +kernel
theorem own_dL_11 : decode prog_26_method_1_code 11 = .ok (.putfield 13, 3) := by decide +kernel
theorem own_dL_14 : decode prog_26_method_1_code 14 = .ok (.aload_n 0, 1) := by decide +kernel
theorem own_dL_15 : decode prog_26_method_1_code 15 = .ok (.aload_n 3, 1) := by decide +kernel
theorem own_dL_16 : decode prog_26_method_1_code 16 = .ok (.putfield 17, 3) := by decide +kernel
theorem own_dL_19 : decode prog_26_method_1_code 19 = .ok (.aload_n 0, 1) := by decide +kernel
theorem own_dL_20 : decode prog_26_method_1_code 20 = .ok (.iload 4, 2) := by decide +kernel
theorem own_dL_22 : decode prog_26_method_1_code 22 = .ok (.putfield 20, 3) := by decide +kernel
theorem own_dL_25 : decode prog_26_method_1_code 25 = .ok (.aload_n 0, 1) := by decide +kernel
theorem own_dL_26 : decode prog_26_method_1_code 26 = .ok (.iload 5, 2) := by decide +kernel
theorem own_dL_28 : decode prog_26_method_1_code 28 = .ok (.putfield 24, 3) := by decide +kernel
theorem own_dL_31 : decode prog_26_method_1_code 31 = .ok (.aload_n 0, 1) := by decide +kernel
theorem own_dL_32 : decode prog_26_method_1_code 32 = .ok (.iload 6, 2) := by decide +kernel
theorem own_dL_34 : decode prog_26_method_1_code 34 = .ok (.putfield 27, 3) := by decide +kernel
theorem own_dL_37 : decode prog_26_method_1_code 37 = .ok (.aload_n 0, 1) := by decide +kernel
theorem own_dL_38 : decode prog_26_method_1_code 38 = .ok (.iload 7, 2) := by decide +kernel
theorem own_dL_40 : decode prog_26_method_1_code 40 = .ok (.putfield 30, 3) := by decide +kernel
theorem own_dL_43 : decode prog_26_method_1_code 43 = .ok (.aload_n 0, 1) := by decide +kernel
theorem own_dL_44 : decode prog_26_method_1_code 44 = .ok (.iload 8, 2) := by decide +kernel
theorem own_dL_46 : decode prog_26_method_1_code 46 = .ok (.putfield 33, 3) := by decide +kernel
theorem own_dL_49 : decode prog_26_method_1_code 49 = .ok (.aload_n 0, 1) := by decide +kernel
theorem own_dL_50 : decode prog_26_method_1_code 50 = .ok (.aload 9, 2) := by decide +kernel
theorem own_dL_52 : decode prog_26_method_1_code 52 = .ok (.ifnonnull 7, 3) := by decide +kernel
theorem own_dL_55 : decode prog_26_method_1_code 55 = .ok (.aconst_null, 1) := by decide +kernel
theorem own_dL_56 : decode prog_26_method_1_code 56 = .ok (.goto 8, 3) := by decide +kernel
theorem own_dL_64 : decode prog_26_method_1_code 64 = .ok (.putfield 42, 3) := by decide +kernel
theorem own_dL_67 : decode prog_26_method_1_code 67 = .ok (.aload_n 0, 1) := by decide +kernel
theorem own_dL_68 : decode prog_26_method_1_code 68 = .ok (.aload 10, 2) := by decide +kernel
theorem own_dL_70 : decode prog_26_method_1_code 70 = .ok (.putfield 46, 3) := by decide +kernel
theorem own_dL_73 : decode prog_26_method_1_code 73 = .ok (.return_, 1) := by decide +kernel
theorem own_efL (m : MethodId) (x0 : Addr) (x1 : Addr) (x2 : Addr) (x3 : Addr) (x4 : Int32) (x5 : Int32) (x6 : Int32) (x7 : Int32) (x8 : Int32) : entryFrame m #[(.ref x0), (.ref x1), (.ref x2), (.ref x3), (.int x4), (.int x5), (.int x6), (.int x7), (.int x8), .null, .null] 11 = mkF m 0 #[.val (.ref x0), .val (.ref x1), .val (.ref x2), .val (.ref x3), .val (.int x4), .val (.int x5), .val (.int x6), .val (.int x7), .val (.int x8), .val .null, .val .null] [] := by first | (simp [entryFrame, mkF, argsToLocals, Value.category]; done) | rfl
def QL (Z : State) (a9 : Addr) (s9 : Addr) (n9 : Addr) (q9 : Addr) (i9 : Int32) (j9 : Int32) (k9 : Int32) (l9 : Int32) (m9 : Int32) (u0 : Value) (u1 : Value) (u2 : Value) (u3 : Value) (u4 : Value) (u5 : Value) (u6 : Value) (u7 : Value) (u8 : Value) (u9 : Value) (h0 : Heap) (n0 : Nat) (v : Option Value) (h : Heap) (L : List Loc) : Prop := v = none ∧ Fr n0 L ∧ Keep h0 h [a9]
set_option maxRecDepth 65536 in
set_option maxHeartbeats 40000000 in
theorem rmL (l : Launch) (Z : State) (a0 : Array Value) (hw : ∀ d ∈ tables_1, d.before a0 Z = true) (ws : List Jvm.Cond) (a9 : Addr) (s9 : Addr) (n9 : Addr) (q9 : Addr) (i9 : Int32) (j9 : Int32) (k9 : Int32) (l9 : Int32) (m9 : Int32) (u0 : Value) (u1 : Value) (u2 : Value) (u3 : Value) (u4 : Value) (u5 : Value) (u6 : Value) (u7 : Value) (u8 : Value) (u9 : Value) (h0 : Heap) (n0 : Nat) (Z0 : n0 ≤ h0.size) (E9 : Exa Z h0 a9 "com/example/planmend/planmend/pg/FromItem$Leaf") (F90 : Fld Z h0 a9 "com/example/planmend/planmend/pg/FromItem$Leaf" "source" "Lcom/example/planmend/planmend/pg/FromItem$Source;" u0) (F91 : Fld Z h0 a9 "com/example/planmend/planmend/pg/FromItem$Leaf" "name" "Ljava/lang/String;" u1) (F92 : Fld Z h0 a9 "com/example/planmend/planmend/pg/FromItem$Leaf" "qualifier" "Ljava/lang/String;" u2) (F93 : Fld Z h0 a9 "com/example/planmend/planmend/pg/FromItem$Leaf" "start" "I" u3) (F94 : Fld Z h0 a9 "com/example/planmend/planmend/pg/FromItem$Leaf" "end" "I" u4) (F95 : Fld Z h0 a9 "com/example/planmend/planmend/pg/FromItem$Leaf" "nameStart" "I" u5) (F96 : Fld Z h0 a9 "com/example/planmend/planmend/pg/FromItem$Leaf" "nameEnd" "I" u6) (F97 : Fld Z h0 a9 "com/example/planmend/planmend/pg/FromItem$Leaf" "qualifierToken" "I" u7) (F98 : Fld Z h0 a9 "com/example/planmend/planmend/pg/FromItem$Leaf" "columns" "Ljava/util/List;" u8) (F99 : Fld Z h0 a9 "com/example/planmend/planmend/pg/FromItem$Leaf" "withQuery" "Lcom/example/planmend/planmend/pg/WithQuery;" u9) (g_a9 : n0 ≤ a9) :
    MetFree l (⟨"com/example/planmend/planmend/pg/FromItem$Leaf", "<init>", "(Lcom/example/planmend/planmend/pg/FromItem$Source;Ljava/lang/String;Ljava/lang/String;IIIIILjava/util/List;Lcom/example/planmend/planmend/pg/WithQuery;)V"⟩ : MethodName) (head1 (Jvm.Cond.code (⟨"com/example/planmend/planmend/pg/FromItem$Leaf", "<init>", "(Lcom/example/planmend/planmend/pg/FromItem$Source;Ljava/lang/String;Ljava/lang/String;IIIIILjava/util/List;Lcom/example/planmend/planmend/pg/WithQuery;)V"⟩ : MethodName) prog_26_method_1_code 11 none :: ws) ({ frames := 1, cells := 0, slots := 0, locals := 13 } : Room)) (fun a U => a = #[(.ref a9), (.ref s9), (.ref n9), (.ref q9), (.int i9), (.int j9), (.int k9), (.int l9), (.int m9), .null, .null] ∧ Z.Warmed39 U.vm ∧ U.heap = h0) (fun _ _ _ _ _ => True) (fun _ U o U' => ∃ v L, o = .returned v ∧ QL Z a9 s9 n9 q9 i9 j9 k9 l9 m9 u0 u1 u2 u3 u4 u5 u6 u7 u8 u9 h0 n0 v U'.heap L ∧ FrameEnd U o U' L ({ frames := 1, cells := 0, slots := 0, locals := 13 } : Room).cells ({ frames := 1, cells := 0, slots := 0, locals := 13 } : Room).slots) := by
  refine MetFree.of_bodySF (plainFor_of_name own_pn4) hisR ?_
  intro p e s m args below meth c s₁ Bd hml0 hP hK
  obtain ⟨rfl, hZ, hh⟩ := hP
  have hx := Bd.exec
  have hby := Bd.bytes
  have hlk : meth.locks = false := Bd.notSynchronized
  have hml : c.maxLocals = 11 := hml0
  have hown : s.vm.findClass "com/example/planmend/planmend/pg/FromItem$Leaf" = some m.cls := findClass_of_methodNamed Bd.named
  have hnm := (name_of_methodNamed Bd.named Bd.method).1
  have X0 : Stand p l e ({ frames := 1, cells := 0, slots := 0, locals := 13 } : Room) s m #[(.ref a9), (.ref s9), (.ref n9), (.ref q9), (.int i9), (.int j9), (.int k9), (.int l9), (.int m9), .null, .null] below meth c s₁ [] 0 0 := Stand.of_body Bd
  have e0 : s₁.heap = h0 := by rw [← hh, Bd.state]; rfl
  have N0 := Fr.nil n0
  refine own_body (A := s₁.setTop (mkF m 0 #[.val (.ref a9), .val (.ref s9), .val (.ref n9), .val (.ref q9), .val (.int i9), .val (.int j9), .val (.int k9), .val (.int l9), .val (.int m9), .val .null, .val .null] [])) (Q := QL Z a9 s9 n9 q9 i9 j9 k9 l9 m9 u0 u1 u2 u3 u4 u5 u6 u7 u8 u9 h0 n0) (fun t k => castTop (own_efL m a9 s9 n9 q9 i9 j9 k9 l9 m9) k) ?_
  refine own_via (B := s₁.setTop (mkF m 1 #[.val (.ref a9), .val (.ref s9), .val (.ref n9), .val (.ref q9), .val (.int i9), .val (.int j9), .val (.int k9), .val (.int l9), .val (.int m9), .val .null, .val .null] [(.ref a9)])) (fun t k => XS.aloadN X0.here hx rfl (hb hby own_dL_0) rfl rfl k) ?_
  obtain ⟨T1, X1, e1, st1⟩ := initO X0 hx hZ hown (hw _ (List.mem_of_getElem? (i := 81) rfl)) (hw _ (List.mem_of_getElem? (i := 16) rfl)) (hw _ (List.mem_of_getElem? (i := 17) rfl)) e0 (g := (mkF m 1 #[.val (.ref a9), .val (.ref s9), .val (.ref n9), .val (.ref q9), .val (.int i9), .val (.int j9), .val (.int k9), .val (.int l9), .val (.int m9), .val .null, .val .null] [(.ref a9)])) rfl (by rw [hml]; rfl) rfl (hb hby own_dL_1) (by decide) (W := 0) (by show 2 * 0 + _ ≤ _; exact Nat.le_of_eq rfl) (by decide)
  refine own_via (B := T1.setTop (mkF m 4 #[.val (.ref a9), .val (.ref s9), .val (.ref n9), .val (.ref q9), .val (.int i9), .val (.int j9), .val (.int k9), .val (.int l9), .val (.int m9), .val .null, .val .null] [])) (fun t k => st1 t k) ?_
  refine own_via (B := T1.setTop (mkF m 5 #[.val (.ref a9), .val (.ref s9), .val (.ref n9), .val (.ref q9), .val (.int i9), .val (.int j9), .val (.int k9), .val (.int l9), .val (.int m9), .val .null, .val .null] [(.ref a9)])) (fun t k => XS.aloadN X1.here hx rfl (hb hby own_dL_4) rfl rfl k) ?_
  refine own_via (B := T1.setTop (mkF m 6 #[.val (.ref a9), .val (.ref s9), .val (.ref n9), .val (.ref q9), .val (.int i9), .val (.int j9), .val (.int k9), .val (.int l9), .val (.int m9), .val .null, .val .null] [(.ref s9), (.ref a9)])) (fun t k => XS.aloadN X1.here hx rfl (hb hby own_dL_5) rfl rfl k) ?_
  obtain ⟨T2, h2, X2, e2, W2, st2⟩ := putF X1 hx hZ hown (host := "") (Or.inl (hw _ (List.mem_of_getElem? (i := 82) rfl))) Via.refl e1 F90 E9 (Or.inr ⟨(hw _ (List.mem_of_getElem? (i := 83) rfl)), rfl, hnm⟩) (hw _ (List.mem_of_getElem? (i := 72) rfl)) (ty := (.object "com/example/planmend/planmend/pg/FromItem$Source")) (by decide) rfl rfl (g := (mkF m 6 #[.val (.ref a9), .val (.ref s9), .val (.ref n9), .val (.ref q9), .val (.int i9), .val (.int j9), .val (.int k9), .val (.int l9), .val (.int m9), .val .null, .val .null] [(.ref s9), (.ref a9)])) rfl rfl (hb hby own_dL_6)
  have Fw2 := F90.same W2
  have N2 := Fr.snoc X2 N0 g_a9
  refine own_via (B := T2.setTop (mkF m 9 #[.val (.ref a9), .val (.ref s9), .val (.ref n9), .val (.ref q9), .val (.int i9), .val (.int j9), .val (.int k9), .val (.int l9), .val (.int m9), .val .null, .val .null] [])) (fun t k => st2 t k) ?_
  refine own_via (B := T2.setTop (mkF m 10 #[.val (.ref a9), .val (.ref s9), .val (.ref n9), .val (.ref q9), .val (.int i9), .val (.int j9), .val (.int k9), .val (.int l9), .val (.int m9), .val .null, .val .null] [(.ref a9)])) (fun t k => XS.aloadN X2.here hx rfl (hb hby own_dL_9) rfl rfl k) ?_
  refine own_via (B := T2.setTop (mkF m 11 #[.val (.ref a9), .val (.ref s9), .val (.ref n9), .val (.ref q9), .val (.int i9), .val (.int j9), .val (.int k9), .val (.int l9), .val (.int m9), .val .null, .val .null] [(.ref n9), (.ref a9)])) (fun t k => XS.aloadN X2.here hx rfl (hb hby own_dL_10) rfl rfl k) ?_
  obtain ⟨T3, h3, X3, e3, W3, st3⟩ := putF X2 hx hZ hown (host := "") (Or.inl (hw _ (List.mem_of_getElem? (i := 84) rfl))) Via.refl e2 (F91.other W2 (Or.inr (slot_ne (Or.inr (hw _ (List.mem_of_getElem? (i := 85) rfl))) (Or.inr (hw _ (List.mem_of_getElem? (i := 83) rfl))) (by decide +kernel) (t := (.object "java/lang/String")) (t' := (.object "com/example/planmend/planmend/pg/FromItem$Source")) (by decide +kernel) (by decide +kernel)))) (E9.wr W2) (Or.inr ⟨(hw _ (List.mem_of_getElem? (i := 85) rfl)), rfl, hnm⟩) (hw _ (List.mem_of_getElem? (i := 72) rfl)) (ty := (.object "java/lang/String")) (by decide) rfl rfl (g := (mkF m 11 #[.val (.ref a9), .val (.ref s9), .val (.ref n9), .val (.ref q9), .val (.int i9), .val (.int j9), .val (.int k9), .val (.int l9), .val (.int m9), .val .null, .val .null] [(.ref n9), (.ref a9)])) rfl rfl (hb hby own_dL_11)
  have Fw3 := (F91.other W2 (Or.inr (slot_ne (Or.inr (hw _ (List.mem_of_getElem? (i := 85) rfl))) (Or.inr (hw _ (List.mem_of_getElem? (i := 83) rfl))) (by decide +kernel) (t := (.object "java/lang/String")) (t' := (.object "com/example/planmend/planmend/pg/FromItem$Source")) (by decide +kernel) (by decide +kernel)))).same W3
  have N3 := Fr.snoc X3 N2 g_a9
  refine own_via (B := T3.setTop (mkF m 14 #[.val (.ref a9), .val (.ref s9), .val (.ref n9), .val (.ref q9), .val (.int i9), .val (.int j9), .val (.int k9), .val (.int l9), .val (.int m9), .val .null, .val .null] [])) (fun t k => st3 t k) ?_
  refine own_via (B := T3.setTop (mkF m 15 #[.val (.ref a9), .val (.ref s9), .val (.ref n9), .val (.ref q9), .val (.int i9), .val (.int j9), .val (.int k9), .val (.int l9), .val (.int m9), .val .null, .val .null] [(.ref a9)])) (fun t k => XS.aloadN X3.here hx rfl (hb hby own_dL_14) rfl rfl k) ?_
  refine own_via (B := T3.setTop (mkF m 16 #[.val (.ref a9), .val (.ref s9), .val (.ref n9), .val (.ref q9), .val (.int i9), .val (.int j9), .val (.int k9), .val (.int l9), .val (.int m9), .val .null, .val .null] [(.ref q9), (.ref a9)])) (fun t k => XS.aloadN X3.here hx rfl (hb hby own_dL_15) rfl rfl k) ?_
  obtain ⟨T4, h4, X4, e4, W4, st4⟩ := putF X3 hx hZ hown (host := "") (Or.inl (hw _ (List.mem_of_getElem? (i := 86) rfl))) Via.refl e3 ((F92.other W2 (Or.inr (slot_ne (Or.inr (hw _ (List.mem_of_getElem? (i := 87) rfl))) (Or.inr (hw _ (List.mem_of_getElem? (i := 83) rfl))) (by decide +kernel) (t := (.object "java/lang/String")) (t' := (.object "com/example/planmend/planmend/pg/FromItem$Source")) (by decide +kernel) (by decide +kernel)))).other W3 (Or.inr (slot_ne (Or.inr (hw _ (List.mem_of_getElem? (i := 87) rfl))) (Or.inr (hw _ (List.mem_of_getElem? (i := 85) rfl))) (by decide +kernel) (t := (.object "java/lang/String")) (t' := (.object "java/lang/String")) (by decide +kernel) (by decide +kernel)))) ((E9.wr W2).wr W3) (Or.inr ⟨(hw _ (List.mem_of_getElem? (i := 87) rfl)), rfl, hnm⟩) (hw _ (List.mem_of_getElem? (i := 72) rfl)) (ty := (.object "java/lang/String")) (by decide) rfl rfl (g := (mkF m 16 #[.val (.ref a9), .val (.ref s9), .val (.ref n9), .val (.ref q9), .val (.int i9), .val (.int j9), .val (.int k9), .val (.int l9), .val (.int m9), .val .null, .val .null] [(.ref q9), (.ref a9)])) rfl rfl (hb hby own_dL_16)
  have Fw4 := ((F92.other W2 (Or.inr (slot_ne (Or.inr (hw _ (List.mem_of_getElem? (i := 87) rfl))) (Or.inr (hw _ (List.mem_of_getElem? (i := 83) rfl))) (by decide +kernel) (t := (.object "java/lang/String")) (t' := (.object "com/example/planmend/planmend/pg/FromItem$Source")) (by decide +kernel) (by decide +kernel)))).other W3 (Or.inr (slot_ne (Or.inr (hw _ (List.mem_of_getElem? (i := 87) rfl))) (Or.inr (hw _ (List.mem_of_getElem? (i := 85) rfl))) (by decide +kernel) (t := (.object "java/lang/String")) (t' := (.object "java/lang/String")) (by decide +kernel) (by decide +kernel)))).same W4
  have N4 := Fr.snoc X4 N3 g_a9
  refine own_via (B := T4.setTop (mkF m 19 #[.val (.ref a9), .val (.ref s9), .val (.ref n9), .val (.ref q9), .val (.int i9), .val (.int j9), .val (.int k9), .val (.int l9), .val (.int m9), .val .null, .val .null] [])) (fun t k => st4 t k) ?_
  refine own_via (B := T4.setTop (mkF m 20 #[.val (.ref a9), .val (.ref s9), .val (.ref n9), .val (.ref q9), .val (.int i9), .val (.int j9), .val (.int k9), .val (.int l9), .val (.int m9), .val .null, .val .null] [(.ref a9)])) (fun t k => XS.aloadN X4.here hx rfl (hb hby own_dL_19) rfl rfl k) ?_
  refine own_via (B := T4.setTop (mkF m 22 #[.val (.ref a9), .val (.ref s9), .val (.ref n9), .val (.ref q9), .val (.int i9), .val (.int j9), .val (.int k9), .val (.int l9), .val (.int m9), .val .null, .val .null] [(.int i9), (.ref a9)])) (fun t k => XS.iload X4.here hx rfl (hb hby own_dL_20) rfl k) ?_
  obtain ⟨T5, h5, X5, e5, W5, st5⟩ := putF X4 hx hZ hown (host := "") (Or.inl (hw _ (List.mem_of_getElem? (i := 88) rfl))) Via.refl e4 (((F93.other W2 (Or.inr (slot_ne (Or.inr (hw _ (List.mem_of_getElem? (i := 89) rfl))) (Or.inr (hw _ (List.mem_of_getElem? (i := 83) rfl))) (by decide +kernel) (t := .int) (t' := (.object "com/example/planmend/planmend/pg/FromItem$Source")) (by decide +kernel) (by decide +kernel)))).other W3 (Or.inr (slot_ne (Or.inr (hw _ (List.mem_of_getElem? (i := 89) rfl))) (Or.inr (hw _ (List.mem_of_getElem? (i := 85) rfl))) (by decide +kernel) (t := .int) (t' := (.object "java/lang/String")) (by decide +kernel) (by decide +kernel)))).other W4 (Or.inr (slot_ne (Or.inr (hw _ (List.mem_of_getElem? (i := 89) rfl))) (Or.inr (hw _ (List.mem_of_getElem? (i := 87) rfl))) (by decide +kernel) (t := .int) (t' := (.object "java/lang/String")) (by decide +kernel) (by decide +kernel)))) (((E9.wr W2).wr W3).wr W4) (Or.inr ⟨(hw _ (List.mem_of_getElem? (i := 89) rfl)), rfl, hnm⟩) (hw _ (List.mem_of_getElem? (i := 72) rfl)) (ty := .int) (by decide) rfl rfl (g := (mkF m 22 #[.val (.ref a9), .val (.ref s9), .val (.ref n9), .val (.ref q9), .val (.int i9), .val (.int j9), .val (.int k9), .val (.int l9), .val (.int m9), .val .null, .val .null] [(.int i9), (.ref a9)])) rfl rfl (hb hby own_dL_22)
  have Fw5 := (((F93.other W2 (Or.inr (slot_ne (Or.inr (hw _ (List.mem_of_getElem? (i := 89) rfl))) (Or.inr (hw _ (List.mem_of_getElem? (i := 83) rfl))) (by decide +kernel) (t := .int) (t' := (.object "com/example/planmend/planmend/pg/FromItem$Source")) (by decide +kernel) (by decide +kernel)))).other W3 (Or.inr (slot_ne (Or.inr (hw _ (List.mem_of_getElem? (i := 89) rfl))) (Or.inr (hw _ (List.mem_of_getElem? (i := 85) rfl))) (by decide +kernel) (t := .int) (t' := (.object "java/lang/String")) (by decide +kernel) (by decide +kernel)))).other W4 (Or.inr (slot_ne (Or.inr (hw _ (List.mem_of_getElem? (i := 89) rfl))) (Or.inr (hw _ (List.mem_of_getElem? (i := 87) rfl))) (by decide +kernel) (t := .int) (t' := (.object "java/lang/String")) (by decide +kernel) (by decide +kernel)))).same W5
  have N5 := Fr.snoc X5 N4 g_a9
  refine own_via (B := T5.setTop (mkF m 25 #[.val (.ref a9), .val (.ref s9), .val (.ref n9), .val (.ref q9), .val (.int i9), .val (.int j9), .val (.int k9), .val (.int l9), .val (.int m9), .val .null, .val .null] [])) (fun t k => st5 t k) ?_
  refine own_via (B := T5.setTop (mkF m 26 #[.val (.ref a9), .val (.ref s9), .val (.ref n9), .val (.ref q9), .val (.int i9), .val (.int j9), .val (.int k9), .val (.int l9), .val (.int m9), .val .null, .val .null] [(.ref a9)])) (fun t k => XS.aloadN X5.here hx rfl (hb hby own_dL_25) rfl rfl k) ?_
  refine own_via (B := T5.setTop (mkF m 28 #[.val (.ref a9), .val (.ref s9), .val (.ref n9), .val (.ref q9), .val (.int i9), .val (.int j9), .val (.int k9), .val (.int l9), .val (.int m9), .val .null, .val .null] [(.int j9), (.ref a9)])) (fun t k => XS.iload X5.here hx rfl (hb hby own_dL_26) rfl k) ?_
  obtain ⟨T6, h6, X6, e6, W6, st6⟩ := putF X5 hx hZ hown (host := "") (Or.inl (hw _ (List.mem_of_getElem? (i := 90) rfl))) Via.refl e5 ((((F94.other W2 (Or.inr (slot_ne (Or.inr (hw _ (List.mem_of_getElem? (i := 91) rfl))) (Or.inr (hw _ (List.mem_of_getElem? (i := 83) rfl))) (by decide +kernel) (t := .int) (t' := (.object "com/example/planmend/planmend/pg/FromItem$Source")) (by decide +kernel) (by decide +kernel)))).other W3 (Or.inr (slot_ne (Or.inr (hw _ (List.mem_of_getElem? (i := 91) rfl))) (Or.inr (hw _ (List.mem_of_getElem? (i := 85) rfl))) (by decide +kernel) (t := .int) (t' := (.object "java/lang/String")) (by decide +kernel) (by decide +kernel)))).other W4 (Or.inr (slot_ne (Or.inr (hw _ (List.mem_of_getElem? (i := 91) rfl))) (Or.inr (hw _ (List.mem_of_getElem? (i := 87) rfl))) (by decide +kernel) (t := .int) (t' := (.object "java/lang/String")) (by decide +kernel) (by decide +kernel)))).other W5 (Or.inr (slot_ne (Or.inr (hw _ (List.mem_of_getElem? (i := 91) rfl))) (Or.inr (hw _ (List.mem_of_getElem? (i := 89) rfl))) (by decide +kernel) (t := .int) (t' := .int) (by decide +kernel) (by decide +kernel)))) ((((E9.wr W2).wr W3).wr W4).wr W5) (Or.inr ⟨(hw _ (List.mem_of_getElem? (i := 91) rfl)), rfl, hnm⟩) (hw _ (List.mem_of_getElem? (i := 72) rfl)) (ty := .int) (by decide) rfl rfl (g := (mkF m 28 #[.val (.ref a9), .val (.ref s9), .val (.ref n9), .val (.ref q9), .val (.int i9), .val (.int j9), .val (.int k9), .val (.int l9), .val (.int m9), .val .null, .val .null] [(.int j9), (.ref a9)])) rfl rfl (hb hby own_dL_28)
  have Fw6 := ((((F94.other W2 (Or.inr (slot_ne (Or.inr (hw _ (List.mem_of_getElem? (i := 91) rfl))) (Or.inr (hw _ (List.mem_of_getElem? (i := 83) rfl))) (by decide +kernel) (t := .int) (t' := (.object "com/example/planmend/planmend/pg/FromItem$Source")) (by decide +kernel) (by decide +kernel)))).other W3 (Or.inr (slot_ne (Or.inr (hw _ (List.mem_of_getElem? (i := 91) rfl))) (Or.inr (hw _ (List.mem_of_getElem? (i := 85) rfl))) (by decide +kernel) (t := .int) (t' := (.object "java/lang/String")) (by decide +kernel) (by decide +kernel)))).other W4 (Or.inr (slot_ne (Or.inr (hw _ (List.mem_of_getElem? (i := 91) rfl))) (Or.inr (hw _ (List.mem_of_getElem? (i := 87) rfl))) (by decide +kernel) (t := .int) (t' := (.object "java/lang/String")) (by decide +kernel) (by decide +kernel)))).other W5 (Or.inr (slot_ne (Or.inr (hw _ (List.mem_of_getElem? (i := 91) rfl))) (Or.inr (hw _ (List.mem_of_getElem? (i := 89) rfl))) (by decide +kernel) (t := .int) (t' := .int) (by decide +kernel) (by decide +kernel)))).same W6
  have N6 := Fr.snoc X6 N5 g_a9
  refine own_via (B := T6.setTop (mkF m 31 #[.val (.ref a9), .val (.ref s9), .val (.ref n9), .val (.ref q9), .val (.int i9), .val (.int j9), .val (.int k9), .val (.int l9), .val (.int m9), .val .null, .val .null] [])) (fun t k => st6 t k) ?_
  refine own_via (B := T6.setTop (mkF m 32 #[.val (.ref a9), .val (.ref s9), .val (.ref n9), .val (.ref q9), .val (.int i9), .val (.int j9), .val (.int k9), .val (.int l9), .val (.int m9), .val .null, .val .null] [(.ref a9)])) (fun t k => XS.aloadN X6.here hx rfl (hb hby own_dL_31) rfl rfl k) ?_
  refine own_via (B := T6.setTop (mkF m 34 #[.val (.ref a9), .val (.ref s9), .val (.ref n9), .val (.ref q9), .val (.int i9), .val (.int j9), .val (.int k9), .val (.int l9), .val (.int m9), .val .null, .val .null] [(.int k9), (.ref a9)])) (fun t k => XS.iload X6.here hx rfl (hb hby own_dL_32) rfl k) ?_
  obtain ⟨T7, h7, X7, e7, W7, st7⟩ := putF X6 hx hZ hown (host := "") (Or.inl (hw _ (List.mem_of_getElem? (i := 92) rfl))) Via.refl e6 (((((F95.other W2 (Or.inr (slot_ne (Or.inr (hw _ (List.mem_of_getElem? (i := 93) rfl))) (Or.inr (hw _ (List.mem_of_getElem? (i := 83) rfl))) (by decide +kernel) (t := .int) (t' := (.object "com/example/planmend/planmend/pg/FromItem$Source")) (by decide +kernel) (by decide +kernel)))).other W3 (Or.inr (slot_ne (Or.inr (hw _ (List.mem_of_getElem? (i := 93) rfl))) (Or.inr (hw _ (List.mem_of_getElem? (i := 85) rfl))) (by decide +kernel) (t := .int) (t' := (.object "java/lang/String")) (by decide +kernel) (by decide +kernel)))).other W4 (Or.inr (slot_ne (Or.inr (hw _ (List.mem_of_getElem? (i := 93) rfl))) (Or.inr (hw _ (List.mem_of_getElem? (i := 87) rfl))) (by decide +kernel) (t := .int) (t' := (.object "java/lang/String")) (by decide +kernel) (by decide +kernel)))).other W5 (Or.inr (slot_ne (Or.inr (hw _ (List.mem_of_getElem? (i := 93) rfl))) (Or.inr (hw _ (List.mem_of_getElem? (i := 89) rfl))) (by decide +kernel) (t := .int) (t' := .int) (by decide +kernel) (by decide +kernel)))).other W6 (Or.inr (slot_ne (Or.inr (hw _ (List.mem_of_getElem? (i := 93) rfl))) (Or.inr (hw _ (List.mem_of_getElem? (i := 91) rfl))) (by decide +kernel) (t := .int) (t' := .int) (by decide +kernel) (by decide +kernel)))) (((((E9.wr W2).wr W3).wr W4).wr W5).wr W6) (Or.inr ⟨(hw _ (List.mem_of_getElem? (i := 93) rfl)), rfl, hnm⟩) (hw _ (List.mem_of_getElem? (i := 72) rfl)) (ty := .int) (by decide) rfl rfl (g := (mkF m 34 #[.val (.ref a9), .val (.ref s9), .val (.ref n9), .val (.ref q9), .val (.int i9), .val (.int j9), .val (.int k9), .val (.int l9), .val (.int m9), .val .null, .val .null] [(.int k9), (.ref a9)])) rfl rfl (hb hby own_dL_34)
  have Fw7 := (((((F95.other W2 (Or.inr (slot_ne (Or.inr (hw _ (List.mem_of_getElem? (i := 93) rfl))) (Or.inr (hw _ (List.mem_of_getElem? (i := 83) rfl))) (by decide +kernel) (t := .int) (t' := (.object "com/example/planmend/planmend/pg/FromItem$Source")) (by decide +kernel) (by decide +kernel)))).other W3 (Or.inr (slot_ne (Or.inr (hw _ (List.mem_of_getElem? (i := 93) rfl))) (Or.inr (hw _ (List.mem_of_getElem? (i := 85) rfl))) (by decide +kernel) (t := .int) (t' := (.object "java/lang/String")) (by decide +kernel) (by decide +kernel)))).other W4 (Or.inr (slot_ne (Or.inr (hw _ (List.mem_of_getElem? (i := 93) rfl))) (Or.inr (hw _ (List.mem_of_getElem? (i := 87) rfl))) (by decide +kernel) (t := .int) (t' := (.object "java/lang/String")) (by decide +kernel) (by decide +kernel)))).other W5 (Or.inr (slot_ne (Or.inr (hw _ (List.mem_of_getElem? (i := 93) rfl))) (Or.inr (hw _ (List.mem_of_getElem? (i := 89) rfl))) (by decide +kernel) (t := .int) (t' := .int) (by decide +kernel) (by decide +kernel)))).other W6 (Or.inr (slot_ne (Or.inr (hw _ (List.mem_of_getElem? (i := 93) rfl))) (Or.inr (hw _ (List.mem_of_getElem? (i := 91) rfl))) (by decide +kernel) (t := .int) (t' := .int) (by decide +kernel) (by decide +kernel)))).same W7
  have N7 := Fr.snoc X7 N6 g_a9
  refine own_via (B := T7.setTop (mkF m 37 #[.val (.ref a9), .val (.ref s9), .val (.ref n9), .val (.ref q9), .val (.int i9), .val (.int j9), .val (.int k9), .val (.int l9), .val (.int m9), .val .null, .val .null] [])) (fun t k => st7 t k) ?_
  refine own_via (B := T7.setTop (mkF m 38 #[.val (.ref a9), .val (.ref s9), .val (.ref n9), .val (.ref q9), .val (.int i9), .val (.int j9), .val (.int k9), .val (.int l9), .val (.int m9), .val .null, .val .null] [(.ref a9)])) (fun t k => XS.aloadN X7.here hx rfl (hb hby own_dL_37) rfl rfl k) ?_
  refine own_via (B := T7.setTop (mkF m 40 #[.val (.ref a9), .val (.ref s9), .val (.ref n9), .val (.ref q9), .val (.int i9), .val (.int j9), .val (.int k9), .val (.int l9), .val (.int m9), .val .null, .val .null] [(.int l9), (.ref a9)])) (fun t k => XS.iload X7.here hx rfl (hb hby own_dL_38) rfl k) ?_
  obtain ⟨T8, h8, X8, e8, W8, st8⟩ := putF X7 hx hZ hown (host := "") (Or.inl (hw _ (List.mem_of_getElem? (i := 94) rfl))) Via.refl e7 ((((((F96.other W2 (Or.inr (slot_ne (Or.inr (hw _ (List.mem_of_getElem? (i := 95) rfl))) (Or.inr (hw _ (List.mem_of_getElem? (i := 83) rfl))) (by decide +kernel) (t := .int) (t' := (.object "com/example/planmend/planmend/pg/FromItem$Source")) (by decide +kernel) (by decide +kernel)))).other W3 (Or.inr (slot_ne (Or.inr (hw _ (List.mem_of_getElem? (i := 95) rfl))) (Or.inr (hw _ (List.mem_of_getElem? (i := 85) rfl))) (by decide +kernel) (t := .int) (t' := (.object "java/lang/String")) (by decide +kernel) (by decide +kernel)))).other W4 (Or.inr (slot_ne (Or.inr (hw _ (List.mem_of_getElem? (i := 95) rfl))) (Or.inr (hw _ (List.mem_of_getElem? (i := 87) rfl))) (by decide +kernel) (t := .int) (t' := (.object "java/lang/String")) (by decide +kernel) (by decide +kernel)))).other W5 (Or.inr (slot_ne (Or.inr (hw _ (List.mem_of_getElem? (i := 95) rfl))) (Or.inr (hw _ (List.mem_of_getElem? (i := 89) rfl))) (by decide +kernel) (t := .int) (t' := .int) (by decide +kernel) (by decide +kernel)))).other W6 (Or.inr (slot_ne (Or.inr (hw _ (List.mem_of_getElem? (i := 95) rfl))) (Or.inr (hw _ (List.mem_of_getElem? (i := 91) rfl))) (by decide +kernel) (t := .int) (t' := .int) (by decide +kernel) (by decide +kernel)))).other W7 (Or.inr (slot_ne (Or.inr (hw _ (List.mem_of_getElem? (i := 95) rfl))) (Or.inr (hw _ (List.mem_of_getElem? (i := 93) rfl))) (by decide +kernel) (t := .int) (t' := .int) (by decide +kernel) (by decide +kernel)))) ((((((E9.wr W2).wr W3).wr W4).wr W5).wr W6).wr W7) (Or.inr ⟨(hw _ (List.mem_of_getElem? (i := 95) rfl)), rfl, hnm⟩) (hw _ (List.mem_of_getElem? (i := 72) rfl)) (ty := .int) (by decide) rfl rfl (g := (mkF m 40 #[.val (.ref a9), .val (.ref s9), .val (.ref n9), .val (.ref q9), .val (.int i9), .val (.int j9), .val (.int k9), .val (.int l9), .val (.int m9), .val .null, .val .null] [(.int l9), (.ref a9)])) rfl rfl (hb hby own_dL_40)
  have Fw8 := ((((((F96.other W2 (Or.inr (slot_ne (Or.inr (hw _ (List.mem_of_getElem? (i := 95) rfl))) (Or.inr (hw _ (List.mem_of_getElem? (i := 83) rfl))) (by decide +kernel) (t := .int) (t' := (.object "com/example/planmend/planmend/pg/FromItem$Source")) (by decide +kernel) (by decide +kernel)))).other W3 (Or.inr (slot_ne (Or.inr (hw _ (List.mem_of_getElem? (i := 95) rfl))) (Or.inr (hw _ (List.mem_of_getElem? (i := 85) rfl))) (by decide +kernel) (t := .int) (t' := (.object "java/lang/String")) (by decide +kernel) (by decide +kernel)))).other W4 (Or.inr (slot_ne (Or.inr (hw _ (List.mem_of_getElem? (i := 95) rfl))) (Or.inr (hw _ (List.mem_of_getElem? (i := 87) rfl))) (by decide +kernel) (t := .int) (t' := (.object "java/lang/String")) (by decide +kernel) (by decide +kernel)))).other W5 (Or.inr (slot_ne (Or.inr (hw _ (List.mem_of_getElem? (i := 95) rfl))) (Or.inr (hw _ (List.mem_of_getElem? (i := 89) rfl))) (by decide +kernel) (t := .int) (t' := .int) (by decide +kernel) (by decide +kernel)))).other W6 (Or.inr (slot_ne (Or.inr (hw _ (List.mem_of_getElem? (i := 95) rfl))) (Or.inr (hw _ (List.mem_of_getElem? (i := 91) rfl))) (by decide +kernel) (t := .int) (t' := .int) (by decide +kernel) (by decide +kernel)))).other W7 (Or.inr (slot_ne (Or.inr (hw _ (List.mem_of_getElem? (i := 95) rfl))) (Or.inr (hw _ (List.mem_of_getElem? (i := 93) rfl))) (by decide +kernel) (t := .int) (t' := .int) (by decide +kernel) (by decide +kernel)))).same W8
  have N8 := Fr.snoc X8 N7 g_a9
  refine own_via (B := T8.setTop (mkF m 43 #[.val (.ref a9), .val (.ref s9), .val (.ref n9), .val (.ref q9), .val (.int i9), .val (.int j9), .val (.int k9), .val (.int l9), .val (.int m9), .val .null, .val .null] [])) (fun t k => st8 t k) ?_
  refine own_via (B := T8.setTop (mkF m 44 #[.val (.ref a9), .val (.ref s9), .val (.ref n9), .val (.ref q9), .val (.int i9), .val (.int j9), .val (.int k9), .val (.int l9), .val (.int m9), .val .null, .val .null] [(.ref a9)])) (fun t k => XS.aloadN X8.here hx rfl (hb hby own_dL_43) rfl rfl k) ?_
  refine own_via (B := T8.setTop (mkF m 46 #[.val (.ref a9), .val (.ref s9), .val (.ref n9), .val (.ref q9), .val (.int i9), .val (.int j9), .val (.int k9), .val (.int l9), .val (.int m9), .val .null, .val .null] [(.int m9), (.ref a9)])) (fun t k => XS.iload X8.here hx rfl (hb hby own_dL_44) rfl k) ?_
  obtain ⟨T9, h9, X9, e9, W9, st9⟩ := putF X8 hx hZ hown (host := "") (Or.inl (hw _ (List.mem_of_getElem? (i := 96) rfl))) Via.refl e8 (((((((F97.other W2 (Or.inr (slot_ne (Or.inr (hw _ (List.mem_of_getElem? (i := 97) rfl))) (Or.inr (hw _ (List.mem_of_getElem? (i := 83) rfl))) (by decide +kernel) (t := .int) (t' := (.object "com/example/planmend/planmend/pg/FromItem$Source")) (by decide +kernel) (by decide +kernel)))).other W3 (Or.inr (slot_ne (Or.inr (hw _ (List.mem_of_getElem? (i := 97) rfl))) (Or.inr (hw _ (List.mem_of_getElem? (i := 85) rfl))) (by decide +kernel) (t := .int) (t' := (.object "java/lang/String")) (by decide +kernel) (by decide +kernel)))).other W4 (Or.inr (slot_ne (Or.inr (hw _ (List.mem_of_getElem? (i := 97) rfl))) (Or.inr (hw _ (List.mem_of_getElem? (i := 87) rfl))) (by decide +kernel) (t := .int) (t' := (.object "java/lang/String")) (by decide +kernel) (by decide +kernel)))).other W5 (Or.inr (slot_ne (Or.inr (hw _ (List.mem_of_getElem? (i := 97) rfl))) (Or.inr (hw _ (List.mem_of_getElem? (i := 89) rfl))) (by decide +kernel) (t := .int) (t' := .int) (by decide +kernel) (by decide +kernel)))).other W6 (Or.inr (slot_ne (Or.inr (hw _ (List.mem_of_getElem? (i := 97) rfl))) (Or.inr (hw _ (List.mem_of_getElem? (i := 91) rfl))) (by decide +kernel) (t := .int) (t' := .int) (by decide +kernel) (by decide +kernel)))).other W7 (Or.inr (slot_ne (Or.inr (hw _ (List.mem_of_getElem? (i := 97) rfl))) (Or.inr (hw _ (List.mem_of_getElem? (i := 93) rfl))) (by decide +kernel) (t := .int) (t' := .int) (by decide +kernel) (by decide +kernel)))).other W8 (Or.inr (slot_ne (Or.inr (hw _ (List.mem_of_getElem? (i := 97) rfl))) (Or.inr (hw _ (List.mem_of_getElem? (i := 95) rfl))) (by decide +kernel) (t := .int) (t' := .int) (by decide +kernel) (by decide +kernel)))) (((((((E9.wr W2).wr W3).wr W4).wr W5).wr W6).wr W7).wr W8) (Or.inr ⟨(hw _ (List.mem_of_getElem? (i := 97) rfl)), rfl, hnm⟩) (hw _ (List.mem_of_getElem? (i := 72) rfl)) (ty := .int) (by decide) rfl rfl (g := (mkF m 46 #[.val (.ref a9), .val (.ref s9), .val (.ref n9), .val (.ref q9), .val (.int i9), .val (.int j9), .val (.int k9), .val (.int l9), .val (.int m9), .val .null, .val .null] [(.int m9), (.ref a9)])) rfl rfl (hb hby own_dL_46)
  have Fw9 := (((((((F97.other W2 (Or.inr (slot_ne (Or.inr (hw _ (List.mem_of_getElem? (i := 97) rfl))) (Or.inr (hw _ (List.mem_of_getElem? (i := 83) rfl))) (by decide +kernel) (t := .int) (t' := (.object "com/example/planmend/planmend/pg/FromItem$Source")) (by decide +kernel) (by decide +kernel)))).other W3 (Or.inr (slot_ne (Or.inr (hw _ (List.mem_of_getElem? (i := 97) rfl))) (Or.inr (hw _ (List.mem_of_getElem? (i := 85) rfl))) (by decide +kernel) (t := .int) (t' := (.object "java/lang/String")) (by decide +kernel) (by decide +kernel)))).other W4 (Or.inr (slot_ne (Or.inr (hw _ (List.mem_of_getElem? (i := 97) rfl))) (Or.inr (hw _ (List.mem_of_getElem? (i := 87) rfl))) (by decide +kernel) (t := .int) (t' := (.object "java/lang/String")) (by decide +kernel) (by decide +kernel)))).other W5 (Or.inr (slot_ne (Or.inr (hw _ (List.mem_of_getElem? (i := 97) rfl))) (Or.inr (hw _ (List.mem_of_getElem? (i := 89) rfl))) (by decide +kernel) (t := .int) (t' := .int) (by decide +kernel) (by decide +kernel)))).other W6 (Or.inr (slot_ne (Or.inr (hw _ (List.mem_of_getElem? (i := 97) rfl))) (Or.inr (hw _ (List.mem_of_getElem? (i := 91) rfl))) (by decide +kernel) (t := .int) (t' := .int) (by decide +kernel) (by decide +kernel)))).other W7 (Or.inr (slot_ne (Or.inr (hw _ (List.mem_of_getElem? (i := 97) rfl))) (Or.inr (hw _ (List.mem_of_getElem? (i := 93) rfl))) (by decide +kernel) (t := .int) (t' := .int) (by decide +kernel) (by decide +kernel)))).other W8 (Or.inr (slot_ne (Or.inr (hw _ (List.mem_of_getElem? (i := 97) rfl))) (Or.inr (hw _ (List.mem_of_getElem? (i := 95) rfl))) (by decide +kernel) (t := .int) (t' := .int) (by decide +kernel) (by decide +kernel)))).same W9
  have N9 := Fr.snoc X9 N8 g_a9
  refine own_via (B := T9.setTop (mkF m 49 #[.val (.ref a9), .val (.ref s9), .val (.ref n9), .val (.ref q9), .val (.int i9), .val (.int j9), .val (.int k9), .val (.int l9), .val (.int m9), .val .null, .val .null] [])) (fun t k => st9 t k) ?_
  refine own_via (B := T9.setTop (mkF m 50 #[.val (.ref a9), .val (.ref s9), .val (.ref n9), .val (.ref q9), .val (.int i9), .val (.int j9), .val (.int k9), .val (.int l9), .val (.int m9), .val .null, .val .null] [(.ref a9)])) (fun t k => XS.aloadN X9.here hx rfl (hb hby own_dL_49) rfl rfl k) ?_
  refine own_via (B := T9.setTop (mkF m 52 #[.val (.ref a9), .val (.ref s9), .val (.ref n9), .val (.ref q9), .val (.int i9), .val (.int j9), .val (.int k9), .val (.int l9), .val (.int m9), .val .null, .val .null] [.null, (.ref a9)])) (fun t k => XS.aload X9.here hx rfl (hb hby own_dL_50) rfl rfl k) ?_
  refine own_via (B := T9.setTop (mkF m 55 #[.val (.ref a9), .val (.ref s9), .val (.ref n9), .val (.ref q9), .val (.int i9), .val (.int j9), .val (.int k9), .val (.int l9), .val (.int m9), .val .null, .val .null] [(.ref a9)])) (fun t k => XS.ifnonnullNo X9.here hx rfl (hb hby own_dL_52) rfl k) ?_
  refine own_via (B := T9.setTop (mkF m 56 #[.val (.ref a9), .val (.ref s9), .val (.ref n9), .val (.ref q9), .val (.int i9), .val (.int j9), .val (.int k9), .val (.int l9), .val (.int m9), .val .null, .val .null] [.null, (.ref a9)])) (fun t k => XS.aconstNull X9.here hx rfl (hb hby own_dL_55) k) ?_
  refine own_via (B := T9.setTop (mkF m 64 #[.val (.ref a9), .val (.ref s9), .val (.ref n9), .val (.ref q9), .val (.int i9), .val (.int j9), .val (.int k9), .val (.int l9), .val (.int m9), .val .null, .val .null] [.null, (.ref a9)])) (fun t k => XS.goto X9.here hx rfl (pc0 := 56) (pc' := 64) rfl (hb hby own_dL_56) (by decide) (by decide) k) ?_
  obtain ⟨T10, h10, X10, e10, W10, st10⟩ := putF X9 hx hZ hown (host := "") (Or.inl (hw _ (List.mem_of_getElem? (i := 98) rfl))) Via.refl e9 ((((((((F98.other W2 (Or.inr (slot_ne (Or.inr (hw _ (List.mem_of_getElem? (i := 99) rfl))) (Or.inr (hw _ (List.mem_of_getElem? (i := 83) rfl))) (by decide +kernel) (t := (.object "java/util/List")) (t' := (.object "com/example/planmend/planmend/pg/FromItem$Source")) (by decide +kernel) (by decide +kernel)))).other W3 (Or.inr (slot_ne (Or.inr (hw _ (List.mem_of_getElem? (i := 99) rfl))) (Or.inr (hw _ (List.mem_of_getElem? (i := 85) rfl))) (by decide +kernel) (t := (.object "java/util/List")) (t' := (.object "java/lang/String")) (by decide +kernel) (by decide +kernel)))).other W4 (Or.inr (slot_ne (Or.inr (hw _ (List.mem_of_getElem? (i := 99) rfl))) (Or.inr (hw _ (List.mem_of_getElem? (i := 87) rfl))) (by decide +kernel) (t := (.object "java/util/List")) (t' := (.object "java/lang/String")) (by decide +kernel) (by decide +kernel)))).other W5 (Or.inr (slot_ne (Or.inr (hw _ (List.mem_of_getElem? (i := 99) rfl))) (Or.inr (hw _ (List.mem_of_getElem? (i := 89) rfl))) (by decide +kernel) (t := (.object "java/util/List")) (t' := .int) (by decide +kernel) (by decide +kernel)))).other W6 (Or.inr (slot_ne (Or.inr (hw _ (List.mem_of_getElem? (i := 99) rfl))) (Or.inr (hw _ (List.mem_of_getElem? (i := 91) rfl))) (by decide +kernel) (t := (.object "java/util/List")) (t' := .int) (by decide +kernel) (by decide +kernel)))).other W7 (Or.inr (slot_ne (Or.inr (hw _ (List.mem_of_getElem? (i := 99) rfl))) (Or.inr (hw _ (List.mem_of_getElem? (i := 93) rfl))) (by decide +kernel) (t := (.object "java/util/List")) (t' := .int) (by decide +kernel) (by decide +kernel)))).other W8 (Or.inr (slot_ne (Or.inr (hw _ (List.mem_of_getElem? (i := 99) rfl))) (Or.inr (hw _ (List.mem_of_getElem? (i := 95) rfl))) (by decide +kernel) (t := (.object "java/util/List")) (t' := .int) (by decide +kernel) (by decide +kernel)))).other W9 (Or.inr (slot_ne (Or.inr (hw _ (List.mem_of_getElem? (i := 99) rfl))) (Or.inr (hw _ (List.mem_of_getElem? (i := 97) rfl))) (by decide +kernel) (t := (.object "java/util/List")) (t' := .int) (by decide +kernel) (by decide +kernel)))) ((((((((E9.wr W2).wr W3).wr W4).wr W5).wr W6).wr W7).wr W8).wr W9) (Or.inr ⟨(hw _ (List.mem_of_getElem? (i := 99) rfl)), rfl, hnm⟩) (hw _ (List.mem_of_getElem? (i := 72) rfl)) (ty := (.object "java/util/List")) (by decide) rfl rfl (g := (mkF m 64 #[.val (.ref a9), .val (.ref s9), .val (.ref n9), .val (.ref q9), .val (.int i9), .val (.int j9), .val (.int k9), .val (.int l9), .val (.int m9), .val .null, .val .null] [.null, (.ref a9)])) rfl rfl (hb hby own_dL_64)
  have Fw10 := ((((((((F98.other W2 (Or.inr (slot_ne (Or.inr (hw _ (List.mem_of_getElem? (i := 99) rfl))) (Or.inr (hw _ (List.mem_of_getElem? (i := 83) rfl))) (by decide +kernel) (t := (.object "java/util/List")) (t' := (.object "com/example/planmend/planmend/pg/FromItem$Source")) (by decide +kernel) (by decide +kernel)))).other W3 (Or.inr (slot_ne (Or.inr (hw _ (List.mem_of_getElem? (i := 99) rfl))) (Or.inr (hw _ (List.mem_of_getElem? (i := 85) rfl))) (by decide +kernel) (t := (.object "java/util/List")) (t' := (.object "java/lang/String")) (by decide +kernel) (by decide +kernel)))).other W4 (Or.inr (slot_ne (Or.inr (hw _ (List.mem_of_getElem? (i := 99) rfl))) (Or.inr (hw _ (List.mem_of_getElem? (i := 87) rfl))) (by decide +kernel) (t := (.object "java/util/List")) (t' := (.object "java/lang/String")) (by decide +kernel) (by decide +kernel)))).other W5 (Or.inr (slot_ne (Or.inr (hw _ (List.mem_of_getElem? (i := 99) rfl))) (Or.inr (hw _ (List.mem_of_getElem? (i := 89) rfl))) (by decide +kernel) (t := (.object "java/util/List")) (t' := .int) (by decide +kernel) (by decide +kernel)))).other W6 (Or.inr (slot_ne (Or.inr (hw _ (List.mem_of_getElem? (i := 99) rfl))) (Or.inr (hw _ (List.mem_of_getElem? (i := 91) rfl))) (by decide +kernel) (t := (.object "java/util/List")) (t' := .int) (by decide +kernel) (by decide +kernel)))).other W7 (Or.inr (slot_ne (Or.inr (hw _ (List.mem_of_getElem? (i := 99) rfl))) (Or.inr (hw _ (List.mem_of_getElem? (i := 93) rfl))) (by decide +kernel) (t := (.object "java/util/List")) (t' := .int) (by decide +kernel) (by decide +kernel)))).other W8 (Or.inr (slot_ne (Or.inr (hw _ (List.mem_of_getElem? (i := 99) rfl))) (Or.inr (hw _ (List.mem_of_getElem? (i := 95) rfl))) (by decide +kernel) (t := (.object "java/util/List")) (t' := .int) (by decide +kernel) (by decide +kernel)))).other W9 (Or.inr (slot_ne (Or.inr (hw _ (List.mem_of_getElem? (i := 99) rfl))) (Or.inr (hw _ (List.mem_of_getElem? (i := 97) rfl))) (by decide +kernel) (t := (.object "java/util/List")) (t' := .int) (by decide +kernel) (by decide +kernel)))).same W10
  have N10 := Fr.snoc X10 N9 g_a9
  refine own_via (B := T10.setTop (mkF m 67 #[.val (.ref a9), .val (.ref s9), .val (.ref n9), .val (.ref q9), .val (.int i9), .val (.int j9), .val (.int k9), .val (.int l9), .val (.int m9), .val .null, .val .null] [])) (fun t k => st10 t k) ?_
  refine own_via (B := T10.setTop (mkF m 68 #[.val (.ref a9), .val (.ref s9), .val (.ref n9), .val (.ref q9), .val (.int i9), .val (.int j9), .val (.int k9), .val (.int l9), .val (.int m9), .val .null, .val .null] [(.ref a9)])) (fun t k => XS.aloadN X10.here hx rfl (hb hby own_dL_67) rfl rfl k) ?_
  refine own_via (B := T10.setTop (mkF m 70 #[.val (.ref a9), .val (.ref s9), .val (.ref n9), .val (.ref q9), .val (.int i9), .val (.int j9), .val (.int k9), .val (.int l9), .val (.int m9), .val .null, .val .null] [.null, (.ref a9)])) (fun t k => XS.aload X10.here hx rfl (hb hby own_dL_68) rfl rfl k) ?_
  obtain ⟨T11, h11, X11, e11, W11, st11⟩ := putF X10 hx hZ hown (host := "") (Or.inl (hw _ (List.mem_of_getElem? (i := 100) rfl))) Via.refl e10 (((((((((F99.other W2 (Or.inr (slot_ne (Or.inr (hw _ (List.mem_of_getElem? (i := 101) rfl))) (Or.inr (hw _ (List.mem_of_getElem? (i := 83) rfl))) (by decide +kernel) (t := (.object "com/example/planmend/planmend/pg/WithQuery")) (t' := (.object "com/example/planmend/planmend/pg/FromItem$Source")) (by decide +kernel) (by decide +kernel)))).other W3 (Or.inr (slot_ne (Or.inr (hw _ (List.mem_of_getElem? (i := 101) rfl))) (Or.inr (hw _ (List.mem_of_getElem? (i := 85) rfl))) (by decide +kernel) (t := (.object "com/example/planmend/planmend/pg/WithQuery")) (t' := (.object "java/lang/String")) (by decide +kernel) (by decide +kernel)))).other W4 (Or.inr (slot_ne (Or.inr (hw _ (List.mem_of_getElem? (i := 101) rfl))) (Or.inr (hw _ (List.mem_of_getElem? (i := 87) rfl))) (by decide +kernel) (t := (.object "com/example/planmend/planmend/pg/WithQuery")) (t' := (.object "java/lang/String")) (by decide +kernel) (by decide +kernel)))).other W5 (Or.inr (slot_ne (Or.inr (hw _ (List.mem_of_getElem? (i := 101) rfl))) (Or.inr (hw _ (List.mem_of_getElem? (i := 89) rfl))) (by decide +kernel) (t := (.object "com/example/planmend/planmend/pg/WithQuery")) (t' := .int) (by decide +kernel) (by decide +kernel)))).other W6 (Or.inr (slot_ne (Or.inr (hw _ (List.mem_of_getElem? (i := 101) rfl))) (Or.inr (hw _ (List.mem_of_getElem? (i := 91) rfl))) (by decide +kernel) (t := (.object "com/example/planmend/planmend/pg/WithQuery")) (t' := .int) (by decide +kernel) (by decide +kernel)))).other W7 (Or.inr (slot_ne (Or.inr (hw _ (List.mem_of_getElem? (i := 101) rfl))) (Or.inr (hw _ (List.mem_of_getElem? (i := 93) rfl))) (by decide +kernel) (t := (.object "com/example/planmend/planmend/pg/WithQuery")) (t' := .int) (by decide +kernel) (by decide +kernel)))).other W8 (Or.inr (slot_ne (Or.inr (hw _ (List.mem_of_getElem? (i := 101) rfl))) (Or.inr (hw _ (List.mem_of_getElem? (i := 95) rfl))) (by decide +kernel) (t := (.object "com/example/planmend/planmend/pg/WithQuery")) (t' := .int) (by decide +kernel) (by decide +kernel)))).other W9 (Or.inr (slot_ne (Or.inr (hw _ (List.mem_of_getElem? (i := 101) rfl))) (Or.inr (hw _ (List.mem_of_getElem? (i := 97) rfl))) (by decide +kernel) (t := (.object "com/example/planmend/planmend/pg/WithQuery")) (t' := .int) (by decide +kernel) (by decide +kernel)))).other W10 (Or.inr (slot_ne (Or.inr (hw _ (List.mem_of_getElem? (i := 101) rfl))) (Or.inr (hw _ (List.mem_of_getElem? (i := 99) rfl))) (by decide +kernel) (t := (.object "com/example/planmend/planmend/pg/WithQuery")) (t' := (.object "java/util/List")) (by decide +kernel) (by decide +kernel)))) (((((((((E9.wr W2).wr W3).wr W4).wr W5).wr W6).wr W7).wr W8).wr W9).wr W10) (Or.inr ⟨(hw _ (List.mem_of_getElem? (i := 101) rfl)), rfl, hnm⟩) (hw _ (List.mem_of_getElem? (i := 72) rfl)) (ty := (.object "com/example/planmend/planmend/pg/WithQuery")) (by decide) rfl rfl (g := (mkF m 70 #[.val (.ref a9), .val (.ref s9), .val (.ref n9), .val (.ref q9), .val (.int i9), .val (.int j9), .val (.int k9), .val (.int l9), .val (.int m9), .val .null, .val .null] [.null, (.ref a9)])) rfl rfl (hb hby own_dL_70)
  have Fw11 := (((((((((F99.other W2 (Or.inr (slot_ne (Or.inr (hw _ (List.mem_of_getElem? (i := 101) rfl))) (Or.inr (hw _ (List.mem_of_getElem? (i := 83) rfl))) (by decide +kernel) (t := (.object "com/example/planmend/planmend/pg/WithQuery")) (t' := (.object "com/example/planmend/planmend/pg/FromItem$Source")) (by decide +kernel) (by decide +kernel)))).other W3 (Or.inr (slot_ne (Or.inr (hw _ (List.mem_of_getElem? (i := 101) rfl))) (Or.inr (hw _ (List.mem_of_getElem? (i := 85) rfl))) (by decide +kernel) (t := (.object "com/example/planmend/planmend/pg/WithQuery")) (t' := (.object "java/lang/String")) (by decide +kernel) (by decide +kernel)))).other W4 (Or.inr (slot_ne (Or.inr (hw _ (List.mem_of_getElem? (i := 101) rfl))) (Or.inr (hw _ (List.mem_of_getElem? (i := 87) rfl))) (by decide +kernel) (t := (.object "com/example/planmend/planmend/pg/WithQuery")) (t' := (.object "java/lang/String")) (by decide +kernel) (by decide +kernel)))).other W5 (Or.inr (slot_ne (Or.inr (hw _ (List.mem_of_getElem? (i := 101) rfl))) (Or.inr (hw _ (List.mem_of_getElem? (i := 89) rfl))) (by decide +kernel) (t := (.object "com/example/planmend/planmend/pg/WithQuery")) (t' := .int) (by decide +kernel) (by decide +kernel)))).other W6 (Or.inr (slot_ne (Or.inr (hw _ (List.mem_of_getElem? (i := 101) rfl))) (Or.inr (hw _ (List.mem_of_getElem? (i := 91) rfl))) (by decide +kernel) (t := (.object "com/example/planmend/planmend/pg/WithQuery")) (t' := .int) (by decide +kernel) (by decide +kernel)))).other W7 (Or.inr (slot_ne (Or.inr (hw _ (List.mem_of_getElem? (i := 101) rfl))) (Or.inr (hw _ (List.mem_of_getElem? (i := 93) rfl))) (by decide +kernel) (t := (.object "com/example/planmend/planmend/pg/WithQuery")) (t' := .int) (by decide +kernel) (by decide +kernel)))).other W8 (Or.inr (slot_ne (Or.inr (hw _ (List.mem_of_getElem? (i := 101) rfl))) (Or.inr (hw _ (List.mem_of_getElem? (i := 95) rfl))) (by decide +kernel) (t := (.object "com/example/planmend/planmend/pg/WithQuery")) (t' := .int) (by decide +kernel) (by decide +kernel)))).other W9 (Or.inr (slot_ne (Or.inr (hw _ (List.mem_of_getElem? (i := 101) rfl))) (Or.inr (hw _ (List.mem_of_getElem? (i := 97) rfl))) (by decide +kernel) (t := (.object "com/example/planmend/planmend/pg/WithQuery")) (t' := .int) (by decide +kernel) (by decide +kernel)))).other W10 (Or.inr (slot_ne (Or.inr (hw _ (List.mem_of_getElem? (i := 101) rfl))) (Or.inr (hw _ (List.mem_of_getElem? (i := 99) rfl))) (by decide +kernel) (t := (.object "com/example/planmend/planmend/pg/WithQuery")) (t' := (.object "java/util/List")) (by decide +kernel) (by decide +kernel)))).same W11
  have N11 := Fr.snoc X11 N10 g_a9
  refine own_via (B := T11.setTop (mkF m 73 #[.val (.ref a9), .val (.ref s9), .val (.ref n9), .val (.ref q9), .val (.int i9), .val (.int j9), .val (.int k9), .val (.int l9), .val (.int m9), .val .null, .val .null] [])) (fun t k => st11 t k) ?_
  refine own_leafV X11 hx hlk Bd.returns (hb hby own_dL_73) (by decide) (by decide) ?_
  show QL Z a9 s9 n9 q9 i9 j9 k9 l9 m9 u0 u1 u2 u3 u4 u5 u6 u7 u8 u9 h0 n0 _ T11.heap _
  rw [e11]
  refine ⟨?_, N11, (((((((((((Keep.refl h0 [a9]).wr W2 (Or.inl (List.mem_of_getElem? (i := 0) rfl))).wr W3 (Or.inl (List.mem_of_getElem? (i := 0) rfl))).wr W4 (Or.inl (List.mem_of_getElem? (i := 0) rfl))).wr W5 (Or.inl (List.mem_of_getElem? (i := 0) rfl))).wr W6 (Or.inl (List.mem_of_getElem? (i := 0) rfl))).wr W7 (Or.inl (List.mem_of_getElem? (i := 0) rfl))).wr W8 (Or.inl (List.mem_of_getElem? (i := 0) rfl))).wr W9 (Or.inl (List.mem_of_getElem? (i := 0) rfl))).wr W10 (Or.inl (List.mem_of_getElem? (i := 0) rfl))).wr W11 (Or.inl (List.mem_of_getElem? (i := 0) rfl)))⟩
  rfl
theorem own_pn5 : plainName "com/example/planmend/planmend/pg/ColumnReferenceAllPinLaw" = true := by first | (simp [plainName, overriddenIn]; done) | decide +kernel
theorem own_pd5 : parseMethodDescriptor "([C)V" = some ⟨[(.array .char)], none⟩ := by decide +kernel
theorem own_pd6 : parseMethodDescriptor "(C)Ljava/lang/String;" = some ⟨[.char], some (.object "java/lang/String")⟩ := by decide +kernel
theorem own_dD_0 : decode method_2_code 0 = .ok (.iload_n 0, 1) := by decide +kernel
theorem own_dD_1 : decode method_2_code 1 = .ok (.iconst 1, 1) := by decide +kernel
theorem own_dD_2 : decode method_2_code 2 = .ok (.iushr, 1) := by decide +kernel
theorem own_dD_3 : decode method_2_code 3 = .ok (.iconst 3, 1) := by decide +kernel
theorem own_dD_4 : decode method_2_code 4 = .ok (.iand, 1) := by decide +kernel
theorem own_dD_5 : decode method_2_code 5 = .ok (.istore_n 2, 1) := by decide +kernel
theorem own_dD_6 : decode method_2_code 6 = .ok (.iload_n 2, 1) := by decide +kernel
theorem own_dD_7 : decode method_2_code 7 = .ok (.iconst 1, 1) := by decide +kernel
theorem own_dD_8 : decode method_2_code 8 = .ok (.if_icmp .ne 14, 3) := by decide +kernel
theorem own_dD_11 : decode method_2_code 11 = .ok (.new 7, 3) := by decide +kernel
theorem own_dD_14 : decode method_2_code 14 = .ok (.dup, 1) := by decide +kernel
theorem own_dD_15 : decode method_2_code 15 = .ok (.iconst 0, 1) := by decide +kernel
theorem own_dD_16 : decode method_2_code 16 = .ok (.newarray .char, 2) := by decide +kernel
theorem own_dD_18 : decode method_2_code 18 = .ok (.invokespecial 9, 3) := by decide +kernel
theorem own_dD_21 : decode method_2_code 21 = .ok (.areturn, 1) := by decide +kernel
theorem own_dD_22 : decode method_2_code 22 = .ok (.iload_n 2, 1) := by decide +kernel
theorem own_dD_23 : decode method_2_code 23 = .ok (.iconst 2, 1) := by decide +kernel
theorem own_dD_24 : decode method_2_code 24 = .ok (.if_icmp .ne 13, 3) := by decide +kernel
theorem own_dD_27 : decode method_2_code 27 = .ok (.iload_n 1, 1) := by decide +kernel
theorem own_dD_28 : decode method_2_code 28 = .ok (.sipush 255, 3) := by decide +kernel
theorem own_dD_31 : decode method_2_code 31 = .ok (.iand, 1) := by decide +kernel
theorem own_dD_32 : decode method_2_code 32 = .ok (.i2c, 1) := by decide +kernel
theorem own_dD_33 : decode method_2_code 33 = .ok (.invokestatic 12, 3) := by decide +kernel
theorem own_dD_36 : decode method_2_code 36 = .ok (.areturn, 1) := by decide +kernel
theorem own_dD_37 : decode method_2_code 37 = .ok (.iconst 2, 1) := by decide +kernel
theorem own_dD_38 : decode method_2_code 38 = .ok (.newarray .char, 2) := by decide +kernel
theorem own_dD_40 : decode method_2_code 40 = .ok (.astore_n 3, 1) := by decide +kernel
theorem own_dD_41 : decode method_2_code 41 = .ok (.aload_n 3, 1) := by decide +kernel
theorem own_dD_42 : decode method_2_code 42 = .ok (.iconst 0, 1) := by decide +kernel
theorem own_dD_43 : decode method_2_code 43 = .ok (.iload_n 1, 1) := by decide +kernel
theorem own_dD_44 : decode method_2_code 44 = .ok (.sipush 255, 3) := by decide +kernel
theorem own_dD_47 : decode method_2_code 47 = .ok (.iand, 1) := by decide +kernel
theorem own_dD_48 : decode method_2_code 48 = .ok (.i2c, 1) := by decide +kernel
theorem own_dD_49 : decode method_2_code 49 = .ok (.castore, 1) := by decide +kernel
theorem own_dD_50 : decode method_2_code 50 = .ok (.aload_n 3, 1) := by decide +kernel
theorem own_dD_51 : decode method_2_code 51 = .ok (.iconst 1, 1) := by decide +kernel
theorem own_dD_52 : decode method_2_code 52 = .ok (.iload_n 1, 1) := by decide +kernel
theorem own_dD_53 : decode method_2_code 53 = .ok (.bipush 8, 2) := by decide +kernel
theorem own_dD_55 : decode method_2_code 55 = .ok (.iushr, 1) := by decide +kernel
theorem own_dD_56 : decode method_2_code 56 = .ok (.sipush 255, 3) := by decide +kernel
theorem own_dD_59 : decode method_2_code 59 = .ok (.iand, 1) := by decide +kernel
theorem own_dD_60 : decode method_2_code 60 = .ok (.i2c, 1) := by decide +kernel
theorem own_dD_61 : decode method_2_code 61 = .ok (.castore, 1) := by decide +kernel
theorem own_dD_62 : decode method_2_code 62 = .ok (.new 7, 3) := by decide +kernel
theorem own_dD_65 : decode method_2_code 65 = .ok (.dup, 1) := by decide +kernel
theorem own_dD_66 : decode method_2_code 66 = .ok (.aload_n 3, 1) := by decide +kernel
theorem own_dD_67 : decode method_2_code 67 = .ok (.invokespecial 9, 3) := by decide +kernel
theorem own_dD_70 : decode method_2_code 70 = .ok (.areturn, 1) := by decide +kernel
theorem own_efD (m : MethodId) (x0 : Int32) (x1 : Int32) : entryFrame m #[(.int x0), (.int x1)] 4 = mkF m 0 #[.val (.int x0), .val (.int x1), .unset, .unset] [] := by first | (simp [entryFrame, mkF, argsToLocals, Value.category]; done) | rfl
def QD (Z : State) (fl1 : Int32) (ch1 : Int32) (zc : Int32) (h0 : Heap) (n0 : Nat) (v : Option Value) (h : Heap) (L : List Loc) : Prop := ∃ (r : Addr), v = some (.ref r) ∧ Fr n0 L ∧ Keep h0 h []
set_option maxRecDepth 65536 in
set_option maxHeartbeats 40000000 in
theorem rmD (l : Launch) (Z : State) (a0 : Array Value) (hw : ∀ d ∈ tables_1, d.before a0 Z = true) (ws : List Jvm.Cond) (fl1 : Int32) (ch1 : Int32) (zc : Int32) (h0 : Heap) (n0 : Nat) (Z0 : n0 ≤ h0.size) (O0 : Old Z n0 h0) (Scz : Sta Z Z.heap "java/lang/String" "COMPACT_STRINGS" "Z" (.int zc)) (hcz : ¬ zc = 0) (hch : Jvm.Lit.constHeld Z "java/lang/String" 7) (hcw : Jvm.Lit.compactW.before a0 Z = true) :
    MetFree l (⟨"com/example/planmend/planmend/pg/ColumnReferenceAllPinLaw", "drawColumn", "(II)Ljava/lang/String;"⟩ : MethodName) (head1 (Jvm.Cond.code (⟨"com/example/planmend/planmend/pg/ColumnReferenceAllPinLaw", "drawColumn", "(II)Ljava/lang/String;"⟩ : MethodName) method_2_code 4 (some (.object "java/lang/String")) :: ws) ({ frames := 4, cells := 4, slots := 12, locals := 66 } : Room)) (fun a U => a = #[(.int fl1), (.int ch1)] ∧ Z.Warmed39 U.vm ∧ U.heap = h0 ∧ IB Z U.vm []) (fun _ _ _ _ _ => True) (fun _ U o U' => ∃ v L, o = .returned v ∧ QD Z fl1 ch1 zc h0 n0 v U'.heap L ∧ ReturnedEndW U o U' L ({ frames := 4, cells := 4, slots := 12, locals := 66 } : Room).cells ({ frames := 4, cells := 4, slots := 12, locals := 66 } : Room).slots) := by
  refine MetFree.of_bodySF (plainFor_of_name own_pn5) hisR ?_
  intro p e s m args below meth c s₁ Bd hml0 hP hK
  obtain ⟨rfl, hZ, hh, hI⟩ := hP
  have hx := Bd.exec
  have hby := Bd.bytes
  have hlk : meth.locks = false := Bd.notSynchronized
  have hml : c.maxLocals = 4 := hml0
  have hown : s.vm.findClass "com/example/planmend/planmend/pg/ColumnReferenceAllPinLaw" = some m.cls := findClass_of_methodNamed Bd.named
  have hnm := (name_of_methodNamed Bd.named Bd.method).1
  have X0 : Stand p l e ({ frames := 4, cells := 4, slots := 12, locals := 66 } : Room) (s.setVm s.vm) m #[(.int fl1), (.int ch1)] below meth c s₁ [] 0 0 := Stand.of_body Bd
  have e0 : s₁.heap = h0 := by rw [← hh, Bd.state]; rfl
  have N0 := Fr.nil n0
  have hS0 : s.Since s.vm h0.size := (State.WarmedH.refl s).since _
  have hk0 : h0.size ≤ h0.size := Nat.le_refl _
  have wS : ∀ a ∈ Bundle.stringAtoms, a.before a0 Z = true := by
    intro a ha
    simp only [Bundle.stringAtoms, List.mem_cons, List.not_mem_nil, or_false] at ha
    rcases ha with rfl | rfl | rfl | rfl | rfl | rfl | rfl
    · exact (hw _ (List.mem_of_getElem? (i := 6) rfl))
    · exact (hw _ (List.mem_of_getElem? (i := 5) rfl))
    · exact (hw _ (List.mem_of_getElem? (i := 19) rfl))
    · exact (hw _ (List.mem_of_getElem? (i := 20) rfl))
    · exact (hw _ (List.mem_of_getElem? (i := 21) rfl))
    · exact (hw _ (List.mem_of_getElem? (i := 22) rfl))
    · exact (hw _ (List.mem_of_getElem? (i := 23) rfl))
  refine own_bodyW (A := s₁.setTop (mkF m 0 #[.val (.int fl1), .val (.int ch1), .unset, .unset] [])) (Q := QD Z fl1 ch1 zc h0 n0) (fun t k => castTop (own_efD m fl1 ch1) k) ?_
  have hws : ∀ d ∈ StrChars.Road.words, d.before a0 Z = true := fun d hd => hw d ((by decide +kernel : ∀ d ∈ StrChars.Road.words, d ∈ tables_1) d hd)
  refine own_via (B := s₁.setTop (mkF m 1 #[.val (.int fl1), .val (.int ch1), .unset, .unset] [(.int fl1)])) (fun t k => XS.iloadN X0.here hx rfl (hb hby own_dD_0) rfl k) ?_
  refine own_via (B := s₁.setTop (mkF m 2 #[.val (.int fl1), .val (.int ch1), .unset, .unset] [(.int (1 : Int32)), (.int fl1)])) (fun t k => XS.iconst X0.here hx rfl (hb hby own_dD_1) k) ?_
  refine own_via (B := s₁.setTop (mkF m 3 #[.val (.int fl1), .val (.int ch1), .unset, .unset] [(.int ((fl1.toUInt32 >>> ((1 : Int32) &&& 31).toUInt32).toInt32))])) (fun t k => XS.iushr X0.here hx rfl (hb hby own_dD_2) rfl k) ?_
  refine own_via (B := s₁.setTop (mkF m 4 #[.val (.int fl1), .val (.int ch1), .unset, .unset] [(.int (3 : Int32)), (.int ((fl1.toUInt32 >>> ((1 : Int32) &&& 31).toUInt32).toInt32))])) (fun t k => XS.iconst X0.here hx rfl (hb hby own_dD_3) k) ?_
  refine own_via (B := s₁.setTop (mkF m 5 #[.val (.int fl1), .val (.int ch1), .unset, .unset] [(.int (((fl1.toUInt32 >>> ((1 : Int32) &&& 31).toUInt32).toInt32) &&& (3 : Int32)))])) (fun t k => XS.iand X0.here hx rfl (hb hby own_dD_4) rfl k) ?_
  refine own_via (B := s₁.setTop (mkF m 6 #[.val (.int fl1), .val (.int ch1), .val (.int (((fl1.toUInt32 >>> ((1 : Int32) &&& 31).toUInt32).toInt32) &&& (3 : Int32))), .unset] [])) (fun t k => XS.istoreN X0.here hx rfl (hb hby own_dD_5) rfl (l' := #[.val (.int fl1), .val (.int ch1), .val (.int (((fl1.toUInt32 >>> ((1 : Int32) &&& 31).toUInt32).toInt32) &&& (3 : Int32))), .unset]) rfl k) ?_
  generalize hs5 : (((fl1.toUInt32 >>> ((1 : Int32) &&& 31).toUInt32).toInt32) &&& (3 : Int32)) = s5
  refine own_via (B := s₁.setTop (mkF m 7 #[.val (.int fl1), .val (.int ch1), .val (.int s5), .unset] [(.int s5)])) (fun t k => XS.iloadN X0.here hx rfl (hb hby own_dD_6) rfl k) ?_
  refine own_via (B := s₁.setTop (mkF m 8 #[.val (.int fl1), .val (.int ch1), .val (.int s5), .unset] [(.int (1 : Int32)), (.int s5)])) (fun t k => XS.iconst X0.here hx rfl (hb hby own_dD_7) k) ?_
  by_cases hc8 : s5 = (1 : Int32)
  · refine own_via (B := s₁.setTop (mkF m 11 #[.val (.int fl1), .val (.int ch1), .val (.int s5), .unset] [])) (fun t k => XS.icmpNo X0.here hx rfl (hb hby own_dD_8) rfl (teq hc8).2 k) ?_
    obtain ⟨T1, h1, X1, e1, E1, A1, D1, -, st1⟩ := newO X0 hx hZ hown (hw _ (List.mem_of_getElem? (i := 4) rfl)) (hw _ (List.mem_of_getElem? (i := 5) rfl)) (hw _ (List.mem_of_getElem? (i := 6) rfl)) e0 (g := (mkF m 11 #[.val (.int fl1), .val (.int ch1), .val (.int s5), .unset] [])) rfl (hb hby own_dD_11) (by decide) (by decide)
    obtain ⟨b1, g1⟩ : ∃ z, z = h0.size := ⟨_, rfl⟩
    rw [← g1] at A1 D1 st1
    have g_b1 : n0 ≤ b1 := Nat.le_trans Z0 (Nat.le_of_eq g1.symm)
    have F1_value : Fld Z h1 b1 "java/lang/String" "value" "[B" .null := D1 (Or.inr (hw _ (List.mem_of_getElem? (i := 20) rfl))) (ty := (.array .byte)) (by decide)
    have F1_coder : Fld Z h1 b1 "java/lang/String" "coder" "B" (.int (0 : Int32)) := D1 (Or.inr (hw _ (List.mem_of_getElem? (i := 21) rfl))) (ty := .byte) (by decide)
    refine own_via (B := T1.setTop (mkF m 14 #[.val (.int fl1), .val (.int ch1), .val (.int s5), .unset] [(.ref b1)])) (fun t k => st1 t k) ?_
    refine own_via (B := T1.setTop (mkF m 15 #[.val (.int fl1), .val (.int ch1), .val (.int s5), .unset] [(.ref b1), (.ref b1)])) (fun t k => XS.dup X1.here hx rfl (hb hby own_dD_14) rfl rfl k) ?_
    refine own_via (B := T1.setTop (mkF m 16 #[.val (.int fl1), .val (.int ch1), .val (.int s5), .unset] [(.int (0 : Int32)), (.ref b1), (.ref b1)])) (fun t k => XS.iconst X1.here hx rfl (hb hby own_dD_15) k) ?_
    obtain ⟨T2, h2, kc2, X2, e2, E2, A2, st2⟩ := newP X1 hx hZ (hw _ (List.mem_of_getElem? (i := 7) rfl)) e1 (g := (mkF m 16 #[.val (.int fl1), .val (.int ch1), .val (.int s5), .unset] [(.int (0 : Int32)), (.ref b1), (.ref b1)])) rfl (hb hby own_dD_16) rfl (by decide) (cap := 0) (by decide) (by decide) (by decide) (by decide)
    obtain ⟨b2, g2⟩ : ∃ z, z = h1.size := ⟨_, rfl⟩
    rw [← g2] at A2 st2
    have g_b2 : n0 ≤ b2 := Nat.le_trans (Nat.le_trans Z0 E1.1) (Nat.le_of_eq g2.symm)
    have V2 : Arv Z h2 b2 kc2 .char (0 : Int32) [] (.int (0 : Int32)) := (Arv.new A2 (by decide)).pad (pad_rep [] (.int (0 : Int32)) 0)
    refine own_via (B := T2.setTop (mkF m 18 #[.val (.int fl1), .val (.int ch1), .val (.int s5), .unset] [(.ref b2), (.ref b1), (.ref b1)])) (fun t k => st2 t k) ?_
    obtain ⟨_, _, ⟨T3, L3, k3, n3⟩, -, X3, hT3, gT3, ⟨Lc3, hQ3, l3, y3, z3⟩, st3⟩ := X2.specialBackS hx (y := (⟨"java/lang/String", "<init>", "([C)V"⟩ : MethodName)) rfl hown (mvT hZ (hw _ (List.mem_of_getElem? (i := 8) rfl))) (mvT hZ (hw _ (List.mem_of_getElem? (i := 9) rfl))) (mvT hZ (hw _ (List.mem_of_getElem? (i := 10) rfl))) (by decide) (own_backI (W := 1) (rmF l Z a0 hw [] b1 b2 (.int (0 : Int32)) kc2 h2 n0 (Nat.le_trans (Nat.le_trans Z0 E1.1) E2.1) ((O0.ext E1).ext E2) (by assumption) (by assumption) (A1.ext E2) (F1_value.ext E2) (F1_coder.ext E2) g_b1 V2) (show IB Z (s.setVm s.vm).vm [] from hI) hZ (hw _ (List.mem_of_getElem? (i := 10) rfl)) (hw _ (List.mem_of_getElem? (i := 6) rfl)) (by decide) (by decide)) (g := (mkF m 18 #[.val (.int fl1), .val (.int ch1), .val (.int s5), .unset] [(.ref b2), (.ref b1), (.ref b1)])) rfl (by rw [hml]; rfl) (Steps.refl _) (a := b1) (argsL := [(.ref b2)]) (rest := [(.ref b1)]) (lenOf own_pd5 rfl) rfl (by show 2 * 0 + _ ≤ _; exact Nat.le_of_eq rfl) (hb hby own_dD_18) (fun _ _ => ⟨rfl, e2, (by decide : ((0 + 1) + 1) + 2 ≤ _), (by decide : ((0 + 4) + 0) + 4 ≤ _)⟩)
    dsimp only [Pt.U, Pt.locs, Pt.cells, Pt.slots] at X3 l3 y3 z3 st3 hQ3 hT3 gT3
    subst l3 y3 z3
    obtain ⟨X3, hS3, hZ, hown⟩ := rebS hS0 (by rw [e2]; exact (Nat.le_trans (Nat.le_trans hk0 E1.1) E2.1)) X3 hT3 gT3 hZ hown
    obtain ⟨rfl, Nq3, Kq3⟩ := hQ3
    have N3 := Fr.app N0 Nq3
    refine own_via (B := T3.setTop (mkF m 21 #[.val (.int fl1), .val (.int ch1), .val (.int s5), .unset] [(.ref b1)])) (fun t k => st3.trans k) ?_
    refine own_leafW X3 hx hlk hS3 (Nat.le_refl _) (t := (.object "java/lang/String")) Bd.returns rfl (Or.inr (Or.inr (Or.inr (Or.inr ⟨rfl, rfl, rfl⟩)))) (hb hby own_dD_21) (by decide) (by decide) ?_
    show QD Z fl1 ch1 zc h0 n0 _ T3.heap _
    refine ⟨b1, ?_, N3, ((((Keep.refl h0 []).ext E1).ext E2).trans Kq3 (allS (Or.inr (Nat.le_of_eq g1.symm)) all0))⟩
    rfl
  · refine own_via (B := s₁.setTop (mkF m 22 #[.val (.int fl1), .val (.int ch1), .val (.int s5), .unset] [])) (fun t k => XS.icmpYes X0.here hx rfl (pc0 := 8) (pc' := 22) rfl (hb hby own_dD_8) rfl (feq hc8).2 (by decide) (by decide) k) ?_
    refine own_via (B := s₁.setTop (mkF m 23 #[.val (.int fl1), .val (.int ch1), .val (.int s5), .unset] [(.int s5)])) (fun t k => XS.iloadN X0.here hx rfl (hb hby own_dD_22) rfl k) ?_
    refine own_via (B := s₁.setTop (mkF m 24 #[.val (.int fl1), .val (.int ch1), .val (.int s5), .unset] [(.int (2 : Int32)), (.int s5)])) (fun t k => XS.iconst X0.here hx rfl (hb hby own_dD_23) k) ?_
    by_cases hc24 : s5 = (2 : Int32)
    · refine own_via (B := s₁.setTop (mkF m 27 #[.val (.int fl1), .val (.int ch1), .val (.int s5), .unset] [])) (fun t k => XS.icmpNo X0.here hx rfl (hb hby own_dD_24) rfl (teq hc24).2 k) ?_
      refine own_via (B := s₁.setTop (mkF m 28 #[.val (.int fl1), .val (.int ch1), .val (.int s5), .unset] [(.int ch1)])) (fun t k => XS.iloadN X0.here hx rfl (hb hby own_dD_27) rfl k) ?_
      refine own_via (B := s₁.setTop (mkF m 31 #[.val (.int fl1), .val (.int ch1), .val (.int s5), .unset] [(.int (255 : Int32)), (.int ch1)])) (fun t k => XS.sipush X0.here hx rfl (hb hby own_dD_28) k) ?_
      refine own_via (B := s₁.setTop (mkF m 32 #[.val (.int fl1), .val (.int ch1), .val (.int s5), .unset] [(.int (ch1 &&& (255 : Int32)))])) (fun t k => XS.iand X0.here hx rfl (hb hby own_dD_31) rfl k) ?_
      refine own_via (B := s₁.setTop (mkF m 33 #[.val (.int fl1), .val (.int ch1), .val (.int s5), .unset] [(.int (ch1 &&& (255 : Int32)))])) (fun t k => XS.i2c X0.here hx rfl (hb hby own_dD_32) rfl (by rw [own_i2c (own_b255 ch1)]; exact k)) ?_
      obtain ⟨_, _, ⟨T4, L4, k4, n4⟩, -, X4, ⟨Lc4, hQ4, l4, y4, z4⟩, st4⟩ := Jvm.LawKit.callS X0 hx (y := (⟨"java/lang/String", "valueOf", "(C)Ljava/lang/String;"⟩ : MethodName)) hown (mvT hZ (hw _ (List.mem_of_getElem? (i := 113) rfl))) (mvT hZ (hw _ (List.mem_of_getElem? (i := 114) rfl))) (mvT hZ (hw _ (List.mem_of_getElem? (i := 6) rfl))) (mvT hZ (hw _ (List.mem_of_getElem? (i := 115) rfl))) (by decide) (backOf (W := 0) (rmJ l Z a0 hw [] (ch1 &&& (255 : Int32)) zc h0 n0 Z0 O0 (by assumption) (by assumption) (own_b255 ch1)) hZ (hw _ (List.mem_of_getElem? (i := 115) rfl)) (hw _ (List.mem_of_getElem? (i := 6) rfl)) (by decide) (by decide)) (g := (mkF m 33 #[.val (.int fl1), .val (.int ch1), .val (.int s5), .unset] [(.int (ch1 &&& (255 : Int32)))])) rfl (by rw [hml]; rfl) (argsL := [(.int (ch1 &&& (255 : Int32)))]) (rest := []) (lenOf own_pd6 rfl) rfl (by show 2 * 0 + _ ≤ _; exact Nat.le_of_eq rfl) (hb hby own_dD_33) (fun _ _ => ⟨rfl, e0, (by decide : 0 + 2 ≤ _), (by decide : 0 + 5 ≤ _)⟩)
      dsimp only [Pt.U, Pt.locs, Pt.cells, Pt.slots] at X4 l4 y4 z4 st4 hQ4
      subst l4 y4 z4
      obtain ⟨r_4, tr_4, kr_4, rfl, Nq4, Kq4, hr_4, htr_4, f4_0, f4_1, f4_2, f4_3⟩ := hQ4
      have N4 := Fr.app N0 Nq4
      have g_r_4 : n0 ≤ r_4 := Nat.le_trans Z0 hr_4
      have g_tr_4 : n0 ≤ tr_4 := Nat.le_trans Z0 htr_4
      refine own_via (B := T4.setTop (mkF m 36 #[.val (.int fl1), .val (.int ch1), .val (.int s5), .unset] [(.ref r_4)])) (fun t k => st4 t k) ?_
      refine own_leafW X4 hx hlk hS0 (Nat.le_trans hk0 Kq4.1) (t := (.object "java/lang/String")) Bd.returns rfl (Or.inr (Or.inr (Or.inr (Or.inr ⟨rfl, rfl, rfl⟩)))) (hb hby own_dD_36) (by decide) (by decide) ?_
      show QD Z fl1 ch1 zc h0 n0 _ T4.heap _
      refine ⟨r_4, ?_, N4, ((Keep.refl h0 []).trans Kq4 all0)⟩
      rfl
    · refine own_via (B := s₁.setTop (mkF m 37 #[.val (.int fl1), .val (.int ch1), .val (.int s5), .unset] [])) (fun t k => XS.icmpYes X0.here hx rfl (pc0 := 24) (pc' := 37) rfl (hb hby own_dD_24) rfl (feq hc24).2 (by decide) (by decide) k) ?_
      refine own_via (B := s₁.setTop (mkF m 38 #[.val (.int fl1), .val (.int ch1), .val (.int s5), .unset] [(.int (2 : Int32))])) (fun t k => XS.iconst X0.here hx rfl (hb hby own_dD_37) k) ?_
      obtain ⟨T5, h5, kc5, X5, e5, E5, A5, st5⟩ := newP X0 hx hZ (hw _ (List.mem_of_getElem? (i := 7) rfl)) e0 (g := (mkF m 38 #[.val (.int fl1), .val (.int ch1), .val (.int s5), .unset] [(.int (2 : Int32))])) rfl (hb hby own_dD_38) rfl (by decide) (cap := 2) (by decide) (by decide) (by decide) (by decide)
      obtain ⟨b5, g5⟩ : ∃ z, z = h0.size := ⟨_, rfl⟩
      rw [← g5] at A5 st5
      have g_b5 : n0 ≤ b5 := Nat.le_trans Z0 (Nat.le_of_eq g5.symm)
      have V5 : Arv Z h5 b5 kc5 .char (2 : Int32) [(.int (0 : Int32)), (.int (0 : Int32))] (.int (0 : Int32)) := (Arv.new A5 (by decide)).pad (pad_rep [] (.int (0 : Int32)) 2)
      refine own_via (B := T5.setTop (mkF m 40 #[.val (.int fl1), .val (.int ch1), .val (.int s5), .unset] [(.ref b5)])) (fun t k => st5 t k) ?_
      refine own_via (B := T5.setTop (mkF m 41 #[.val (.int fl1), .val (.int ch1), .val (.int s5), .val (.ref b5)] [])) (fun t k => XS.astoreN X5.here hx rfl (hb hby own_dD_40) rfl rfl (l' := #[.val (.int fl1), .val (.int ch1), .val (.int s5), .val (.ref b5)]) rfl k) ?_
      refine own_via (B := T5.setTop (mkF m 42 #[.val (.int fl1), .val (.int ch1), .val (.int s5), .val (.ref b5)] [(.ref b5)])) (fun t k => XS.aloadN X5.here hx rfl (hb hby own_dD_41) rfl rfl k) ?_
      refine own_via (B := T5.setTop (mkF m 43 #[.val (.int fl1), .val (.int ch1), .val (.int s5), .val (.ref b5)] [(.int (0 : Int32)), (.ref b5)])) (fun t k => XS.iconst X5.here hx rfl (hb hby own_dD_42) k) ?_
      refine own_via (B := T5.setTop (mkF m 44 #[.val (.int fl1), .val (.int ch1), .val (.int s5), .val (.ref b5)] [(.int ch1), (.int (0 : Int32)), (.ref b5)])) (fun t k => XS.iloadN X5.here hx rfl (hb hby own_dD_43) rfl k) ?_
      refine own_via (B := T5.setTop (mkF m 47 #[.val (.int fl1), .val (.int ch1), .val (.int s5), .val (.ref b5)] [(.int (255 : Int32)), (.int ch1), (.int (0 : Int32)), (.ref b5)])) (fun t k => XS.sipush X5.here hx rfl (hb hby own_dD_44) k) ?_
      refine own_via (B := T5.setTop (mkF m 48 #[.val (.int fl1), .val (.int ch1), .val (.int s5), .val (.ref b5)] [(.int (ch1 &&& (255 : Int32))), (.int (0 : Int32)), (.ref b5)])) (fun t k => XS.iand X5.here hx rfl (hb hby own_dD_47) rfl k) ?_
      refine own_via (B := T5.setTop (mkF m 49 #[.val (.int fl1), .val (.int ch1), .val (.int s5), .val (.ref b5)] [(.int (ch1 &&& (255 : Int32))), (.int (0 : Int32)), (.ref b5)])) (fun t k => XS.i2c X5.here hx rfl (hb hby own_dD_48) rfl (by rw [own_i2c (own_b255 ch1)]; exact k)) ?_
      obtain ⟨cl6, Ar6, q6, S6, M6, H6, G6⟩ := id V5
      obtain ⟨T7, h7, X7, e7, W7, st7⟩ := stC X5 hx hZ e5 Ar6 (j := (0 : Int32)) (inb_of S6 ⟨by decide, by decide⟩) (g := (mkF m 49 #[.val (.int fl1), .val (.int ch1), .val (.int s5), .val (.ref b5)] [(.int (ch1 &&& (255 : Int32))), (.int (0 : Int32)), (.ref b5)])) rfl rfl (hb hby own_dD_49)
      have V7 : Arv Z h7 b5 kc5 .char (2 : Int32) [(.int (ch1 &&& (255 : Int32))), (.int (0 : Int32))] (.int (0 : Int32)) := by have q := Arv.set Ar6 q6 S6 M6 H6 G6 (fits_nar_char _) W7 0 rfl (Nat.le_of_ble_eq_true rfl); rw [own_nc (own_b255 ch1)] at q; exact q
      have N7 := Fr.snoc X7 N0 g_b5
      refine own_via (B := T7.setTop (mkF m 50 #[.val (.int fl1), .val (.int ch1), .val (.int s5), .val (.ref b5)] [])) (fun t k => st7 t k) ?_
      refine own_via (B := T7.setTop (mkF m 51 #[.val (.int fl1), .val (.int ch1), .val (.int s5), .val (.ref b5)] [(.ref b5)])) (fun t k => XS.aloadN X7.here hx rfl (hb hby own_dD_50) rfl rfl k) ?_
      refine own_via (B := T7.setTop (mkF m 52 #[.val (.int fl1), .val (.int ch1), .val (.int s5), .val (.ref b5)] [(.int (1 : Int32)), (.ref b5)])) (fun t k => XS.iconst X7.here hx rfl (hb hby own_dD_51) k) ?_
      refine own_via (B := T7.setTop (mkF m 53 #[.val (.int fl1), .val (.int ch1), .val (.int s5), .val (.ref b5)] [(.int ch1), (.int (1 : Int32)), (.ref b5)])) (fun t k => XS.iloadN X7.here hx rfl (hb hby own_dD_52) rfl k) ?_
      refine own_via (B := T7.setTop (mkF m 55 #[.val (.int fl1), .val (.int ch1), .val (.int s5), .val (.ref b5)] [(.int (8 : Int32)), (.int ch1), (.int (1 : Int32)), (.ref b5)])) (fun t k => XS.bipush X7.here hx rfl (hb hby own_dD_53) k) ?_
      refine own_via (B := T7.setTop (mkF m 56 #[.val (.int fl1), .val (.int ch1), .val (.int s5), .val (.ref b5)] [(.int ((ch1.toUInt32 >>> ((8 : Int32) &&& 31).toUInt32).toInt32)), (.int (1 : Int32)), (.ref b5)])) (fun t k => XS.iushr X7.here hx rfl (hb hby own_dD_55) rfl k) ?_
      refine own_via (B := T7.setTop (mkF m 59 #[.val (.int fl1), .val (.int ch1), .val (.int s5), .val (.ref b5)] [(.int (255 : Int32)), (.int ((ch1.toUInt32 >>> ((8 : Int32) &&& 31).toUInt32).toInt32)), (.int (1 : Int32)), (.ref b5)])) (fun t k => XS.sipush X7.here hx rfl (hb hby own_dD_56) k) ?_
      refine own_via (B := T7.setTop (mkF m 60 #[.val (.int fl1), .val (.int ch1), .val (.int s5), .val (.ref b5)] [(.int (((ch1.toUInt32 >>> ((8 : Int32) &&& 31).toUInt32).toInt32) &&& (255 : Int32))), (.int (1 : Int32)), (.ref b5)])) (fun t k => XS.iand X7.here hx rfl (hb hby own_dD_59) rfl k) ?_
      refine own_via (B := T7.setTop (mkF m 61 #[.val (.int fl1), .val (.int ch1), .val (.int s5), .val (.ref b5)] [(.int (((ch1.toUInt32 >>> ((8 : Int32) &&& 31).toUInt32).toInt32) &&& (255 : Int32))), (.int (1 : Int32)), (.ref b5)])) (fun t k => XS.i2c X7.here hx rfl (hb hby own_dD_60) rfl (by rw [own_i2c (own_b255 ((ch1.toUInt32 >>> ((8 : Int32) &&& 31).toUInt32).toInt32))]; exact k)) ?_
      obtain ⟨cl8, Ar8, q8, S8, M8, H8, G8⟩ := id V7
      obtain ⟨T9, h9, X9, e9, W9, st9⟩ := stC X7 hx hZ e7 Ar8 (j := (1 : Int32)) (inb_of S8 ⟨by decide, by decide⟩) (g := (mkF m 61 #[.val (.int fl1), .val (.int ch1), .val (.int s5), .val (.ref b5)] [(.int (((ch1.toUInt32 >>> ((8 : Int32) &&& 31).toUInt32).toInt32) &&& (255 : Int32))), (.int (1 : Int32)), (.ref b5)])) rfl rfl (hb hby own_dD_61)
      have V9 : Arv Z h9 b5 kc5 .char (2 : Int32) [(.int (ch1 &&& (255 : Int32))), (.int (((ch1.toUInt32 >>> ((8 : Int32) &&& 31).toUInt32).toInt32) &&& (255 : Int32)))] (.int (0 : Int32)) := by have q := Arv.set Ar8 q8 S8 M8 H8 G8 (fits_nar_char _) W9 1 rfl (Nat.le_of_ble_eq_true rfl); rw [own_nc (own_b255 ((ch1.toUInt32 >>> ((8 : Int32) &&& 31).toUInt32).toInt32))] at q; exact q
      have N9 := Fr.snoc X9 N7 g_b5
      refine own_via (B := T9.setTop (mkF m 62 #[.val (.int fl1), .val (.int ch1), .val (.int s5), .val (.ref b5)] [])) (fun t k => st9 t k) ?_
      obtain ⟨T10, h10, X10, e10, E10, A10, D10, -, st10⟩ := newO X9 hx hZ hown (hw _ (List.mem_of_getElem? (i := 4) rfl)) (hw _ (List.mem_of_getElem? (i := 5) rfl)) (hw _ (List.mem_of_getElem? (i := 6) rfl)) e9 (g := (mkF m 62 #[.val (.int fl1), .val (.int ch1), .val (.int s5), .val (.ref b5)] [])) rfl (hb hby own_dD_62) (by decide) (by decide)
      obtain ⟨b10, g10⟩ : ∃ z, z = h9.size := ⟨_, rfl⟩
      rw [← g10] at A10 D10 st10
      have g_b10 : n0 ≤ b10 := Nat.le_trans (Nat.le_trans (Nat.le_trans (Nat.le_trans Z0 E5.1) (Keep.of_wr W7).1) (Keep.of_wr W9).1) (Nat.le_of_eq g10.symm)
      have F10_value : Fld Z h10 b10 "java/lang/String" "value" "[B" .null := D10 (Or.inr (hw _ (List.mem_of_getElem? (i := 20) rfl))) (ty := (.array .byte)) (by decide)
      have F10_coder : Fld Z h10 b10 "java/lang/String" "coder" "B" (.int (0 : Int32)) := D10 (Or.inr (hw _ (List.mem_of_getElem? (i := 21) rfl))) (ty := .byte) (by decide)
      refine own_via (B := T10.setTop (mkF m 65 #[.val (.int fl1), .val (.int ch1), .val (.int s5), .val (.ref b5)] [(.ref b10)])) (fun t k => st10 t k) ?_
      refine own_via (B := T10.setTop (mkF m 66 #[.val (.int fl1), .val (.int ch1), .val (.int s5), .val (.ref b5)] [(.ref b10), (.ref b10)])) (fun t k => XS.dup X10.here hx rfl (hb hby own_dD_65) rfl rfl k) ?_
      refine own_via (B := T10.setTop (mkF m 67 #[.val (.int fl1), .val (.int ch1), .val (.int s5), .val (.ref b5)] [(.ref b5), (.ref b10), (.ref b10)])) (fun t k => XS.aloadN X10.here hx rfl (hb hby own_dD_66) rfl rfl k) ?_
      obtain ⟨_, _, ⟨T11, L11, k11, n11⟩, -, X11, ⟨Lc11, hQ11, l11, y11, z11⟩, st11⟩ := X10.specialBack hx (y := (⟨"java/lang/String", "<init>", "([C)V"⟩ : MethodName)) rfl hown (mvT hZ (hw _ (List.mem_of_getElem? (i := 8) rfl))) (mvT hZ (hw _ (List.mem_of_getElem? (i := 9) rfl))) (mvT hZ (hw _ (List.mem_of_getElem? (i := 10) rfl))) (by decide) (StrChars.Road.backV (W := 1) hZ hws (kI := 4) (hw _ (List.mem_of_getElem? (i := 5) rfl)) (cs := ([(ch1 &&& (255 : Int32)), (((ch1.toUInt32 >>> ((8 : Int32) &&& 31).toUInt32).toInt32) &&& (255 : Int32))] : List Int32)) (bs := ([(ch1 &&& (255 : Int32)), (((ch1.toUInt32 >>> ((8 : Int32) &&& 31).toUInt32).toInt32) &&& (255 : Int32))] : List Int32).map (fun c => c.toInt8.toInt32)) (n := 2) g_b10 (Nat.le_trans (Nat.le_trans (Nat.le_trans (Nat.le_trans Z0 E5.1) (Keep.of_wr W7).1) (Keep.of_wr W9).1) E10.1) A10 F10_value F10_coder (V9.ext E10) (Scz.ext ((((O0.ext E5).wr W7 g_b5).wr W9 g_b5).ext E10).2) hcz rfl rfl (by decide) (by decide) (own_cs2 (own_b255 ch1) (own_b255 ((ch1.toUInt32 >>> ((8 : Int32) &&& 31).toUInt32).toInt32))) rfl (by decide) (by decide)) (g := (mkF m 67 #[.val (.int fl1), .val (.int ch1), .val (.int s5), .val (.ref b5)] [(.ref b5), (.ref b10), (.ref b10)])) rfl (by rw [hml]; rfl) (Steps.refl _) (a := b10) (argsL := [(.ref b5)]) (rest := [(.ref b10)]) (lenOf own_pd5 rfl) rfl (by show 2 * 0 + _ ≤ _; exact Nat.le_of_eq rfl) (hb hby own_dD_67) (fun _ _ => ⟨rfl, e10, (by decide : ((0 + 1) + 1) + 1 ≤ _), (by decide : ((0 + 2) + 4) + 2 ≤ _)⟩)
      dsimp only [Pt.U, Pt.locs, Pt.cells, Pt.slots] at X11 l11 y11 z11 st11 hQ11
      subst l11 y11 z11
      obtain ⟨rfl, Nq11, Kq11, gE11, gC11, t11, kt11, u11, su11, ne11, gV11, gA11⟩ := hQ11
      have N11 := Fr.app N9 Nq11
      have g_t11 : n0 ≤ t11 := u11
      refine own_via (B := T11.setTop (mkF m 70 #[.val (.int fl1), .val (.int ch1), .val (.int s5), .val (.ref b5)] [(.ref b10)])) (fun t k => st11.trans k) ?_
      refine own_leafW X11 hx hlk hS0 (Nat.le_trans (Nat.le_trans (Nat.le_trans (Nat.le_trans (Nat.le_trans hk0 E5.1) (Keep.of_wr W7).1) (Keep.of_wr W9).1) E10.1) Kq11.1) (t := (.object "java/lang/String")) Bd.returns rfl (Or.inr (Or.inr (Or.inr (Or.inr ⟨rfl, rfl, rfl⟩)))) (hb hby own_dD_70) (by decide) (by decide) ?_
      show QD Z fl1 ch1 zc h0 n0 _ T11.heap _
      refine ⟨b10, ?_, N11, ((((((Keep.refl h0 []).ext E5).wr W7 (Or.inr (Nat.le_of_eq g5.symm))).wr W9 (Or.inr (Nat.le_of_eq g5.symm))).ext E10).trans Kq11 (allS (Or.inr (Nat.le_trans (Nat.le_trans (Nat.le_trans (Nat.le_trans (Nat.le_refl _) E5.1) (Keep.of_wr W7).1) (Keep.of_wr W9).1) (Nat.le_of_eq g10.symm))) all0))⟩
      rfl
theorem own_pd7 : parseMethodDescriptor "(II)Ljava/lang/String;" = some ⟨[.int, .int], some (.object "java/lang/String")⟩ := by decide +kernel
theorem own_pd8 : parseMethodDescriptor "(IILcom/example/planmend/planmend/pg/FromItem$Leaf;Ljava/lang/String;)V" = some ⟨[.int, .int, (.object "com/example/planmend/planmend/pg/FromItem$Leaf"), (.object "java/lang/String")], none⟩ := by decide +kernel
theorem own_pd9 : parseMethodDescriptor "()Z" = some ⟨[], some .boolean⟩ := by decide +kernel
theorem own_pd10 : parseMethodDescriptor "()I" = some ⟨[], some .int⟩ := by decide +kernel
theorem own_pd11 : parseMethodDescriptor "()Lcom/example/planmend/planmend/pg/FromItem$Leaf;" = some ⟨[], some (.object "com/example/planmend/planmend/pg/FromItem$Leaf")⟩ := by decide +kernel
theorem own_pd12 : parseMethodDescriptor "()Ljava/lang/String;" = some ⟨[], some (.object "java/lang/String")⟩ := by decide +kernel
theorem own_pd13 : parseMethodDescriptor "(Lcom/example/planmend/planmend/pg/FromItem$Source;Ljava/lang/String;Ljava/lang/String;IIIIILjava/util/List;Lcom/example/planmend/planmend/pg/WithQuery;)V" = some ⟨[(.object "com/example/planmend/planmend/pg/FromItem$Source"), (.object "java/lang/String"), (.object "java/lang/String"), .int, .int, .int, .int, .int, (.object "java/util/List"), (.object "com/example/planmend/planmend/pg/WithQuery")], none⟩ := by decide +kernel
theorem own_ef0 (m : MethodId) (x0 : Int32) (x1 : Int32) (x2 : Int32) (x3 : Int32) (x4 : Int32) : entryFrame m #[(.int x0), (.int x1), (.int x2), (.int x3), (.int x4)] maxLocals = mkF m 0 #[.val (.int x0), .val (.int x1), .val (.int x2), .val (.int x3), .val (.int x4), .unset, .unset, .unset, .unset, .unset] [] := by first | (simp [entryFrame, mkF, argsToLocals, Value.category, maxLocals]; done) | rfl
def Q0 (Z : State) (i0 : Int32) (i1 : Int32) (i2 : Int32) (i3 : Int32) (i4 : Int32) (zc : Int32) (wT : Addr) (h0 : Heap) (n0 : Nat) (v : Option Value) (h : Heap) (L : List Loc) : Prop := v = some (.int 1) ∧ Fr n0 L
set_option maxRecDepth 65536 in
set_option maxHeartbeats 40000000 in
theorem rm0 (l : Launch) (Z : State) (a0 : Array Value) (hw : ∀ d ∈ tables_1, d.before a0 Z = true) (ws : List Jvm.Cond) (i0 : Int32) (i1 : Int32) (i2 : Int32) (i3 : Int32) (i4 : Int32) (zc : Int32) (wT : Addr) (h0 : Heap) (n0 : Nat) (Z0 : n0 ≤ h0.size) (O0 : Old Z n0 h0) (Scz : Sta Z Z.heap "java/lang/String" "COMPACT_STRINGS" "Z" (.int zc)) (hcz : ¬ zc = 0) (hch : Jvm.Lit.constHeld Z "java/lang/String" 7) (hcw : Jvm.Lit.compactW.before a0 Z = true) (ST9 : Sta Z Z.heap "com/example/planmend/planmend/pg/FromItem$Source" "TABLE" "Lcom/example/planmend/planmend/pg/FromItem$Source;" (.ref wT)) :
    MetFree l x (head1 (Jvm.Cond.code x code maxLocals ret :: ws) room_1) (fun a U => a = #[(.int i0), (.int i1), (.int i2), (.int i3), (.int i4)] ∧ Z.Warmed39 U.vm ∧ U.heap = h0 ∧ IB Z U.vm []) (fun _ _ _ _ _ => True) (fun _ U o U' => ∃ v L, o = .returned v ∧ Q0 Z i0 i1 i2 i3 i4 zc wT h0 n0 v U'.heap L ∧ ReturnedEndW U o U' L room_1.cells room_1.slots) := by
  refine MetFree.of_bodySF (plainFor_of_name own_pn5) hisR ?_
  intro p e s m args below meth c s₁ Bd hml0 hP hK
  obtain ⟨rfl, hZ, hh, hI⟩ := hP
  have hx := Bd.exec
  have hby := Bd.bytes
  have hlk : meth.locks = false := Bd.notSynchronized
  have hml : c.maxLocals = 10 := hml0
  have hown : s.vm.findClass "com/example/planmend/planmend/pg/ColumnReferenceAllPinLaw" = some m.cls := findClass_of_methodNamed Bd.named
  have hnm := (name_of_methodNamed Bd.named Bd.method).1
  have X0 : Stand p l e room_1 (s.setVm s.vm) m #[(.int i0), (.int i1), (.int i2), (.int i3), (.int i4)] below meth c s₁ [] 0 0 := Stand.of_body Bd
  have e0 : s₁.heap = h0 := by rw [← hh, Bd.state]; rfl
  have N0 := Fr.nil n0
  have hS0 : s.Since s.vm h0.size := (State.WarmedH.refl s).since _
  have hk0 : h0.size ≤ h0.size := Nat.le_refl _
  have wS : ∀ a ∈ Bundle.stringAtoms, a.before a0 Z = true := by
    intro a ha
    simp only [Bundle.stringAtoms, List.mem_cons, List.not_mem_nil, or_false] at ha
    rcases ha with rfl | rfl | rfl | rfl | rfl | rfl | rfl
    · exact (hw _ (List.mem_of_getElem? (i := 6) rfl))
    · exact (hw _ (List.mem_of_getElem? (i := 5) rfl))
    · exact (hw _ (List.mem_of_getElem? (i := 19) rfl))
    · exact (hw _ (List.mem_of_getElem? (i := 20) rfl))
    · exact (hw _ (List.mem_of_getElem? (i := 21) rfl))
    · exact (hw _ (List.mem_of_getElem? (i := 22) rfl))
    · exact (hw _ (List.mem_of_getElem? (i := 23) rfl))
  refine own_bodyW (A := s₁.setTop (mkF m 0 #[.val (.int i0), .val (.int i1), .val (.int i2), .val (.int i3), .val (.int i4), .unset, .unset, .unset, .unset, .unset] [])) (Q := Q0 Z i0 i1 i2 i3 i4 zc wT h0 n0) (fun t k => castTop (own_ef0 m i0 i1 i2 i3 i4) k) ?_
  refine own_via (B := s₁.setTop (mkF m 1 #[.val (.int i0), .val (.int i1), .val (.int i2), .val (.int i3), .val (.int i4), .unset, .unset, .unset, .unset, .unset] [(.int i2)])) (fun t k => XS.iloadN X0.here hx rfl (hb hby at_0) rfl k) ?_
  refine own_via (B := s₁.setTop (mkF m 2 #[.val (.int i0), .val (.int i1), .val (.int i2), .val (.int i3), .val (.int i4), .unset, .unset, .unset, .unset, .unset] [(.int (1 : Int32)), (.int i2)])) (fun t k => XS.iconst X0.here hx rfl (hb hby at_1) k) ?_
  refine own_via (B := s₁.setTop (mkF m 3 #[.val (.int i0), .val (.int i1), .val (.int i2), .val (.int i3), .val (.int i4), .unset, .unset, .unset, .unset, .unset] [(.int (i2 &&& (1 : Int32)))])) (fun t k => XS.iand X0.here hx rfl (hb hby at_2) rfl k) ?_
  refine own_bind (G := fun B => ∃ (T' : State) (L' : List Loc) (v3s0 : Int32), Fr n0 L' ∧ ((((i2 &&& (1 : Int32)) = (0 : Int32)) ∧ v3s0 = (0 : Int32)) ∨ ((¬ ((i2 &&& (1 : Int32)) = (0 : Int32))) ∧ v3s0 = (1 : Int32))) ∧ B = T'.setTop (mkF m 11 #[.val (.int i0), .val (.int i1), .val (.int i2), .val (.int i3), .val (.int i4), .unset, .unset, .unset, .unset, .unset] [(.int v3s0)]) ∧ Stand p l e room_1 (s.setVm s.vm) m #[(.int i0), (.int i1), (.int i2), (.int i3), (.int i4)] below meth c T' L' 0 0 ∧ T'.heap = h0) ?_ ?_
  · by_cases hc3 : (i2 &&& (1 : Int32)) = (0 : Int32)
    · refine own_via (B := s₁.setTop (mkF m 10 #[.val (.int i0), .val (.int i1), .val (.int i2), .val (.int i3), .val (.int i4), .unset, .unset, .unset, .unset, .unset] [])) (fun t k => XS.ifYes X0.here hx rfl (pc0 := 3) (pc' := 10) rfl (hb hby at_3) rfl ((if0 _ _).trans (teq hc3).1) (by decide) (by decide) k) ?_
      refine own_via (B := s₁.setTop (mkF m 11 #[.val (.int i0), .val (.int i1), .val (.int i2), .val (.int i3), .val (.int i4), .unset, .unset, .unset, .unset, .unset] [(.int (0 : Int32))])) (fun t k => XS.iconst X0.here hx rfl (hb hby at_10) k) ?_
      exact own_done ⟨_, _, _, N0, (Or.inl ⟨hc3, rfl⟩), rfl, X0, e0⟩
    · refine own_via (B := s₁.setTop (mkF m 6 #[.val (.int i0), .val (.int i1), .val (.int i2), .val (.int i3), .val (.int i4), .unset, .unset, .unset, .unset, .unset] [])) (fun t k => XS.ifNo X0.here hx rfl (hb hby at_3) rfl ((if0 _ _).trans (feq hc3).1) k) ?_
      refine own_via (B := s₁.setTop (mkF m 7 #[.val (.int i0), .val (.int i1), .val (.int i2), .val (.int i3), .val (.int i4), .unset, .unset, .unset, .unset, .unset] [(.int (1 : Int32))])) (fun t k => XS.iconst X0.here hx rfl (hb hby at_6) k) ?_
      refine own_via (B := s₁.setTop (mkF m 11 #[.val (.int i0), .val (.int i1), .val (.int i2), .val (.int i3), .val (.int i4), .unset, .unset, .unset, .unset, .unset] [(.int (1 : Int32))])) (fun t k => XS.goto X0.here hx rfl (pc0 := 7) (pc' := 11) rfl (hb hby at_7) (by decide) (by decide) k) ?_
      exact own_done ⟨_, _, _, N0, (Or.inr ⟨hc3, rfl⟩), rfl, X0, e0⟩
  · rintro B ⟨T1, L1, v3s0, N1, hv3, rfl, X1, e1⟩
    refine own_via (B := T1.setTop (mkF m 13 #[.val (.int i0), .val (.int i1), .val (.int i2), .val (.int i3), .val (.int i4), .val (.int v3s0), .unset, .unset, .unset, .unset] [])) (fun t k => XS.istore X1.here hx rfl (hb hby at_11) rfl (l' := #[.val (.int i0), .val (.int i1), .val (.int i2), .val (.int i3), .val (.int i4), .val (.int v3s0), .unset, .unset, .unset, .unset]) rfl k) ?_
    refine own_via (B := T1.setTop (mkF m 14 #[.val (.int i0), .val (.int i1), .val (.int i2), .val (.int i3), .val (.int i4), .val (.int v3s0), .unset, .unset, .unset, .unset] [(.int i2)])) (fun t k => XS.iloadN X1.here hx rfl (hb hby at_13) rfl k) ?_
    refine own_via (B := T1.setTop (mkF m 16 #[.val (.int i0), .val (.int i1), .val (.int i2), .val (.int i3), .val (.int i4), .val (.int v3s0), .unset, .unset, .unset, .unset] [(.int (8 : Int32)), (.int i2)])) (fun t k => XS.bipush X1.here hx rfl (hb hby at_14) k) ?_
    refine own_via (B := T1.setTop (mkF m 17 #[.val (.int i0), .val (.int i1), .val (.int i2), .val (.int i3), .val (.int i4), .val (.int v3s0), .unset, .unset, .unset, .unset] [(.int (i2 &&& (8 : Int32)))])) (fun t k => XS.iand X1.here hx rfl (hb hby at_16) rfl k) ?_
    refine own_bind (G := fun B => ∃ (T' : State) (L' : List Loc) (v17s0 : Int32), Fr n0 L' ∧ ((((i2 &&& (8 : Int32)) = (0 : Int32)) ∧ v17s0 = (0 : Int32)) ∨ ((¬ ((i2 &&& (8 : Int32)) = (0 : Int32))) ∧ v17s0 = (1 : Int32))) ∧ B = T'.setTop (mkF m 25 #[.val (.int i0), .val (.int i1), .val (.int i2), .val (.int i3), .val (.int i4), .val (.int v3s0), .unset, .unset, .unset, .unset] [(.int v17s0)]) ∧ Stand p l e room_1 (s.setVm s.vm) m #[(.int i0), (.int i1), (.int i2), (.int i3), (.int i4)] below meth c T' L' 0 0 ∧ T'.heap = h0) ?_ ?_
    · by_cases hc17 : (i2 &&& (8 : Int32)) = (0 : Int32)
      · refine own_via (B := T1.setTop (mkF m 24 #[.val (.int i0), .val (.int i1), .val (.int i2), .val (.int i3), .val (.int i4), .val (.int v3s0), .unset, .unset, .unset, .unset] [])) (fun t k => XS.ifYes X1.here hx rfl (pc0 := 17) (pc' := 24) rfl (hb hby at_17) rfl ((if0 _ _).trans (teq hc17).1) (by decide) (by decide) k) ?_
        refine own_via (B := T1.setTop (mkF m 25 #[.val (.int i0), .val (.int i1), .val (.int i2), .val (.int i3), .val (.int i4), .val (.int v3s0), .unset, .unset, .unset, .unset] [(.int (0 : Int32))])) (fun t k => XS.iconst X1.here hx rfl (hb hby at_24) k) ?_
        exact own_done ⟨_, _, _, N1, (Or.inl ⟨hc17, rfl⟩), rfl, X1, e1⟩
      · refine own_via (B := T1.setTop (mkF m 20 #[.val (.int i0), .val (.int i1), .val (.int i2), .val (.int i3), .val (.int i4), .val (.int v3s0), .unset, .unset, .unset, .unset] [])) (fun t k => XS.ifNo X1.here hx rfl (hb hby at_17) rfl ((if0 _ _).trans (feq hc17).1) k) ?_
        refine own_via (B := T1.setTop (mkF m 21 #[.val (.int i0), .val (.int i1), .val (.int i2), .val (.int i3), .val (.int i4), .val (.int v3s0), .unset, .unset, .unset, .unset] [(.int (1 : Int32))])) (fun t k => XS.iconst X1.here hx rfl (hb hby at_20) k) ?_
        refine own_via (B := T1.setTop (mkF m 25 #[.val (.int i0), .val (.int i1), .val (.int i2), .val (.int i3), .val (.int i4), .val (.int v3s0), .unset, .unset, .unset, .unset] [(.int (1 : Int32))])) (fun t k => XS.goto X1.here hx rfl (pc0 := 21) (pc' := 25) rfl (hb hby at_21) (by decide) (by decide) k) ?_
        exact own_done ⟨_, _, _, N1, (Or.inr ⟨hc17, rfl⟩), rfl, X1, e1⟩
    · rintro B ⟨T2, L2, v17s0, N2, hv17, rfl, X2, e2⟩
      refine own_via (B := T2.setTop (mkF m 27 #[.val (.int i0), .val (.int i1), .val (.int i2), .val (.int i3), .val (.int i4), .val (.int v3s0), .val (.int v17s0), .unset, .unset, .unset] [])) (fun t k => XS.istore X2.here hx rfl (hb hby at_25) rfl (l' := #[.val (.int i0), .val (.int i1), .val (.int i2), .val (.int i3), .val (.int i4), .val (.int v3s0), .val (.int v17s0), .unset, .unset, .unset]) rfl k) ?_
      refine own_via (B := T2.setTop (mkF m 29 #[.val (.int i0), .val (.int i1), .val (.int i2), .val (.int i3), .val (.int i4), .val (.int v3s0), .val (.int v17s0), .unset, .unset, .unset] [(.int v3s0)])) (fun t k => XS.iload X2.here hx rfl (hb hby at_27) rfl k) ?_
      by_cases hc29 : v3s0 = (0 : Int32)
      · refine own_via (B := T2.setTop (mkF m 36 #[.val (.int i0), .val (.int i1), .val (.int i2), .val (.int i3), .val (.int i4), .val (.int v3s0), .val (.int v17s0), .unset, .unset, .unset] [])) (fun t k => XS.ifYes X2.here hx rfl (pc0 := 29) (pc' := 36) rfl (hb hby at_29) rfl ((if0 _ _).trans (teq hc29).1) (by decide) (by decide) k) ?_
        refine own_via (B := T2.setTop (mkF m 37 #[.val (.int i0), .val (.int i1), .val (.int i2), .val (.int i3), .val (.int i4), .val (.int v3s0), .val (.int v17s0), .unset, .unset, .unset] [(.int i2)])) (fun t k => XS.iloadN X2.here hx rfl (hb hby at_36) rfl k) ?_
        refine own_via (B := T2.setTop (mkF m 38 #[.val (.int i0), .val (.int i1), .val (.int i2), .val (.int i3), .val (.int i4), .val (.int v3s0), .val (.int v17s0), .unset, .unset, .unset] [(.int i3), (.int i2)])) (fun t k => XS.iloadN X2.here hx rfl (hb hby at_37) rfl k) ?_
        obtain ⟨_, _, ⟨T3, L3, k3, n3⟩, -, X3, hT3, gT3, ⟨Lc3, hQ3, l3, y3, z3⟩, st3⟩ := callSS X2 hx (y := (⟨"com/example/planmend/planmend/pg/ColumnReferenceAllPinLaw", "drawColumn", "(II)Ljava/lang/String;"⟩ : MethodName)) hown (mvT hZ (hw _ (List.mem_of_getElem? (i := 0) rfl))) (mvT hZ (hw _ (List.mem_of_getElem? (i := 1) rfl))) (mvT hZ (hw _ (List.mem_of_getElem? (i := 2) rfl))) (mvT hZ (hw _ (List.mem_of_getElem? (i := 3) rfl))) (by decide) (own_backI (W := 0) (rmD l Z a0 hw [] i2 i3 zc h0 n0 Z0 O0 (by assumption) (by assumption) (by assumption) (by assumption)) (show IB Z (s.setVm s.vm).vm [] from hI) hZ (hw _ (List.mem_of_getElem? (i := 3) rfl)) (hw _ (List.mem_of_getElem? (i := 2) rfl)) (by decide) (by decide)) (g := (mkF m 38 #[.val (.int i0), .val (.int i1), .val (.int i2), .val (.int i3), .val (.int i4), .val (.int v3s0), .val (.int v17s0), .unset, .unset, .unset] [(.int i3), (.int i2)])) rfl (by rw [hml]; rfl) (argsL := [(.int i2), (.int i3)]) (rest := []) (lenOf own_pd7 rfl) rfl (by show 2 * 0 + _ ≤ _; exact Nat.le_of_eq rfl) (hb hby at_38) (fun _ _ => ⟨rfl, e2, (by decide : 0 + 4 ≤ _), (by decide : 0 + 12 ≤ _)⟩)
        dsimp only [Pt.U, Pt.locs, Pt.cells, Pt.slots] at X3 l3 y3 z3 st3 hQ3 hT3 gT3
        subst l3 y3 z3
        obtain ⟨X3, hS3, hZ, hown⟩ := rebS hS0 (by rw [e2]; exact hk0) X3 hT3 gT3 hZ hown
        obtain ⟨r_3, rfl, Nq3, Kq3⟩ := hQ3
        have N3 := Fr.app N2 Nq3
        refine own_via (B := T3.setTop (mkF m 41 #[.val (.int i0), .val (.int i1), .val (.int i2), .val (.int i3), .val (.int i4), .val (.int v3s0), .val (.int v17s0), .unset, .unset, .unset] [(.ref r_3)])) (fun t k => st3.trans k) ?_
        refine own_via (B := T3.setTop (mkF m 43 #[.val (.int i0), .val (.int i1), .val (.int i2), .val (.int i3), .val (.int i4), .val (.int v3s0), .val (.int v17s0), .val (.ref r_3), .unset, .unset] [])) (fun t k => XS.astore X3.here hx rfl (hb hby at_41) rfl rfl (l' := #[.val (.int i0), .val (.int i1), .val (.int i2), .val (.int i3), .val (.int i4), .val (.int v3s0), .val (.int v17s0), .val (.ref r_3), .unset, .unset]) rfl k) ?_
        refine own_via (B := T3.setTop (mkF m 44 #[.val (.int i0), .val (.int i1), .val (.int i2), .val (.int i3), .val (.int i4), .val (.int v3s0), .val (.int v17s0), .val (.ref r_3), .unset, .unset] [.null])) (fun t k => XS.aconstNull X3.here hx rfl (hb hby at_43) k) ?_
        refine own_via (B := T3.setTop (mkF m 46 #[.val (.int i0), .val (.int i1), .val (.int i2), .val (.int i3), .val (.int i4), .val (.int v3s0), .val (.int v17s0), .val (.ref r_3), .val .null, .unset] [])) (fun t k => XS.astore X3.here hx rfl (hb hby at_44) rfl rfl (l' := #[.val (.int i0), .val (.int i1), .val (.int i2), .val (.int i3), .val (.int i4), .val (.int v3s0), .val (.int v17s0), .val (.ref r_3), .val .null, .unset]) rfl k) ?_
        refine own_via (B := T3.setTop (mkF m 48 #[.val (.int i0), .val (.int i1), .val (.int i2), .val (.int i3), .val (.int i4), .val (.int v3s0), .val (.int v17s0), .val (.ref r_3), .val .null, .unset] [(.int v17s0)])) (fun t k => XS.iload X3.here hx rfl (hb hby at_46) rfl k) ?_
        by_cases hc48 : v17s0 = (0 : Int32)
        · refine own_via (B := T3.setTop (mkF m 77 #[.val (.int i0), .val (.int i1), .val (.int i2), .val (.int i3), .val (.int i4), .val (.int v3s0), .val (.int v17s0), .val (.ref r_3), .val .null, .unset] [])) (fun t k => XS.ifYes X3.here hx rfl (pc0 := 48) (pc' := 77) rfl (hb hby at_48) rfl ((if0 _ _).trans (teq hc48).1) (by decide) (by decide) k) ?_
          obtain ⟨T4, h4, X4, e4, E4, A4, D4, -, st4⟩ := newO X3 hx hZ hown (hw _ (List.mem_of_getElem? (i := 26) rfl)) (hw _ (List.mem_of_getElem? (i := 27) rfl)) (hw _ (List.mem_of_getElem? (i := 28) rfl)) rfl (g := (mkF m 77 #[.val (.int i0), .val (.int i1), .val (.int i2), .val (.int i3), .val (.int i4), .val (.int v3s0), .val (.int v17s0), .val (.ref r_3), .val .null, .unset] [])) rfl (hb hby at_77) (by decide) (by decide)
          obtain ⟨b4, g4⟩ : ∃ z, z = T3.heap.size := ⟨_, rfl⟩
          rw [← g4] at A4 D4 st4
          have g_b4 : n0 ≤ b4 := Nat.le_trans (Nat.le_trans Z0 Kq3.1) (Nat.le_of_eq g4.symm)
          have F4_token : Fld Z h4 b4 "com/example/planmend/planmend/pg/SelectBlock$ColumnReference" "token" "I" (.int (0 : Int32)) := D4 (Or.inr (hw _ (List.mem_of_getElem? (i := 39) rfl))) (ty := .int) (by decide)
          have F4_qualifier : Fld Z h4 b4 "com/example/planmend/planmend/pg/SelectBlock$ColumnReference" "qualifier" "I" (.int (0 : Int32)) := D4 (Or.inr (hw _ (List.mem_of_getElem? (i := 41) rfl))) (ty := .int) (by decide)
          have F4_target : Fld Z h4 b4 "com/example/planmend/planmend/pg/SelectBlock$ColumnReference" "target" "Lcom/example/planmend/planmend/pg/FromItem$Leaf;" .null := D4 (Or.inr (hw _ (List.mem_of_getElem? (i := 43) rfl))) (ty := (.object "com/example/planmend/planmend/pg/FromItem$Leaf")) (by decide)
          have F4_column : Fld Z h4 b4 "com/example/planmend/planmend/pg/SelectBlock$ColumnReference" "column" "Ljava/lang/String;" .null := D4 (Or.inr (hw _ (List.mem_of_getElem? (i := 45) rfl))) (ty := (.object "java/lang/String")) (by decide)
          refine own_via (B := T4.setTop (mkF m 80 #[.val (.int i0), .val (.int i1), .val (.int i2), .val (.int i3), .val (.int i4), .val (.int v3s0), .val (.int v17s0), .val (.ref r_3), .val .null, .unset] [(.ref b4)])) (fun t k => st4 t k) ?_
          refine own_via (B := T4.setTop (mkF m 81 #[.val (.int i0), .val (.int i1), .val (.int i2), .val (.int i3), .val (.int i4), .val (.int v3s0), .val (.int v17s0), .val (.ref r_3), .val .null, .unset] [(.ref b4), (.ref b4)])) (fun t k => XS.dup X4.here hx rfl (hb hby at_80) rfl rfl k) ?_
          refine own_via (B := T4.setTop (mkF m 82 #[.val (.int i0), .val (.int i1), .val (.int i2), .val (.int i3), .val (.int i4), .val (.int v3s0), .val (.int v17s0), .val (.ref r_3), .val .null, .unset] [(.int i0), (.ref b4), (.ref b4)])) (fun t k => XS.iloadN X4.here hx rfl (hb hby at_81) rfl k) ?_
          refine own_via (B := T4.setTop (mkF m 83 #[.val (.int i0), .val (.int i1), .val (.int i2), .val (.int i3), .val (.int i4), .val (.int v3s0), .val (.int v17s0), .val (.ref r_3), .val .null, .unset] [(.int i1), (.int i0), (.ref b4), (.ref b4)])) (fun t k => XS.iloadN X4.here hx rfl (hb hby at_82) rfl k) ?_
          refine own_via (B := T4.setTop (mkF m 85 #[.val (.int i0), .val (.int i1), .val (.int i2), .val (.int i3), .val (.int i4), .val (.int v3s0), .val (.int v17s0), .val (.ref r_3), .val .null, .unset] [.null, (.int i1), (.int i0), (.ref b4), (.ref b4)])) (fun t k => XS.aload X4.here hx rfl (hb hby at_83) rfl rfl k) ?_
          refine own_via (B := T4.setTop (mkF m 87 #[.val (.int i0), .val (.int i1), .val (.int i2), .val (.int i3), .val (.int i4), .val (.int v3s0), .val (.int v17s0), .val (.ref r_3), .val .null, .unset] [(.ref r_3), .null, (.int i1), (.int i0), (.ref b4), (.ref b4)])) (fun t k => XS.aload X4.here hx rfl (hb hby at_85) rfl rfl k) ?_
          obtain ⟨_, _, ⟨T5, L5, k5, n5⟩, -, X5, ⟨Lc5, hQ5, l5, y5, z5⟩, st5⟩ := X4.specialBack hx (y := (⟨"com/example/planmend/planmend/pg/SelectBlock$ColumnReference", "<init>", "(IILcom/example/planmend/planmend/pg/FromItem$Leaf;Ljava/lang/String;)V"⟩ : MethodName)) rfl hown (mvT hZ (hw _ (List.mem_of_getElem? (i := 29) rfl))) (mvT hZ (hw _ (List.mem_of_getElem? (i := 30) rfl))) (mvT hZ (hw _ (List.mem_of_getElem? (i := 31) rfl))) (by decide) (backOf (W := 1) (rmCnr l Z a0 hw [] b4 i0 i1 r_3 (.int (0 : Int32)) (.int (0 : Int32)) .null .null h4 n0 (Nat.le_trans (Nat.le_trans Z0 Kq3.1) E4.1) A4 F4_token F4_qualifier F4_target F4_column g_b4) hZ (hw _ (List.mem_of_getElem? (i := 31) rfl)) (hw _ (List.mem_of_getElem? (i := 28) rfl)) (by decide) (by decide)) (g := (mkF m 87 #[.val (.int i0), .val (.int i1), .val (.int i2), .val (.int i3), .val (.int i4), .val (.int v3s0), .val (.int v17s0), .val (.ref r_3), .val .null, .unset] [(.ref r_3), .null, (.int i1), (.int i0), (.ref b4), (.ref b4)])) rfl (by rw [hml]; rfl) (Steps.refl _) (a := b4) (argsL := [(.int i0), (.int i1), .null, (.ref r_3)]) (rest := [(.ref b4)]) (lenOf own_pd8 rfl) rfl (by show 2 * 0 + _ ≤ _; exact Nat.le_of_eq rfl) (hb hby at_87) (fun _ _ => ⟨rfl, e4, (by decide : ((0 + 4) + 1) + 0 ≤ _), (by decide : ((0 + 12) + 4) + 0 ≤ _)⟩)
          dsimp only [Pt.U, Pt.locs, Pt.cells, Pt.slots] at X5 l5 y5 z5 st5 hQ5
          subst l5 y5 z5
          obtain ⟨rfl, Nq5, Kq5, f5_0, f5_1, f5_2, f5_3⟩ := hQ5
          have N5 := Fr.app N3 Nq5
          refine own_via (B := T5.setTop (mkF m 90 #[.val (.int i0), .val (.int i1), .val (.int i2), .val (.int i3), .val (.int i4), .val (.int v3s0), .val (.int v17s0), .val (.ref r_3), .val .null, .unset] [(.ref b4)])) (fun t k => st5.trans k) ?_
          refine own_via (B := T5.setTop (mkF m 92 #[.val (.int i0), .val (.int i1), .val (.int i2), .val (.int i3), .val (.int i4), .val (.int v3s0), .val (.int v17s0), .val (.ref r_3), .val .null, .val (.ref b4)] [])) (fun t k => XS.astore X5.here hx rfl (hb hby at_90) rfl rfl (l' := #[.val (.int i0), .val (.int i1), .val (.int i2), .val (.int i3), .val (.int i4), .val (.int v3s0), .val (.int v17s0), .val (.ref r_3), .val .null, .val (.ref b4)]) rfl k) ?_
          refine own_via (B := T5.setTop (mkF m 94 #[.val (.int i0), .val (.int i1), .val (.int i2), .val (.int i3), .val (.int i4), .val (.int v3s0), .val (.int v17s0), .val (.ref r_3), .val .null, .val (.ref b4)] [(.ref b4)])) (fun t k => XS.aload X5.here hx rfl (hb hby at_92) rfl rfl k) ?_
          obtain ⟨cq6, kq6, q6a, q6b, q6c⟩ := isOf hZ rfl (A4.keep Kq5)
          obtain ⟨_, _, ⟨T6, L6, k6, n6⟩, -, X6, ⟨Lc6, hQ6, l6, y6, z6⟩, st6⟩ := X5.virtualBack hx (y := (⟨"com/example/planmend/planmend/pg/SelectBlock$ColumnReference", "all", "()Z"⟩ : MethodName)) (z := (⟨"com/example/planmend/planmend/pg/SelectBlock$ColumnReference", "all", "()Z"⟩ : MethodName)) hown (mvT hZ (hw _ (List.mem_of_getElem? (i := 46) rfl))) (mvT hZ (hw _ (List.mem_of_getElem? (i := 47) rfl))) (notFace_of_selects (args := #[]) (mvT hZ (hw _ (List.mem_of_getElem? (i := 49) rfl)))) (mvT hZ (hw _ (List.mem_of_getElem? (i := 49) rfl))) (mvT hZ (hw _ (List.mem_of_getElem? (i := 48) rfl))) (by decide) (backOf (W := 0) (rmgallr l Z a0 hw [] b4 r_3 T5.heap n0 (Nat.le_trans (Nat.le_trans (Nat.le_trans Z0 Kq3.1) E4.1) Kq5.1) f5_3) hZ (hw _ (List.mem_of_getElem? (i := 50) rfl)) (hw _ (List.mem_of_getElem? (i := 28) rfl)) (by decide) (by decide)) q6a q6c (g := (mkF m 94 #[.val (.int i0), .val (.int i1), .val (.int i2), .val (.int i3), .val (.int i4), .val (.int v3s0), .val (.int v17s0), .val (.ref r_3), .val .null, .val (.ref b4)] [(.ref b4)])) rfl (by rw [hml]; rfl) (Steps.refl _) (argsL := []) (rest := []) (lenOf own_pd9 rfl) rfl (by show 2 * 0 + _ ≤ _; exact Nat.le_of_eq rfl) (hb hby at_94) (fun _ _ => ⟨rfl, rfl, (by decide : (((0 + 4) + 1) + 0) + 0 ≤ _), (by decide : (((0 + 12) + 4) + 0) + 0 ≤ _)⟩)
          dsimp only [Pt.U, Pt.locs, Pt.cells, Pt.slots] at X6 l6 y6 z6 st6 hQ6
          subst l6 y6 z6
          obtain ⟨rfl, Nq6, eq6⟩ := hQ6
          have N6 := Fr.app N5 Nq6
          refine own_via (B := T6.setTop (mkF m 97 #[.val (.int i0), .val (.int i1), .val (.int i2), .val (.int i3), .val (.int i4), .val (.int v3s0), .val (.int v17s0), .val (.ref r_3), .val .null, .val (.ref b4)] [(.int (0 : Int32))])) (fun t k => st6.trans k) ?_
          refine own_via (B := T6.setTop (mkF m 99 #[.val (.int i0), .val (.int i1), .val (.int i2), .val (.int i3), .val (.int i4), .val (.int v3s0), .val (.int v17s0), .val (.ref r_3), .val .null, .val (.ref b4)] [(.int v3s0), (.int (0 : Int32))])) (fun t k => XS.iload X6.here hx rfl (hb hby at_97) rfl k) ?_
          refine own_bind (G := fun B => ∃ (T' : State) (L' : List Loc) (v99s0 : Int32), Fr n0 L' ∧ ((((0 : Int32) = v3s0) ∧ (i0 = i0) ∧ (i1 = i1) ∧ (r_3 = r_3) ∧ v99s0 = (1 : Int32)) ∨ (((0 : Int32) = v3s0) ∧ (i0 = i0) ∧ (i1 = i1) ∧ (¬ (r_3 = r_3)) ∧ v99s0 = (0 : Int32)) ∨ (((0 : Int32) = v3s0) ∧ (i0 = i0) ∧ (¬ (i1 = i1)) ∧ v99s0 = (0 : Int32)) ∨ (((0 : Int32) = v3s0) ∧ (¬ (i0 = i0)) ∧ v99s0 = (0 : Int32)) ∨ ((¬ ((0 : Int32) = v3s0)) ∧ v99s0 = (0 : Int32))) ∧ B = T'.setTop (mkF m 145 #[.val (.int i0), .val (.int i1), .val (.int i2), .val (.int i3), .val (.int i4), .val (.int v3s0), .val (.int v17s0), .val (.ref r_3), .val .null, .val (.ref b4)] [(.int v99s0)]) ∧ Stand p l e room_1 (s.setVm T3.vm) m #[(.int i0), (.int i1), (.int i2), (.int i3), (.int i4)] below meth c T' L' 5 16 ∧ T'.heap = T5.heap) ?_ ?_
          · by_cases hc99 : (0 : Int32) = v3s0
            · refine own_via (B := T6.setTop (mkF m 102 #[.val (.int i0), .val (.int i1), .val (.int i2), .val (.int i3), .val (.int i4), .val (.int v3s0), .val (.int v17s0), .val (.ref r_3), .val .null, .val (.ref b4)] [])) (fun t k => XS.icmpNo X6.here hx rfl (hb hby at_99) rfl (teq hc99).2 k) ?_
              refine own_via (B := T6.setTop (mkF m 104 #[.val (.int i0), .val (.int i1), .val (.int i2), .val (.int i3), .val (.int i4), .val (.int v3s0), .val (.int v17s0), .val (.ref r_3), .val .null, .val (.ref b4)] [(.ref b4)])) (fun t k => XS.aload X6.here hx rfl (hb hby at_102) rfl rfl k) ?_
              obtain ⟨cq8, kq8, q8a, q8b, q8c⟩ := isOf hZ eq6 (A4.keep Kq5)
              obtain ⟨_, _, ⟨T8, L8, k8, n8⟩, -, X8, ⟨Lc8, hQ8, l8, y8, z8⟩, st8⟩ := X6.virtualBack hx (y := (⟨"com/example/planmend/planmend/pg/SelectBlock$ColumnReference", "token", "()I"⟩ : MethodName)) (z := (⟨"com/example/planmend/planmend/pg/SelectBlock$ColumnReference", "token", "()I"⟩ : MethodName)) hown (mvT hZ (hw _ (List.mem_of_getElem? (i := 51) rfl))) (mvT hZ (hw _ (List.mem_of_getElem? (i := 52) rfl))) (notFace_of_selects (args := #[]) (mvT hZ (hw _ (List.mem_of_getElem? (i := 54) rfl)))) (mvT hZ (hw _ (List.mem_of_getElem? (i := 54) rfl))) (mvT hZ (hw _ (List.mem_of_getElem? (i := 53) rfl))) (by decide) (backOf (W := 0) (rmgtoken l Z a0 hw [] b4 i0 T5.heap n0 (Nat.le_trans (Nat.le_trans (Nat.le_trans Z0 Kq3.1) E4.1) Kq5.1) f5_0) hZ (hw _ (List.mem_of_getElem? (i := 55) rfl)) (hw _ (List.mem_of_getElem? (i := 28) rfl)) (by decide) (by decide)) q8a q8c (g := (mkF m 104 #[.val (.int i0), .val (.int i1), .val (.int i2), .val (.int i3), .val (.int i4), .val (.int v3s0), .val (.int v17s0), .val (.ref r_3), .val .null, .val (.ref b4)] [(.ref b4)])) rfl (by rw [hml]; rfl) (Steps.refl _) (argsL := []) (rest := []) (lenOf own_pd10 rfl) rfl (by show 2 * 0 + _ ≤ _; exact Nat.le_of_eq rfl) (hb hby at_104) (fun _ _ => ⟨rfl, eq6, (by decide : ((((0 + 4) + 1) + 0) + 0) + 0 ≤ _), (by decide : ((((0 + 12) + 4) + 0) + 0) + 0 ≤ _)⟩)
              dsimp only [Pt.U, Pt.locs, Pt.cells, Pt.slots] at X8 l8 y8 z8 st8 hQ8
              subst l8 y8 z8
              obtain ⟨rfl, Nq8, eq8⟩ := hQ8
              have N8 := Fr.app N6 Nq8
              refine own_via (B := T8.setTop (mkF m 107 #[.val (.int i0), .val (.int i1), .val (.int i2), .val (.int i3), .val (.int i4), .val (.int v3s0), .val (.int v17s0), .val (.ref r_3), .val .null, .val (.ref b4)] [(.int i0)])) (fun t k => st8.trans k) ?_
              refine own_via (B := T8.setTop (mkF m 108 #[.val (.int i0), .val (.int i1), .val (.int i2), .val (.int i3), .val (.int i4), .val (.int v3s0), .val (.int v17s0), .val (.ref r_3), .val .null, .val (.ref b4)] [(.int i0), (.int i0)])) (fun t k => XS.iloadN X8.here hx rfl (hb hby at_107) rfl k) ?_
              by_cases hc108 : i0 = i0
              · refine own_via (B := T8.setTop (mkF m 111 #[.val (.int i0), .val (.int i1), .val (.int i2), .val (.int i3), .val (.int i4), .val (.int v3s0), .val (.int v17s0), .val (.ref r_3), .val .null, .val (.ref b4)] [])) (fun t k => XS.icmpNo X8.here hx rfl (hb hby at_108) rfl (teq hc108).2 k) ?_
                refine own_via (B := T8.setTop (mkF m 113 #[.val (.int i0), .val (.int i1), .val (.int i2), .val (.int i3), .val (.int i4), .val (.int v3s0), .val (.int v17s0), .val (.ref r_3), .val .null, .val (.ref b4)] [(.ref b4)])) (fun t k => XS.aload X8.here hx rfl (hb hby at_111) rfl rfl k) ?_
                obtain ⟨cq9, kq9, q9a, q9b, q9c⟩ := isOf hZ eq8 (A4.keep Kq5)
                obtain ⟨_, _, ⟨T9, L9, k9, n9⟩, -, X9, ⟨Lc9, hQ9, l9, y9, z9⟩, st9⟩ := X8.virtualBack hx (y := (⟨"com/example/planmend/planmend/pg/SelectBlock$ColumnReference", "qualifier", "()I"⟩ : MethodName)) (z := (⟨"com/example/planmend/planmend/pg/SelectBlock$ColumnReference", "qualifier", "()I"⟩ : MethodName)) hown (mvT hZ (hw _ (List.mem_of_getElem? (i := 56) rfl))) (mvT hZ (hw _ (List.mem_of_getElem? (i := 57) rfl))) (notFace_of_selects (args := #[]) (mvT hZ (hw _ (List.mem_of_getElem? (i := 59) rfl)))) (mvT hZ (hw _ (List.mem_of_getElem? (i := 59) rfl))) (mvT hZ (hw _ (List.mem_of_getElem? (i := 58) rfl))) (by decide) (backOf (W := 0) (rmgqualifier l Z a0 hw [] b4 i1 T5.heap n0 (Nat.le_trans (Nat.le_trans (Nat.le_trans Z0 Kq3.1) E4.1) Kq5.1) f5_1) hZ (hw _ (List.mem_of_getElem? (i := 60) rfl)) (hw _ (List.mem_of_getElem? (i := 28) rfl)) (by decide) (by decide)) q9a q9c (g := (mkF m 113 #[.val (.int i0), .val (.int i1), .val (.int i2), .val (.int i3), .val (.int i4), .val (.int v3s0), .val (.int v17s0), .val (.ref r_3), .val .null, .val (.ref b4)] [(.ref b4)])) rfl (by rw [hml]; rfl) (Steps.refl _) (argsL := []) (rest := []) (lenOf own_pd10 rfl) rfl (by show 2 * 0 + _ ≤ _; exact Nat.le_of_eq rfl) (hb hby at_113) (fun _ _ => ⟨rfl, eq8, (by decide : (((((0 + 4) + 1) + 0) + 0) + 0) + 0 ≤ _), (by decide : (((((0 + 12) + 4) + 0) + 0) + 0) + 0 ≤ _)⟩)
                dsimp only [Pt.U, Pt.locs, Pt.cells, Pt.slots] at X9 l9 y9 z9 st9 hQ9
                subst l9 y9 z9
                obtain ⟨rfl, Nq9, eq9⟩ := hQ9
                have N9 := Fr.app N8 Nq9
                refine own_via (B := T9.setTop (mkF m 116 #[.val (.int i0), .val (.int i1), .val (.int i2), .val (.int i3), .val (.int i4), .val (.int v3s0), .val (.int v17s0), .val (.ref r_3), .val .null, .val (.ref b4)] [(.int i1)])) (fun t k => st9.trans k) ?_
                refine own_via (B := T9.setTop (mkF m 117 #[.val (.int i0), .val (.int i1), .val (.int i2), .val (.int i3), .val (.int i4), .val (.int v3s0), .val (.int v17s0), .val (.ref r_3), .val .null, .val (.ref b4)] [(.int i1), (.int i1)])) (fun t k => XS.iloadN X9.here hx rfl (hb hby at_116) rfl k) ?_
                by_cases hc117 : i1 = i1
                · refine own_via (B := T9.setTop (mkF m 120 #[.val (.int i0), .val (.int i1), .val (.int i2), .val (.int i3), .val (.int i4), .val (.int v3s0), .val (.int v17s0), .val (.ref r_3), .val .null, .val (.ref b4)] [])) (fun t k => XS.icmpNo X9.here hx rfl (hb hby at_117) rfl (teq hc117).2 k) ?_
                  refine own_via (B := T9.setTop (mkF m 122 #[.val (.int i0), .val (.int i1), .val (.int i2), .val (.int i3), .val (.int i4), .val (.int v3s0), .val (.int v17s0), .val (.ref r_3), .val .null, .val (.ref b4)] [(.ref b4)])) (fun t k => XS.aload X9.here hx rfl (hb hby at_120) rfl rfl k) ?_
                  obtain ⟨cq10, kq10, q10a, q10b, q10c⟩ := isOf hZ eq9 (A4.keep Kq5)
                  obtain ⟨_, _, ⟨T10, L10, k10, n10⟩, -, X10, ⟨Lc10, hQ10, l10, y10, z10⟩, st10⟩ := X9.virtualBack hx (y := (⟨"com/example/planmend/planmend/pg/SelectBlock$ColumnReference", "target", "()Lcom/example/planmend/planmend/pg/FromItem$Leaf;"⟩ : MethodName)) (z := (⟨"com/example/planmend/planmend/pg/SelectBlock$ColumnReference", "target", "()Lcom/example/planmend/planmend/pg/FromItem$Leaf;"⟩ : MethodName)) hown (mvT hZ (hw _ (List.mem_of_getElem? (i := 61) rfl))) (mvT hZ (hw _ (List.mem_of_getElem? (i := 62) rfl))) (notFace_of_selects (args := #[]) (mvT hZ (hw _ (List.mem_of_getElem? (i := 64) rfl)))) (mvT hZ (hw _ (List.mem_of_getElem? (i := 64) rfl))) (mvT hZ (hw _ (List.mem_of_getElem? (i := 63) rfl))) (by decide) (backOf (W := 0) (rmgtargetn l Z a0 hw [] b4 T5.heap n0 (Nat.le_trans (Nat.le_trans (Nat.le_trans Z0 Kq3.1) E4.1) Kq5.1) f5_2) hZ (hw _ (List.mem_of_getElem? (i := 65) rfl)) (hw _ (List.mem_of_getElem? (i := 28) rfl)) (by decide) (by decide)) q10a q10c (g := (mkF m 122 #[.val (.int i0), .val (.int i1), .val (.int i2), .val (.int i3), .val (.int i4), .val (.int v3s0), .val (.int v17s0), .val (.ref r_3), .val .null, .val (.ref b4)] [(.ref b4)])) rfl (by rw [hml]; rfl) (Steps.refl _) (argsL := []) (rest := []) (lenOf own_pd11 rfl) rfl (by show 2 * 0 + _ ≤ _; exact Nat.le_of_eq rfl) (hb hby at_122) (fun _ _ => ⟨rfl, eq9, (by decide : ((((((0 + 4) + 1) + 0) + 0) + 0) + 0) + 0 ≤ _), (by decide : ((((((0 + 12) + 4) + 0) + 0) + 0) + 0) + 0 ≤ _)⟩)
                  dsimp only [Pt.U, Pt.locs, Pt.cells, Pt.slots] at X10 l10 y10 z10 st10 hQ10
                  subst l10 y10 z10
                  obtain ⟨rfl, Nq10, eq10⟩ := hQ10
                  have N10 := Fr.app N9 Nq10
                  refine own_via (B := T10.setTop (mkF m 125 #[.val (.int i0), .val (.int i1), .val (.int i2), .val (.int i3), .val (.int i4), .val (.int v3s0), .val (.int v17s0), .val (.ref r_3), .val .null, .val (.ref b4)] [.null])) (fun t k => st10.trans k) ?_
                  refine own_via (B := T10.setTop (mkF m 127 #[.val (.int i0), .val (.int i1), .val (.int i2), .val (.int i3), .val (.int i4), .val (.int v3s0), .val (.int v17s0), .val (.ref r_3), .val .null, .val (.ref b4)] [.null, .null])) (fun t k => XS.aload X10.here hx rfl (hb hby at_125) rfl rfl k) ?_
                  have hc127 : (.null : Value) = (.null : Value) := rfl
                  refine own_via (B := T10.setTop (mkF m 130 #[.val (.int i0), .val (.int i1), .val (.int i2), .val (.int i3), .val (.int i4), .val (.int v3s0), .val (.int v17s0), .val (.ref r_3), .val .null, .val (.ref b4)] [])) (fun t k => Jvm.RoadKit.acmp (g := (mkF m 127 #[.val (.int i0), .val (.int i1), .val (.int i2), .val (.int i3), .val (.int i4), .val (.int v3s0), .val (.int v17s0), .val (.ref r_3), .val .null, .val (.ref b4)] [.null, .null])) X10 hx rfl rfl rfl (pc0 := 127) (pc' := 130) (same := true) rfl (hb hby at_127) rfl (decide_eq_true hc127) (by decide) (by decide) k) ?_
                  refine own_via (B := T10.setTop (mkF m 132 #[.val (.int i0), .val (.int i1), .val (.int i2), .val (.int i3), .val (.int i4), .val (.int v3s0), .val (.int v17s0), .val (.ref r_3), .val .null, .val (.ref b4)] [(.ref b4)])) (fun t k => XS.aload X10.here hx rfl (hb hby at_130) rfl rfl k) ?_
                  obtain ⟨cq11, kq11, q11a, q11b, q11c⟩ := isOf hZ eq10 (A4.keep Kq5)
                  obtain ⟨_, _, ⟨T11, L11, k11, n11⟩, -, X11, ⟨Lc11, hQ11, l11, y11, z11⟩, st11⟩ := X10.virtualBack hx (y := (⟨"com/example/planmend/planmend/pg/SelectBlock$ColumnReference", "column", "()Ljava/lang/String;"⟩ : MethodName)) (z := (⟨"com/example/planmend/planmend/pg/SelectBlock$ColumnReference", "column", "()Ljava/lang/String;"⟩ : MethodName)) hown (mvT hZ (hw _ (List.mem_of_getElem? (i := 66) rfl))) (mvT hZ (hw _ (List.mem_of_getElem? (i := 67) rfl))) (notFace_of_selects (args := #[]) (mvT hZ (hw _ (List.mem_of_getElem? (i := 69) rfl)))) (mvT hZ (hw _ (List.mem_of_getElem? (i := 69) rfl))) (mvT hZ (hw _ (List.mem_of_getElem? (i := 68) rfl))) (by decide) (backOf (W := 0) (rmgcolumnr l Z a0 hw [] b4 r_3 T5.heap n0 (Nat.le_trans (Nat.le_trans (Nat.le_trans Z0 Kq3.1) E4.1) Kq5.1) f5_3) hZ (hw _ (List.mem_of_getElem? (i := 70) rfl)) (hw _ (List.mem_of_getElem? (i := 28) rfl)) (by decide) (by decide)) q11a q11c (g := (mkF m 132 #[.val (.int i0), .val (.int i1), .val (.int i2), .val (.int i3), .val (.int i4), .val (.int v3s0), .val (.int v17s0), .val (.ref r_3), .val .null, .val (.ref b4)] [(.ref b4)])) rfl (by rw [hml]; rfl) (Steps.refl _) (argsL := []) (rest := []) (lenOf own_pd12 rfl) rfl (by show 2 * 0 + _ ≤ _; exact Nat.le_of_eq rfl) (hb hby at_132) (fun _ _ => ⟨rfl, eq10, (by decide : (((((((0 + 4) + 1) + 0) + 0) + 0) + 0) + 0) + 0 ≤ _), (by decide : (((((((0 + 12) + 4) + 0) + 0) + 0) + 0) + 0) + 0 ≤ _)⟩)
                  dsimp only [Pt.U, Pt.locs, Pt.cells, Pt.slots] at X11 l11 y11 z11 st11 hQ11
                  subst l11 y11 z11
                  obtain ⟨rfl, Nq11, eq11⟩ := hQ11
                  have N11 := Fr.app N10 Nq11
                  refine own_via (B := T11.setTop (mkF m 135 #[.val (.int i0), .val (.int i1), .val (.int i2), .val (.int i3), .val (.int i4), .val (.int v3s0), .val (.int v17s0), .val (.ref r_3), .val .null, .val (.ref b4)] [(.ref r_3)])) (fun t k => st11.trans k) ?_
                  refine own_via (B := T11.setTop (mkF m 137 #[.val (.int i0), .val (.int i1), .val (.int i2), .val (.int i3), .val (.int i4), .val (.int v3s0), .val (.int v17s0), .val (.ref r_3), .val .null, .val (.ref b4)] [(.ref r_3), (.ref r_3)])) (fun t k => XS.aload X11.here hx rfl (hb hby at_135) rfl rfl k) ?_
                  by_cases hc137 : r_3 = r_3
                  · refine own_via (B := T11.setTop (mkF m 140 #[.val (.int i0), .val (.int i1), .val (.int i2), .val (.int i3), .val (.int i4), .val (.int v3s0), .val (.int v17s0), .val (.ref r_3), .val .null, .val (.ref b4)] [])) (fun t k => Jvm.RoadKit.acmp (g := (mkF m 137 #[.val (.int i0), .val (.int i1), .val (.int i2), .val (.int i3), .val (.int i4), .val (.int v3s0), .val (.int v17s0), .val (.ref r_3), .val .null, .val (.ref b4)] [(.ref r_3), (.ref r_3)])) X11 hx rfl rfl rfl (pc0 := 137) (pc' := 140) (same := true) rfl (hb hby at_137) rfl (decide_eq_true (congrArg Value.ref hc137)) (by decide) (by decide) k) ?_
                    refine own_via (B := T11.setTop (mkF m 141 #[.val (.int i0), .val (.int i1), .val (.int i2), .val (.int i3), .val (.int i4), .val (.int v3s0), .val (.int v17s0), .val (.ref r_3), .val .null, .val (.ref b4)] [(.int (1 : Int32))])) (fun t k => XS.iconst X11.here hx rfl (hb hby at_140) k) ?_
                    refine own_via (B := T11.setTop (mkF m 145 #[.val (.int i0), .val (.int i1), .val (.int i2), .val (.int i3), .val (.int i4), .val (.int v3s0), .val (.int v17s0), .val (.ref r_3), .val .null, .val (.ref b4)] [(.int (1 : Int32))])) (fun t k => XS.goto X11.here hx rfl (pc0 := 141) (pc' := 145) rfl (hb hby at_141) (by decide) (by decide) k) ?_
                    exact own_done ⟨_, _, _, N11, (Or.inl ⟨hc99, hc108, hc117, hc137, rfl⟩), rfl, (X11.more (by decide) (by decide)), eq11⟩
                  · refine own_via (B := T11.setTop (mkF m 144 #[.val (.int i0), .val (.int i1), .val (.int i2), .val (.int i3), .val (.int i4), .val (.int v3s0), .val (.int v17s0), .val (.ref r_3), .val .null, .val (.ref b4)] [])) (fun t k => Jvm.RoadKit.acmp (g := (mkF m 137 #[.val (.int i0), .val (.int i1), .val (.int i2), .val (.int i3), .val (.int i4), .val (.int v3s0), .val (.int v17s0), .val (.ref r_3), .val .null, .val (.ref b4)] [(.ref r_3), (.ref r_3)])) X11 hx rfl rfl rfl (pc0 := 137) (pc' := 144) (same := false) rfl (hb hby at_137) rfl (decide_eq_false fun q => hc137 (Value.ref.inj q)) (by decide) (by decide) k) ?_
                    refine own_via (B := T11.setTop (mkF m 145 #[.val (.int i0), .val (.int i1), .val (.int i2), .val (.int i3), .val (.int i4), .val (.int v3s0), .val (.int v17s0), .val (.ref r_3), .val .null, .val (.ref b4)] [(.int (0 : Int32))])) (fun t k => XS.iconst X11.here hx rfl (hb hby at_144) k) ?_
                    exact own_done ⟨_, _, _, N11, (Or.inr (Or.inl ⟨hc99, hc108, hc117, hc137, rfl⟩)), rfl, (X11.more (by decide) (by decide)), eq11⟩
                · refine own_via (B := T9.setTop (mkF m 144 #[.val (.int i0), .val (.int i1), .val (.int i2), .val (.int i3), .val (.int i4), .val (.int v3s0), .val (.int v17s0), .val (.ref r_3), .val .null, .val (.ref b4)] [])) (fun t k => XS.icmpYes X9.here hx rfl (pc0 := 117) (pc' := 144) rfl (hb hby at_117) rfl (feq hc117).2 (by decide) (by decide) k) ?_
                  refine own_via (B := T9.setTop (mkF m 145 #[.val (.int i0), .val (.int i1), .val (.int i2), .val (.int i3), .val (.int i4), .val (.int v3s0), .val (.int v17s0), .val (.ref r_3), .val .null, .val (.ref b4)] [(.int (0 : Int32))])) (fun t k => XS.iconst X9.here hx rfl (hb hby at_144) k) ?_
                  exact own_done ⟨_, _, _, N9, (Or.inr (Or.inr (Or.inl ⟨hc99, hc108, hc117, rfl⟩))), rfl, (X9.more (by decide) (by decide)), eq9⟩
              · refine own_via (B := T8.setTop (mkF m 144 #[.val (.int i0), .val (.int i1), .val (.int i2), .val (.int i3), .val (.int i4), .val (.int v3s0), .val (.int v17s0), .val (.ref r_3), .val .null, .val (.ref b4)] [])) (fun t k => XS.icmpYes X8.here hx rfl (pc0 := 108) (pc' := 144) rfl (hb hby at_108) rfl (feq hc108).2 (by decide) (by decide) k) ?_
                refine own_via (B := T8.setTop (mkF m 145 #[.val (.int i0), .val (.int i1), .val (.int i2), .val (.int i3), .val (.int i4), .val (.int v3s0), .val (.int v17s0), .val (.ref r_3), .val .null, .val (.ref b4)] [(.int (0 : Int32))])) (fun t k => XS.iconst X8.here hx rfl (hb hby at_144) k) ?_
                exact own_done ⟨_, _, _, N8, (Or.inr (Or.inr (Or.inr (Or.inl ⟨hc99, hc108, rfl⟩)))), rfl, (X8.more (by decide) (by decide)), eq8⟩
            · refine own_via (B := T6.setTop (mkF m 144 #[.val (.int i0), .val (.int i1), .val (.int i2), .val (.int i3), .val (.int i4), .val (.int v3s0), .val (.int v17s0), .val (.ref r_3), .val .null, .val (.ref b4)] [])) (fun t k => XS.icmpYes X6.here hx rfl (pc0 := 99) (pc' := 144) rfl (hb hby at_99) rfl (feq hc99).2 (by decide) (by decide) k) ?_
              refine own_via (B := T6.setTop (mkF m 145 #[.val (.int i0), .val (.int i1), .val (.int i2), .val (.int i3), .val (.int i4), .val (.int v3s0), .val (.int v17s0), .val (.ref r_3), .val .null, .val (.ref b4)] [(.int (0 : Int32))])) (fun t k => XS.iconst X6.here hx rfl (hb hby at_144) k) ?_
              exact own_done ⟨_, _, _, N6, (Or.inr (Or.inr (Or.inr (Or.inr ⟨hc99, rfl⟩)))), rfl, (X6.more (by decide) (by decide)), eq6⟩
          · rintro B ⟨T7, L7, v99s0, N7, hv99, rfl, X7, e7⟩
            refine own_leafW X7 hx hlk hS3 (by rw [e7]; exact (Nat.le_trans (Nat.le_trans (Nat.le_refl _) E4.1) Kq5.1)) (t := .boolean) Bd.returns (own_b1 (by rcases hv99 with ⟨_, _, _, _, rfl⟩ | ⟨_, _, _, _, rfl⟩ | ⟨_, _, _, rfl⟩ | ⟨_, _, rfl⟩ | ⟨_, rfl⟩ <;> decide)) (Or.inl ⟨rfl, by simp, _, rfl⟩) (hb hby at_145) (by decide) (by decide) ?_
            show Q0 Z i0 i1 i2 i3 i4 zc wT h0 n0 _ T7.heap _
            rw [e7]
            refine ⟨?_, N7⟩
            have hA : (0 : Int32) = v3s0 := hc29.symm
            rcases hv99 with ⟨h0, h1, h2, h3, rfl⟩ | ⟨h0, h1, h2, h3, rfl⟩ | ⟨h0, h1, h2, rfl⟩ | ⟨h0, h1, rfl⟩ | ⟨h0, rfl⟩
            · rfl
            · exact absurd rfl h3
            · exact absurd rfl h2
            · exact absurd rfl h1
            · exact absurd hA h0
        · refine own_via (B := T3.setTop (mkF m 51 #[.val (.int i0), .val (.int i1), .val (.int i2), .val (.int i3), .val (.int i4), .val (.int v3s0), .val (.int v17s0), .val (.ref r_3), .val .null, .unset] [])) (fun t k => XS.ifNo X3.here hx rfl (hb hby at_48) rfl ((if0 _ _).trans (feq hc48).1) k) ?_
          obtain ⟨T12, h12, X12, e12, E12, A12, D12, -, st12⟩ := newO X3 hx hZ hown (hw _ (List.mem_of_getElem? (i := 71) rfl)) (hw _ (List.mem_of_getElem? (i := 72) rfl)) (hw _ (List.mem_of_getElem? (i := 73) rfl)) rfl (g := (mkF m 51 #[.val (.int i0), .val (.int i1), .val (.int i2), .val (.int i3), .val (.int i4), .val (.int v3s0), .val (.int v17s0), .val (.ref r_3), .val .null, .unset] [])) rfl (hb hby at_51) (by decide) (by decide)
          obtain ⟨b12, g12⟩ : ∃ z, z = T3.heap.size := ⟨_, rfl⟩
          rw [← g12] at A12 D12 st12
          have g_b12 : n0 ≤ b12 := Nat.le_trans (Nat.le_trans Z0 Kq3.1) (Nat.le_of_eq g12.symm)
          have F12_source : Fld Z h12 b12 "com/example/planmend/planmend/pg/FromItem$Leaf" "source" "Lcom/example/planmend/planmend/pg/FromItem$Source;" .null := D12 (Or.inr (hw _ (List.mem_of_getElem? (i := 83) rfl))) (ty := (.object "com/example/planmend/planmend/pg/FromItem$Source")) (by decide)
          have F12_name : Fld Z h12 b12 "com/example/planmend/planmend/pg/FromItem$Leaf" "name" "Ljava/lang/String;" .null := D12 (Or.inr (hw _ (List.mem_of_getElem? (i := 85) rfl))) (ty := (.object "java/lang/String")) (by decide)
          have F12_qualifier : Fld Z h12 b12 "com/example/planmend/planmend/pg/FromItem$Leaf" "qualifier" "Ljava/lang/String;" .null := D12 (Or.inr (hw _ (List.mem_of_getElem? (i := 87) rfl))) (ty := (.object "java/lang/String")) (by decide)
          have F12_start : Fld Z h12 b12 "com/example/planmend/planmend/pg/FromItem$Leaf" "start" "I" (.int (0 : Int32)) := D12 (Or.inr (hw _ (List.mem_of_getElem? (i := 89) rfl))) (ty := .int) (by decide)
          have F12_end : Fld Z h12 b12 "com/example/planmend/planmend/pg/FromItem$Leaf" "end" "I" (.int (0 : Int32)) := D12 (Or.inr (hw _ (List.mem_of_getElem? (i := 91) rfl))) (ty := .int) (by decide)
          have F12_nameStart : Fld Z h12 b12 "com/example/planmend/planmend/pg/FromItem$Leaf" "nameStart" "I" (.int (0 : Int32)) := D12 (Or.inr (hw _ (List.mem_of_getElem? (i := 93) rfl))) (ty := .int) (by decide)
          have F12_nameEnd : Fld Z h12 b12 "com/example/planmend/planmend/pg/FromItem$Leaf" "nameEnd" "I" (.int (0 : Int32)) := D12 (Or.inr (hw _ (List.mem_of_getElem? (i := 95) rfl))) (ty := .int) (by decide)
          have F12_qualifierToken : Fld Z h12 b12 "com/example/planmend/planmend/pg/FromItem$Leaf" "qualifierToken" "I" (.int (0 : Int32)) := D12 (Or.inr (hw _ (List.mem_of_getElem? (i := 97) rfl))) (ty := .int) (by decide)
          have F12_columns : Fld Z h12 b12 "com/example/planmend/planmend/pg/FromItem$Leaf" "columns" "Ljava/util/List;" .null := D12 (Or.inr (hw _ (List.mem_of_getElem? (i := 99) rfl))) (ty := (.object "java/util/List")) (by decide)
          have F12_withQuery : Fld Z h12 b12 "com/example/planmend/planmend/pg/FromItem$Leaf" "withQuery" "Lcom/example/planmend/planmend/pg/WithQuery;" .null := D12 (Or.inr (hw _ (List.mem_of_getElem? (i := 101) rfl))) (ty := (.object "com/example/planmend/planmend/pg/WithQuery")) (by decide)
          refine own_via (B := T12.setTop (mkF m 54 #[.val (.int i0), .val (.int i1), .val (.int i2), .val (.int i3), .val (.int i4), .val (.int v3s0), .val (.int v17s0), .val (.ref r_3), .val .null, .unset] [(.ref b12)])) (fun t k => st12 t k) ?_
          refine own_via (B := T12.setTop (mkF m 55 #[.val (.int i0), .val (.int i1), .val (.int i2), .val (.int i3), .val (.int i4), .val (.int v3s0), .val (.int v17s0), .val (.ref r_3), .val .null, .unset] [(.ref b12), (.ref b12)])) (fun t k => XS.dup X12.here hx rfl (hb hby at_54) rfl rfl k) ?_
          obtain ⟨T13, X13, e13, st13⟩ := getS2 X12 hx hZ hown (host := "") (Or.inl (hw _ (List.mem_of_getElem? (i := 74) rfl))) Via.refl e12 (ST9.ext ((O0.keep Kq3 all0).ext E12).2) (g := (mkF m 55 #[.val (.int i0), .val (.int i1), .val (.int i2), .val (.int i3), .val (.int i4), .val (.int v3s0), .val (.int v17s0), .val (.ref r_3), .val .null, .unset] [(.ref b12), (.ref b12)])) rfl (hb hby at_55)
          refine own_via (B := T13.setTop (mkF m 58 #[.val (.int i0), .val (.int i1), .val (.int i2), .val (.int i3), .val (.int i4), .val (.int v3s0), .val (.int v17s0), .val (.ref r_3), .val .null, .unset] [(.ref wT), (.ref b12), (.ref b12)])) (fun t k => st13 t k) ?_
          obtain ⟨c14, T14, h14, k14, X14, e14, E14, hS14, hk14, hZ, hown, st14⟩ := ldcS X13 hx hZ hown (hw _ (List.mem_of_getElem? (i := 77) rfl)) wS e13 hS3 (Nat.le_trans (Nat.le_refl _) E12.1) (g := (mkF m 58 #[.val (.int i0), .val (.int i1), .val (.int i2), .val (.int i3), .val (.int i4), .val (.int v3s0), .val (.int v17s0), .val (.ref r_3), .val .null, .unset] [(.ref wT), (.ref b12), (.ref b12)])) rfl (hb hby at_58) (n := 4) (by decide) (by decide) (by decide) (by decide)
          refine own_via (B := T14.setTop (mkF m 60 #[.val (.int i0), .val (.int i1), .val (.int i2), .val (.int i3), .val (.int i4), .val (.int v3s0), .val (.int v17s0), .val (.ref r_3), .val .null, .unset] [(.ref c14), (.ref wT), (.ref b12), (.ref b12)])) (fun t k => st14 t k) ?_
          obtain ⟨c15, T15, h15, k15, X15, e15, E15, hS15, hk15, hZ, hown, st15⟩ := ldcS X14 hx hZ hown (hw _ (List.mem_of_getElem? (i := 77) rfl)) wS e14 hS14 hk14 (g := (mkF m 60 #[.val (.int i0), .val (.int i1), .val (.int i2), .val (.int i3), .val (.int i4), .val (.int v3s0), .val (.int v17s0), .val (.ref r_3), .val .null, .unset] [(.ref c14), (.ref wT), (.ref b12), (.ref b12)])) rfl (hb hby at_60) (n := 4) (by decide) (by decide) (by decide) (by decide)
          refine own_via (B := T15.setTop (mkF m 62 #[.val (.int i0), .val (.int i1), .val (.int i2), .val (.int i3), .val (.int i4), .val (.int v3s0), .val (.int v17s0), .val (.ref r_3), .val .null, .unset] [(.ref c15), (.ref c14), (.ref wT), (.ref b12), (.ref b12)])) (fun t k => st15 t k) ?_
          refine own_via (B := T15.setTop (mkF m 64 #[.val (.int i0), .val (.int i1), .val (.int i2), .val (.int i3), .val (.int i4), .val (.int v3s0), .val (.int v17s0), .val (.ref r_3), .val .null, .unset] [(.int i4), (.ref c15), (.ref c14), (.ref wT), (.ref b12), (.ref b12)])) (fun t k => XS.iload X15.here hx rfl (hb hby at_62) rfl k) ?_
          refine own_via (B := T15.setTop (mkF m 66 #[.val (.int i0), .val (.int i1), .val (.int i2), .val (.int i3), .val (.int i4), .val (.int v3s0), .val (.int v17s0), .val (.ref r_3), .val .null, .unset] [(.int i4), (.int i4), (.ref c15), (.ref c14), (.ref wT), (.ref b12), (.ref b12)])) (fun t k => XS.iload X15.here hx rfl (hb hby at_64) rfl k) ?_
          refine own_via (B := T15.setTop (mkF m 67 #[.val (.int i0), .val (.int i1), .val (.int i2), .val (.int i3), .val (.int i4), .val (.int v3s0), .val (.int v17s0), .val (.ref r_3), .val .null, .unset] [(.int (-1 : Int32)), (.int i4), (.int i4), (.ref c15), (.ref c14), (.ref wT), (.ref b12), (.ref b12)])) (fun t k => XS.iconst X15.here hx rfl (hb hby at_66) k) ?_
          refine own_via (B := T15.setTop (mkF m 68 #[.val (.int i0), .val (.int i1), .val (.int i2), .val (.int i3), .val (.int i4), .val (.int v3s0), .val (.int v17s0), .val (.ref r_3), .val .null, .unset] [(.int (-1 : Int32)), (.int (-1 : Int32)), (.int i4), (.int i4), (.ref c15), (.ref c14), (.ref wT), (.ref b12), (.ref b12)])) (fun t k => XS.iconst X15.here hx rfl (hb hby at_67) k) ?_
          refine own_via (B := T15.setTop (mkF m 70 #[.val (.int i0), .val (.int i1), .val (.int i2), .val (.int i3), .val (.int i4), .val (.int v3s0), .val (.int v17s0), .val (.ref r_3), .val .null, .unset] [(.int i4), (.int (-1 : Int32)), (.int (-1 : Int32)), (.int i4), (.int i4), (.ref c15), (.ref c14), (.ref wT), (.ref b12), (.ref b12)])) (fun t k => XS.iload X15.here hx rfl (hb hby at_68) rfl k) ?_
          refine own_via (B := T15.setTop (mkF m 71 #[.val (.int i0), .val (.int i1), .val (.int i2), .val (.int i3), .val (.int i4), .val (.int v3s0), .val (.int v17s0), .val (.ref r_3), .val .null, .unset] [.null, (.int i4), (.int (-1 : Int32)), (.int (-1 : Int32)), (.int i4), (.int i4), (.ref c15), (.ref c14), (.ref wT), (.ref b12), (.ref b12)])) (fun t k => XS.aconstNull X15.here hx rfl (hb hby at_70) k) ?_
          refine own_via (B := T15.setTop (mkF m 72 #[.val (.int i0), .val (.int i1), .val (.int i2), .val (.int i3), .val (.int i4), .val (.int v3s0), .val (.int v17s0), .val (.ref r_3), .val .null, .unset] [.null, .null, (.int i4), (.int (-1 : Int32)), (.int (-1 : Int32)), (.int i4), (.int i4), (.ref c15), (.ref c14), (.ref wT), (.ref b12), (.ref b12)])) (fun t k => XS.aconstNull X15.here hx rfl (hb hby at_71) k) ?_
          obtain ⟨_, _, ⟨T16, L16, k16, n16⟩, -, X16, ⟨Lc16, hQ16, l16, y16, z16⟩, st16⟩ := X15.specialBack hx (y := (⟨"com/example/planmend/planmend/pg/FromItem$Leaf", "<init>", "(Lcom/example/planmend/planmend/pg/FromItem$Source;Ljava/lang/String;Ljava/lang/String;IIIIILjava/util/List;Lcom/example/planmend/planmend/pg/WithQuery;)V"⟩ : MethodName)) rfl hown (mvT hZ (hw _ (List.mem_of_getElem? (i := 78) rfl))) (mvT hZ (hw _ (List.mem_of_getElem? (i := 79) rfl))) (mvT hZ (hw _ (List.mem_of_getElem? (i := 80) rfl))) (by decide) (backOf (W := 1) (rmL l Z a0 hw [] b12 wT c14 c15 i4 i4 (-1 : Int32) (-1 : Int32) i4 .null .null .null (.int (0 : Int32)) (.int (0 : Int32)) (.int (0 : Int32)) (.int (0 : Int32)) (.int (0 : Int32)) .null .null h15 n0 (Nat.le_trans (Nat.le_trans (Nat.le_trans (Nat.le_trans Z0 Kq3.1) E12.1) E14.1) E15.1) ((A12.ext E14).ext E15) ((F12_source.ext E14).ext E15) ((F12_name.ext E14).ext E15) ((F12_qualifier.ext E14).ext E15) ((F12_start.ext E14).ext E15) ((F12_end.ext E14).ext E15) ((F12_nameStart.ext E14).ext E15) ((F12_nameEnd.ext E14).ext E15) ((F12_qualifierToken.ext E14).ext E15) ((F12_columns.ext E14).ext E15) ((F12_withQuery.ext E14).ext E15) g_b12) hZ (hw _ (List.mem_of_getElem? (i := 80) rfl)) (hw _ (List.mem_of_getElem? (i := 73) rfl)) (by decide) (by decide)) (g := (mkF m 72 #[.val (.int i0), .val (.int i1), .val (.int i2), .val (.int i3), .val (.int i4), .val (.int v3s0), .val (.int v17s0), .val (.ref r_3), .val .null, .unset] [.null, .null, (.int i4), (.int (-1 : Int32)), (.int (-1 : Int32)), (.int i4), (.int i4), (.ref c15), (.ref c14), (.ref wT), (.ref b12), (.ref b12)])) rfl (by rw [hml]; rfl) (Steps.refl _) (a := b12) (argsL := [(.ref wT), (.ref c14), (.ref c15), (.int i4), (.int i4), (.int (-1 : Int32)), (.int (-1 : Int32)), (.int i4), .null, .null]) (rest := [(.ref b12)]) (lenOf own_pd13 rfl) rfl (by show 2 * 0 + _ ≤ _; exact Nat.le_of_eq rfl) (hb hby at_72) (fun _ _ => ⟨rfl, e15, (by decide : ((((0 + 4) + 1) + 2) + 2) + 0 ≤ _), (by decide : ((((0 + 12) + 10) + (4 + 4)) + (4 + 4)) + 0 ≤ _)⟩)
          dsimp only [Pt.U, Pt.locs, Pt.cells, Pt.slots] at X16 l16 y16 z16 st16 hQ16
          subst l16 y16 z16
          obtain ⟨rfl, Nq16, Kq16⟩ := hQ16
          have N16 := Fr.app N3 Nq16
          refine own_via (B := T16.setTop (mkF m 75 #[.val (.int i0), .val (.int i1), .val (.int i2), .val (.int i3), .val (.int i4), .val (.int v3s0), .val (.int v17s0), .val (.ref r_3), .val .null, .unset] [(.ref b12)])) (fun t k => st16.trans k) ?_
          refine own_via (B := T16.setTop (mkF m 77 #[.val (.int i0), .val (.int i1), .val (.int i2), .val (.int i3), .val (.int i4), .val (.int v3s0), .val (.int v17s0), .val (.ref r_3), .val (.ref b12), .unset] [])) (fun t k => XS.astore X16.here hx rfl (hb hby at_75) rfl rfl (l' := #[.val (.int i0), .val (.int i1), .val (.int i2), .val (.int i3), .val (.int i4), .val (.int v3s0), .val (.int v17s0), .val (.ref r_3), .val (.ref b12), .unset]) rfl k) ?_
          obtain ⟨T17, h17, X17, e17, E17, A17, D17, -, st17⟩ := newO X16 hx hZ hown (hw _ (List.mem_of_getElem? (i := 26) rfl)) (hw _ (List.mem_of_getElem? (i := 27) rfl)) (hw _ (List.mem_of_getElem? (i := 28) rfl)) rfl (g := (mkF m 77 #[.val (.int i0), .val (.int i1), .val (.int i2), .val (.int i3), .val (.int i4), .val (.int v3s0), .val (.int v17s0), .val (.ref r_3), .val (.ref b12), .unset] [])) rfl (hb hby at_77) (by decide) (by decide)
          obtain ⟨b17, g17⟩ : ∃ z, z = T16.heap.size := ⟨_, rfl⟩
          rw [← g17] at A17 D17 st17
          have g_b17 : n0 ≤ b17 := Nat.le_trans (Nat.le_trans (Nat.le_trans (Nat.le_trans (Nat.le_trans (Nat.le_trans Z0 Kq3.1) E12.1) E14.1) E15.1) Kq16.1) (Nat.le_of_eq g17.symm)
          have F17_token : Fld Z h17 b17 "com/example/planmend/planmend/pg/SelectBlock$ColumnReference" "token" "I" (.int (0 : Int32)) := D17 (Or.inr (hw _ (List.mem_of_getElem? (i := 39) rfl))) (ty := .int) (by decide)
          have F17_qualifier : Fld Z h17 b17 "com/example/planmend/planmend/pg/SelectBlock$ColumnReference" "qualifier" "I" (.int (0 : Int32)) := D17 (Or.inr (hw _ (List.mem_of_getElem? (i := 41) rfl))) (ty := .int) (by decide)
          have F17_target : Fld Z h17 b17 "com/example/planmend/planmend/pg/SelectBlock$ColumnReference" "target" "Lcom/example/planmend/planmend/pg/FromItem$Leaf;" .null := D17 (Or.inr (hw _ (List.mem_of_getElem? (i := 43) rfl))) (ty := (.object "com/example/planmend/planmend/pg/FromItem$Leaf")) (by decide)
          have F17_column : Fld Z h17 b17 "com/example/planmend/planmend/pg/SelectBlock$ColumnReference" "column" "Ljava/lang/String;" .null := D17 (Or.inr (hw _ (List.mem_of_getElem? (i := 45) rfl))) (ty := (.object "java/lang/String")) (by decide)
          refine own_via (B := T17.setTop (mkF m 80 #[.val (.int i0), .val (.int i1), .val (.int i2), .val (.int i3), .val (.int i4), .val (.int v3s0), .val (.int v17s0), .val (.ref r_3), .val (.ref b12), .unset] [(.ref b17)])) (fun t k => st17 t k) ?_
          refine own_via (B := T17.setTop (mkF m 81 #[.val (.int i0), .val (.int i1), .val (.int i2), .val (.int i3), .val (.int i4), .val (.int v3s0), .val (.int v17s0), .val (.ref r_3), .val (.ref b12), .unset] [(.ref b17), (.ref b17)])) (fun t k => XS.dup X17.here hx rfl (hb hby at_80) rfl rfl k) ?_
          refine own_via (B := T17.setTop (mkF m 82 #[.val (.int i0), .val (.int i1), .val (.int i2), .val (.int i3), .val (.int i4), .val (.int v3s0), .val (.int v17s0), .val (.ref r_3), .val (.ref b12), .unset] [(.int i0), (.ref b17), (.ref b17)])) (fun t k => XS.iloadN X17.here hx rfl (hb hby at_81) rfl k) ?_
          refine own_via (B := T17.setTop (mkF m 83 #[.val (.int i0), .val (.int i1), .val (.int i2), .val (.int i3), .val (.int i4), .val (.int v3s0), .val (.int v17s0), .val (.ref r_3), .val (.ref b12), .unset] [(.int i1), (.int i0), (.ref b17), (.ref b17)])) (fun t k => XS.iloadN X17.here hx rfl (hb hby at_82) rfl k) ?_
          refine own_via (B := T17.setTop (mkF m 85 #[.val (.int i0), .val (.int i1), .val (.int i2), .val (.int i3), .val (.int i4), .val (.int v3s0), .val (.int v17s0), .val (.ref r_3), .val (.ref b12), .unset] [(.ref b12), (.int i1), (.int i0), (.ref b17), (.ref b17)])) (fun t k => XS.aload X17.here hx rfl (hb hby at_83) rfl rfl k) ?_
          refine own_via (B := T17.setTop (mkF m 87 #[.val (.int i0), .val (.int i1), .val (.int i2), .val (.int i3), .val (.int i4), .val (.int v3s0), .val (.int v17s0), .val (.ref r_3), .val (.ref b12), .unset] [(.ref r_3), (.ref b12), (.int i1), (.int i0), (.ref b17), (.ref b17)])) (fun t k => XS.aload X17.here hx rfl (hb hby at_85) rfl rfl k) ?_
          obtain ⟨_, _, ⟨T18, L18, k18, n18⟩, -, X18, ⟨Lc18, hQ18, l18, y18, z18⟩, st18⟩ := X17.specialBack hx (y := (⟨"com/example/planmend/planmend/pg/SelectBlock$ColumnReference", "<init>", "(IILcom/example/planmend/planmend/pg/FromItem$Leaf;Ljava/lang/String;)V"⟩ : MethodName)) rfl hown (mvT hZ (hw _ (List.mem_of_getElem? (i := 29) rfl))) (mvT hZ (hw _ (List.mem_of_getElem? (i := 30) rfl))) (mvT hZ (hw _ (List.mem_of_getElem? (i := 31) rfl))) (by decide) (backOf (W := 1) (rmCrr l Z a0 hw [] b17 i0 i1 b12 r_3 (.int (0 : Int32)) (.int (0 : Int32)) .null .null h17 n0 (Nat.le_trans (Nat.le_trans (Nat.le_trans (Nat.le_trans (Nat.le_trans (Nat.le_trans Z0 Kq3.1) E12.1) E14.1) E15.1) Kq16.1) E17.1) A17 F17_token F17_qualifier F17_target F17_column g_b17) hZ (hw _ (List.mem_of_getElem? (i := 31) rfl)) (hw _ (List.mem_of_getElem? (i := 28) rfl)) (by decide) (by decide)) (g := (mkF m 87 #[.val (.int i0), .val (.int i1), .val (.int i2), .val (.int i3), .val (.int i4), .val (.int v3s0), .val (.int v17s0), .val (.ref r_3), .val (.ref b12), .unset] [(.ref r_3), (.ref b12), (.int i1), (.int i0), (.ref b17), (.ref b17)])) rfl (by rw [hml]; rfl) (Steps.refl _) (a := b17) (argsL := [(.int i0), (.int i1), (.ref b12), (.ref r_3)]) (rest := [(.ref b17)]) (lenOf own_pd8 rfl) rfl (by show 2 * 0 + _ ≤ _; exact Nat.le_of_eq rfl) (hb hby at_87) (fun _ _ => ⟨rfl, e17, (by decide : ((((((0 + 4) + 1) + 2) + 2) + 0) + 1) + 0 ≤ _), (by decide : ((((((0 + 12) + 10) + (4 + 4)) + (4 + 4)) + 0) + 4) + 0 ≤ _)⟩)
          dsimp only [Pt.U, Pt.locs, Pt.cells, Pt.slots] at X18 l18 y18 z18 st18 hQ18
          subst l18 y18 z18
          obtain ⟨rfl, Nq18, Kq18, f18_0, f18_1, f18_2, f18_3⟩ := hQ18
          have N18 := Fr.app N16 Nq18
          refine own_via (B := T18.setTop (mkF m 90 #[.val (.int i0), .val (.int i1), .val (.int i2), .val (.int i3), .val (.int i4), .val (.int v3s0), .val (.int v17s0), .val (.ref r_3), .val (.ref b12), .unset] [(.ref b17)])) (fun t k => st18.trans k) ?_
          refine own_via (B := T18.setTop (mkF m 92 #[.val (.int i0), .val (.int i1), .val (.int i2), .val (.int i3), .val (.int i4), .val (.int v3s0), .val (.int v17s0), .val (.ref r_3), .val (.ref b12), .val (.ref b17)] [])) (fun t k => XS.astore X18.here hx rfl (hb hby at_90) rfl rfl (l' := #[.val (.int i0), .val (.int i1), .val (.int i2), .val (.int i3), .val (.int i4), .val (.int v3s0), .val (.int v17s0), .val (.ref r_3), .val (.ref b12), .val (.ref b17)]) rfl k) ?_
          refine own_via (B := T18.setTop (mkF m 94 #[.val (.int i0), .val (.int i1), .val (.int i2), .val (.int i3), .val (.int i4), .val (.int v3s0), .val (.int v17s0), .val (.ref r_3), .val (.ref b12), .val (.ref b17)] [(.ref b17)])) (fun t k => XS.aload X18.here hx rfl (hb hby at_92) rfl rfl k) ?_
          obtain ⟨cq19, kq19, q19a, q19b, q19c⟩ := isOf hZ rfl (A17.keep Kq18)
          obtain ⟨_, _, ⟨T19, L19, k19, n19⟩, -, X19, ⟨Lc19, hQ19, l19, y19, z19⟩, st19⟩ := X18.virtualBack hx (y := (⟨"com/example/planmend/planmend/pg/SelectBlock$ColumnReference", "all", "()Z"⟩ : MethodName)) (z := (⟨"com/example/planmend/planmend/pg/SelectBlock$ColumnReference", "all", "()Z"⟩ : MethodName)) hown (mvT hZ (hw _ (List.mem_of_getElem? (i := 46) rfl))) (mvT hZ (hw _ (List.mem_of_getElem? (i := 47) rfl))) (notFace_of_selects (args := #[]) (mvT hZ (hw _ (List.mem_of_getElem? (i := 49) rfl)))) (mvT hZ (hw _ (List.mem_of_getElem? (i := 49) rfl))) (mvT hZ (hw _ (List.mem_of_getElem? (i := 48) rfl))) (by decide) (backOf (W := 0) (rmgallr l Z a0 hw [] b17 r_3 T18.heap n0 (Nat.le_trans (Nat.le_trans (Nat.le_trans (Nat.le_trans (Nat.le_trans (Nat.le_trans (Nat.le_trans Z0 Kq3.1) E12.1) E14.1) E15.1) Kq16.1) E17.1) Kq18.1) f18_3) hZ (hw _ (List.mem_of_getElem? (i := 50) rfl)) (hw _ (List.mem_of_getElem? (i := 28) rfl)) (by decide) (by decide)) q19a q19c (g := (mkF m 94 #[.val (.int i0), .val (.int i1), .val (.int i2), .val (.int i3), .val (.int i4), .val (.int v3s0), .val (.int v17s0), .val (.ref r_3), .val (.ref b12), .val (.ref b17)] [(.ref b17)])) rfl (by rw [hml]; rfl) (Steps.refl _) (argsL := []) (rest := []) (lenOf own_pd9 rfl) rfl (by show 2 * 0 + _ ≤ _; exact Nat.le_of_eq rfl) (hb hby at_94) (fun _ _ => ⟨rfl, rfl, (by decide : (((((((0 + 4) + 1) + 2) + 2) + 0) + 1) + 0) + 0 ≤ _), (by decide : (((((((0 + 12) + 10) + (4 + 4)) + (4 + 4)) + 0) + 4) + 0) + 0 ≤ _)⟩)
          dsimp only [Pt.U, Pt.locs, Pt.cells, Pt.slots] at X19 l19 y19 z19 st19 hQ19
          subst l19 y19 z19
          obtain ⟨rfl, Nq19, eq19⟩ := hQ19
          have N19 := Fr.app N18 Nq19
          refine own_via (B := T19.setTop (mkF m 97 #[.val (.int i0), .val (.int i1), .val (.int i2), .val (.int i3), .val (.int i4), .val (.int v3s0), .val (.int v17s0), .val (.ref r_3), .val (.ref b12), .val (.ref b17)] [(.int (0 : Int32))])) (fun t k => st19.trans k) ?_
          refine own_via (B := T19.setTop (mkF m 99 #[.val (.int i0), .val (.int i1), .val (.int i2), .val (.int i3), .val (.int i4), .val (.int v3s0), .val (.int v17s0), .val (.ref r_3), .val (.ref b12), .val (.ref b17)] [(.int v3s0), (.int (0 : Int32))])) (fun t k => XS.iload X19.here hx rfl (hb hby at_97) rfl k) ?_
          refine own_bind (G := fun B => ∃ (T' : State) (L' : List Loc) (v99s0 : Int32), Fr n0 L' ∧ ((((0 : Int32) = v3s0) ∧ (i0 = i0) ∧ (i1 = i1) ∧ (b12 = b12) ∧ (r_3 = r_3) ∧ v99s0 = (1 : Int32)) ∨ (((0 : Int32) = v3s0) ∧ (i0 = i0) ∧ (i1 = i1) ∧ (b12 = b12) ∧ (¬ (r_3 = r_3)) ∧ v99s0 = (0 : Int32)) ∨ (((0 : Int32) = v3s0) ∧ (i0 = i0) ∧ (i1 = i1) ∧ (¬ (b12 = b12)) ∧ v99s0 = (0 : Int32)) ∨ (((0 : Int32) = v3s0) ∧ (i0 = i0) ∧ (¬ (i1 = i1)) ∧ v99s0 = (0 : Int32)) ∨ (((0 : Int32) = v3s0) ∧ (¬ (i0 = i0)) ∧ v99s0 = (0 : Int32)) ∨ ((¬ ((0 : Int32) = v3s0)) ∧ v99s0 = (0 : Int32))) ∧ B = T'.setTop (mkF m 145 #[.val (.int i0), .val (.int i1), .val (.int i2), .val (.int i3), .val (.int i4), .val (.int v3s0), .val (.int v17s0), .val (.ref r_3), .val (.ref b12), .val (.ref b17)] [(.int v99s0)]) ∧ Stand p l e room_1 (s.setVm T15.vm) m #[(.int i0), (.int i1), (.int i2), (.int i3), (.int i4)] below meth c T' L' 10 42 ∧ T'.heap = T18.heap) ?_ ?_
          · by_cases hc99 : (0 : Int32) = v3s0
            · refine own_via (B := T19.setTop (mkF m 102 #[.val (.int i0), .val (.int i1), .val (.int i2), .val (.int i3), .val (.int i4), .val (.int v3s0), .val (.int v17s0), .val (.ref r_3), .val (.ref b12), .val (.ref b17)] [])) (fun t k => XS.icmpNo X19.here hx rfl (hb hby at_99) rfl (teq hc99).2 k) ?_
              refine own_via (B := T19.setTop (mkF m 104 #[.val (.int i0), .val (.int i1), .val (.int i2), .val (.int i3), .val (.int i4), .val (.int v3s0), .val (.int v17s0), .val (.ref r_3), .val (.ref b12), .val (.ref b17)] [(.ref b17)])) (fun t k => XS.aload X19.here hx rfl (hb hby at_102) rfl rfl k) ?_
              obtain ⟨cq21, kq21, q21a, q21b, q21c⟩ := isOf hZ eq19 (A17.keep Kq18)
              obtain ⟨_, _, ⟨T21, L21, k21, n21⟩, -, X21, ⟨Lc21, hQ21, l21, y21, z21⟩, st21⟩ := X19.virtualBack hx (y := (⟨"com/example/planmend/planmend/pg/SelectBlock$ColumnReference", "token", "()I"⟩ : MethodName)) (z := (⟨"com/example/planmend/planmend/pg/SelectBlock$ColumnReference", "token", "()I"⟩ : MethodName)) hown (mvT hZ (hw _ (List.mem_of_getElem? (i := 51) rfl))) (mvT hZ (hw _ (List.mem_of_getElem? (i := 52) rfl))) (notFace_of_selects (args := #[]) (mvT hZ (hw _ (List.mem_of_getElem? (i := 54) rfl)))) (mvT hZ (hw _ (List.mem_of_getElem? (i := 54) rfl))) (mvT hZ (hw _ (List.mem_of_getElem? (i := 53) rfl))) (by decide) (backOf (W := 0) (rmgtoken l Z a0 hw [] b17 i0 T18.heap n0 (Nat.le_trans (Nat.le_trans (Nat.le_trans (Nat.le_trans (Nat.le_trans (Nat.le_trans (Nat.le_trans Z0 Kq3.1) E12.1) E14.1) E15.1) Kq16.1) E17.1) Kq18.1) f18_0) hZ (hw _ (List.mem_of_getElem? (i := 55) rfl)) (hw _ (List.mem_of_getElem? (i := 28) rfl)) (by decide) (by decide)) q21a q21c (g := (mkF m 104 #[.val (.int i0), .val (.int i1), .val (.int i2), .val (.int i3), .val (.int i4), .val (.int v3s0), .val (.int v17s0), .val (.ref r_3), .val (.ref b12), .val (.ref b17)] [(.ref b17)])) rfl (by rw [hml]; rfl) (Steps.refl _) (argsL := []) (rest := []) (lenOf own_pd10 rfl) rfl (by show 2 * 0 + _ ≤ _; exact Nat.le_of_eq rfl) (hb hby at_104) (fun _ _ => ⟨rfl, eq19, (by decide : ((((((((0 + 4) + 1) + 2) + 2) + 0) + 1) + 0) + 0) + 0 ≤ _), (by decide : ((((((((0 + 12) + 10) + (4 + 4)) + (4 + 4)) + 0) + 4) + 0) + 0) + 0 ≤ _)⟩)
              dsimp only [Pt.U, Pt.locs, Pt.cells, Pt.slots] at X21 l21 y21 z21 st21 hQ21
              subst l21 y21 z21
              obtain ⟨rfl, Nq21, eq21⟩ := hQ21
              have N21 := Fr.app N19 Nq21
              refine own_via (B := T21.setTop (mkF m 107 #[.val (.int i0), .val (.int i1), .val (.int i2), .val (.int i3), .val (.int i4), .val (.int v3s0), .val (.int v17s0), .val (.ref r_3), .val (.ref b12), .val (.ref b17)] [(.int i0)])) (fun t k => st21.trans k) ?_
              refine own_via (B := T21.setTop (mkF m 108 #[.val (.int i0), .val (.int i1), .val (.int i2), .val (.int i3), .val (.int i4), .val (.int v3s0), .val (.int v17s0), .val (.ref r_3), .val (.ref b12), .val (.ref b17)] [(.int i0), (.int i0)])) (fun t k => XS.iloadN X21.here hx rfl (hb hby at_107) rfl k) ?_
              by_cases hc108 : i0 = i0
              · refine own_via (B := T21.setTop (mkF m 111 #[.val (.int i0), .val (.int i1), .val (.int i2), .val (.int i3), .val (.int i4), .val (.int v3s0), .val (.int v17s0), .val (.ref r_3), .val (.ref b12), .val (.ref b17)] [])) (fun t k => XS.icmpNo X21.here hx rfl (hb hby at_108) rfl (teq hc108).2 k) ?_
                refine own_via (B := T21.setTop (mkF m 113 #[.val (.int i0), .val (.int i1), .val (.int i2), .val (.int i3), .val (.int i4), .val (.int v3s0), .val (.int v17s0), .val (.ref r_3), .val (.ref b12), .val (.ref b17)] [(.ref b17)])) (fun t k => XS.aload X21.here hx rfl (hb hby at_111) rfl rfl k) ?_
                obtain ⟨cq22, kq22, q22a, q22b, q22c⟩ := isOf hZ eq21 (A17.keep Kq18)
                obtain ⟨_, _, ⟨T22, L22, k22, n22⟩, -, X22, ⟨Lc22, hQ22, l22, y22, z22⟩, st22⟩ := X21.virtualBack hx (y := (⟨"com/example/planmend/planmend/pg/SelectBlock$ColumnReference", "qualifier", "()I"⟩ : MethodName)) (z := (⟨"com/example/planmend/planmend/pg/SelectBlock$ColumnReference", "qualifier", "()I"⟩ : MethodName)) hown (mvT hZ (hw _ (List.mem_of_getElem? (i := 56) rfl))) (mvT hZ (hw _ (List.mem_of_getElem? (i := 57) rfl))) (notFace_of_selects (args := #[]) (mvT hZ (hw _ (List.mem_of_getElem? (i := 59) rfl)))) (mvT hZ (hw _ (List.mem_of_getElem? (i := 59) rfl))) (mvT hZ (hw _ (List.mem_of_getElem? (i := 58) rfl))) (by decide) (backOf (W := 0) (rmgqualifier l Z a0 hw [] b17 i1 T18.heap n0 (Nat.le_trans (Nat.le_trans (Nat.le_trans (Nat.le_trans (Nat.le_trans (Nat.le_trans (Nat.le_trans Z0 Kq3.1) E12.1) E14.1) E15.1) Kq16.1) E17.1) Kq18.1) f18_1) hZ (hw _ (List.mem_of_getElem? (i := 60) rfl)) (hw _ (List.mem_of_getElem? (i := 28) rfl)) (by decide) (by decide)) q22a q22c (g := (mkF m 113 #[.val (.int i0), .val (.int i1), .val (.int i2), .val (.int i3), .val (.int i4), .val (.int v3s0), .val (.int v17s0), .val (.ref r_3), .val (.ref b12), .val (.ref b17)] [(.ref b17)])) rfl (by rw [hml]; rfl) (Steps.refl _) (argsL := []) (rest := []) (lenOf own_pd10 rfl) rfl (by show 2 * 0 + _ ≤ _; exact Nat.le_of_eq rfl) (hb hby at_113) (fun _ _ => ⟨rfl, eq21, (by decide : (((((((((0 + 4) + 1) + 2) + 2) + 0) + 1) + 0) + 0) + 0) + 0 ≤ _), (by decide : (((((((((0 + 12) + 10) + (4 + 4)) + (4 + 4)) + 0) + 4) + 0) + 0) + 0) + 0 ≤ _)⟩)
                dsimp only [Pt.U, Pt.locs, Pt.cells, Pt.slots] at X22 l22 y22 z22 st22 hQ22
                subst l22 y22 z22
                obtain ⟨rfl, Nq22, eq22⟩ := hQ22
                have N22 := Fr.app N21 Nq22
                refine own_via (B := T22.setTop (mkF m 116 #[.val (.int i0), .val (.int i1), .val (.int i2), .val (.int i3), .val (.int i4), .val (.int v3s0), .val (.int v17s0), .val (.ref r_3), .val (.ref b12), .val (.ref b17)] [(.int i1)])) (fun t k => st22.trans k) ?_
                refine own_via (B := T22.setTop (mkF m 117 #[.val (.int i0), .val (.int i1), .val (.int i2), .val (.int i3), .val (.int i4), .val (.int v3s0), .val (.int v17s0), .val (.ref r_3), .val (.ref b12), .val (.ref b17)] [(.int i1), (.int i1)])) (fun t k => XS.iloadN X22.here hx rfl (hb hby at_116) rfl k) ?_
                by_cases hc117 : i1 = i1
                · refine own_via (B := T22.setTop (mkF m 120 #[.val (.int i0), .val (.int i1), .val (.int i2), .val (.int i3), .val (.int i4), .val (.int v3s0), .val (.int v17s0), .val (.ref r_3), .val (.ref b12), .val (.ref b17)] [])) (fun t k => XS.icmpNo X22.here hx rfl (hb hby at_117) rfl (teq hc117).2 k) ?_
                  refine own_via (B := T22.setTop (mkF m 122 #[.val (.int i0), .val (.int i1), .val (.int i2), .val (.int i3), .val (.int i4), .val (.int v3s0), .val (.int v17s0), .val (.ref r_3), .val (.ref b12), .val (.ref b17)] [(.ref b17)])) (fun t k => XS.aload X22.here hx rfl (hb hby at_120) rfl rfl k) ?_
                  obtain ⟨cq23, kq23, q23a, q23b, q23c⟩ := isOf hZ eq22 (A17.keep Kq18)
                  obtain ⟨_, _, ⟨T23, L23, k23, n23⟩, -, X23, ⟨Lc23, hQ23, l23, y23, z23⟩, st23⟩ := X22.virtualBack hx (y := (⟨"com/example/planmend/planmend/pg/SelectBlock$ColumnReference", "target", "()Lcom/example/planmend/planmend/pg/FromItem$Leaf;"⟩ : MethodName)) (z := (⟨"com/example/planmend/planmend/pg/SelectBlock$ColumnReference", "target", "()Lcom/example/planmend/planmend/pg/FromItem$Leaf;"⟩ : MethodName)) hown (mvT hZ (hw _ (List.mem_of_getElem? (i := 61) rfl))) (mvT hZ (hw _ (List.mem_of_getElem? (i := 62) rfl))) (notFace_of_selects (args := #[]) (mvT hZ (hw _ (List.mem_of_getElem? (i := 64) rfl)))) (mvT hZ (hw _ (List.mem_of_getElem? (i := 64) rfl))) (mvT hZ (hw _ (List.mem_of_getElem? (i := 63) rfl))) (by decide) (backOf (W := 0) (rmgtargetr l Z a0 hw [] b17 b12 T18.heap n0 (Nat.le_trans (Nat.le_trans (Nat.le_trans (Nat.le_trans (Nat.le_trans (Nat.le_trans (Nat.le_trans Z0 Kq3.1) E12.1) E14.1) E15.1) Kq16.1) E17.1) Kq18.1) f18_2) hZ (hw _ (List.mem_of_getElem? (i := 65) rfl)) (hw _ (List.mem_of_getElem? (i := 28) rfl)) (by decide) (by decide)) q23a q23c (g := (mkF m 122 #[.val (.int i0), .val (.int i1), .val (.int i2), .val (.int i3), .val (.int i4), .val (.int v3s0), .val (.int v17s0), .val (.ref r_3), .val (.ref b12), .val (.ref b17)] [(.ref b17)])) rfl (by rw [hml]; rfl) (Steps.refl _) (argsL := []) (rest := []) (lenOf own_pd11 rfl) rfl (by show 2 * 0 + _ ≤ _; exact Nat.le_of_eq rfl) (hb hby at_122) (fun _ _ => ⟨rfl, eq22, (by decide : ((((((((((0 + 4) + 1) + 2) + 2) + 0) + 1) + 0) + 0) + 0) + 0) + 0 ≤ _), (by decide : ((((((((((0 + 12) + 10) + (4 + 4)) + (4 + 4)) + 0) + 4) + 0) + 0) + 0) + 0) + 0 ≤ _)⟩)
                  dsimp only [Pt.U, Pt.locs, Pt.cells, Pt.slots] at X23 l23 y23 z23 st23 hQ23
                  subst l23 y23 z23
                  obtain ⟨rfl, Nq23, eq23⟩ := hQ23
                  have N23 := Fr.app N22 Nq23
                  refine own_via (B := T23.setTop (mkF m 125 #[.val (.int i0), .val (.int i1), .val (.int i2), .val (.int i3), .val (.int i4), .val (.int v3s0), .val (.int v17s0), .val (.ref r_3), .val (.ref b12), .val (.ref b17)] [(.ref b12)])) (fun t k => st23.trans k) ?_
                  refine own_via (B := T23.setTop (mkF m 127 #[.val (.int i0), .val (.int i1), .val (.int i2), .val (.int i3), .val (.int i4), .val (.int v3s0), .val (.int v17s0), .val (.ref r_3), .val (.ref b12), .val (.ref b17)] [(.ref b12), (.ref b12)])) (fun t k => XS.aload X23.here hx rfl (hb hby at_125) rfl rfl k) ?_
                  by_cases hc127 : b12 = b12
                  · refine own_via (B := T23.setTop (mkF m 130 #[.val (.int i0), .val (.int i1), .val (.int i2), .val (.int i3), .val (.int i4), .val (.int v3s0), .val (.int v17s0), .val (.ref r_3), .val (.ref b12), .val (.ref b17)] [])) (fun t k => Jvm.RoadKit.acmp (g := (mkF m 127 #[.val (.int i0), .val (.int i1), .val (.int i2), .val (.int i3), .val (.int i4), .val (.int v3s0), .val (.int v17s0), .val (.ref r_3), .val (.ref b12), .val (.ref b17)] [(.ref b12), (.ref b12)])) X23 hx rfl rfl rfl (pc0 := 127) (pc' := 130) (same := true) rfl (hb hby at_127) rfl (decide_eq_true (congrArg Value.ref hc127)) (by decide) (by decide) k) ?_
                    refine own_via (B := T23.setTop (mkF m 132 #[.val (.int i0), .val (.int i1), .val (.int i2), .val (.int i3), .val (.int i4), .val (.int v3s0), .val (.int v17s0), .val (.ref r_3), .val (.ref b12), .val (.ref b17)] [(.ref b17)])) (fun t k => XS.aload X23.here hx rfl (hb hby at_130) rfl rfl k) ?_
                    obtain ⟨cq24, kq24, q24a, q24b, q24c⟩ := isOf hZ eq23 (A17.keep Kq18)
                    obtain ⟨_, _, ⟨T24, L24, k24, n24⟩, -, X24, ⟨Lc24, hQ24, l24, y24, z24⟩, st24⟩ := X23.virtualBack hx (y := (⟨"com/example/planmend/planmend/pg/SelectBlock$ColumnReference", "column", "()Ljava/lang/String;"⟩ : MethodName)) (z := (⟨"com/example/planmend/planmend/pg/SelectBlock$ColumnReference", "column", "()Ljava/lang/String;"⟩ : MethodName)) hown (mvT hZ (hw _ (List.mem_of_getElem? (i := 66) rfl))) (mvT hZ (hw _ (List.mem_of_getElem? (i := 67) rfl))) (notFace_of_selects (args := #[]) (mvT hZ (hw _ (List.mem_of_getElem? (i := 69) rfl)))) (mvT hZ (hw _ (List.mem_of_getElem? (i := 69) rfl))) (mvT hZ (hw _ (List.mem_of_getElem? (i := 68) rfl))) (by decide) (backOf (W := 0) (rmgcolumnr l Z a0 hw [] b17 r_3 T18.heap n0 (Nat.le_trans (Nat.le_trans (Nat.le_trans (Nat.le_trans (Nat.le_trans (Nat.le_trans (Nat.le_trans Z0 Kq3.1) E12.1) E14.1) E15.1) Kq16.1) E17.1) Kq18.1) f18_3) hZ (hw _ (List.mem_of_getElem? (i := 70) rfl)) (hw _ (List.mem_of_getElem? (i := 28) rfl)) (by decide) (by decide)) q24a q24c (g := (mkF m 132 #[.val (.int i0), .val (.int i1), .val (.int i2), .val (.int i3), .val (.int i4), .val (.int v3s0), .val (.int v17s0), .val (.ref r_3), .val (.ref b12), .val (.ref b17)] [(.ref b17)])) rfl (by rw [hml]; rfl) (Steps.refl _) (argsL := []) (rest := []) (lenOf own_pd12 rfl) rfl (by show 2 * 0 + _ ≤ _; exact Nat.le_of_eq rfl) (hb hby at_132) (fun _ _ => ⟨rfl, eq23, (by decide : (((((((((((0 + 4) + 1) + 2) + 2) + 0) + 1) + 0) + 0) + 0) + 0) + 0) + 0 ≤ _), (by decide : (((((((((((0 + 12) + 10) + (4 + 4)) + (4 + 4)) + 0) + 4) + 0) + 0) + 0) + 0) + 0) + 0 ≤ _)⟩)
                    dsimp only [Pt.U, Pt.locs, Pt.cells, Pt.slots] at X24 l24 y24 z24 st24 hQ24
                    subst l24 y24 z24
                    obtain ⟨rfl, Nq24, eq24⟩ := hQ24
                    have N24 := Fr.app N23 Nq24
                    refine own_via (B := T24.setTop (mkF m 135 #[.val (.int i0), .val (.int i1), .val (.int i2), .val (.int i3), .val (.int i4), .val (.int v3s0), .val (.int v17s0), .val (.ref r_3), .val (.ref b12), .val (.ref b17)] [(.ref r_3)])) (fun t k => st24.trans k) ?_
                    refine own_via (B := T24.setTop (mkF m 137 #[.val (.int i0), .val (.int i1), .val (.int i2), .val (.int i3), .val (.int i4), .val (.int v3s0), .val (.int v17s0), .val (.ref r_3), .val (.ref b12), .val (.ref b17)] [(.ref r_3), (.ref r_3)])) (fun t k => XS.aload X24.here hx rfl (hb hby at_135) rfl rfl k) ?_
                    by_cases hc137 : r_3 = r_3
                    · refine own_via (B := T24.setTop (mkF m 140 #[.val (.int i0), .val (.int i1), .val (.int i2), .val (.int i3), .val (.int i4), .val (.int v3s0), .val (.int v17s0), .val (.ref r_3), .val (.ref b12), .val (.ref b17)] [])) (fun t k => Jvm.RoadKit.acmp (g := (mkF m 137 #[.val (.int i0), .val (.int i1), .val (.int i2), .val (.int i3), .val (.int i4), .val (.int v3s0), .val (.int v17s0), .val (.ref r_3), .val (.ref b12), .val (.ref b17)] [(.ref r_3), (.ref r_3)])) X24 hx rfl rfl rfl (pc0 := 137) (pc' := 140) (same := true) rfl (hb hby at_137) rfl (decide_eq_true (congrArg Value.ref hc137)) (by decide) (by decide) k) ?_
                      refine own_via (B := T24.setTop (mkF m 141 #[.val (.int i0), .val (.int i1), .val (.int i2), .val (.int i3), .val (.int i4), .val (.int v3s0), .val (.int v17s0), .val (.ref r_3), .val (.ref b12), .val (.ref b17)] [(.int (1 : Int32))])) (fun t k => XS.iconst X24.here hx rfl (hb hby at_140) k) ?_
                      refine own_via (B := T24.setTop (mkF m 145 #[.val (.int i0), .val (.int i1), .val (.int i2), .val (.int i3), .val (.int i4), .val (.int v3s0), .val (.int v17s0), .val (.ref r_3), .val (.ref b12), .val (.ref b17)] [(.int (1 : Int32))])) (fun t k => XS.goto X24.here hx rfl (pc0 := 141) (pc' := 145) rfl (hb hby at_141) (by decide) (by decide) k) ?_
                      exact own_done ⟨_, _, _, N24, (Or.inl ⟨hc99, hc108, hc117, hc127, hc137, rfl⟩), rfl, (X24.more (by decide) (by decide)), eq24⟩
                    · refine own_via (B := T24.setTop (mkF m 144 #[.val (.int i0), .val (.int i1), .val (.int i2), .val (.int i3), .val (.int i4), .val (.int v3s0), .val (.int v17s0), .val (.ref r_3), .val (.ref b12), .val (.ref b17)] [])) (fun t k => Jvm.RoadKit.acmp (g := (mkF m 137 #[.val (.int i0), .val (.int i1), .val (.int i2), .val (.int i3), .val (.int i4), .val (.int v3s0), .val (.int v17s0), .val (.ref r_3), .val (.ref b12), .val (.ref b17)] [(.ref r_3), (.ref r_3)])) X24 hx rfl rfl rfl (pc0 := 137) (pc' := 144) (same := false) rfl (hb hby at_137) rfl (decide_eq_false fun q => hc137 (Value.ref.inj q)) (by decide) (by decide) k) ?_
                      refine own_via (B := T24.setTop (mkF m 145 #[.val (.int i0), .val (.int i1), .val (.int i2), .val (.int i3), .val (.int i4), .val (.int v3s0), .val (.int v17s0), .val (.ref r_3), .val (.ref b12), .val (.ref b17)] [(.int (0 : Int32))])) (fun t k => XS.iconst X24.here hx rfl (hb hby at_144) k) ?_
                      exact own_done ⟨_, _, _, N24, (Or.inr (Or.inl ⟨hc99, hc108, hc117, hc127, hc137, rfl⟩)), rfl, (X24.more (by decide) (by decide)), eq24⟩
                  · refine own_via (B := T23.setTop (mkF m 144 #[.val (.int i0), .val (.int i1), .val (.int i2), .val (.int i3), .val (.int i4), .val (.int v3s0), .val (.int v17s0), .val (.ref r_3), .val (.ref b12), .val (.ref b17)] [])) (fun t k => Jvm.RoadKit.acmp (g := (mkF m 127 #[.val (.int i0), .val (.int i1), .val (.int i2), .val (.int i3), .val (.int i4), .val (.int v3s0), .val (.int v17s0), .val (.ref r_3), .val (.ref b12), .val (.ref b17)] [(.ref b12), (.ref b12)])) X23 hx rfl rfl rfl (pc0 := 127) (pc' := 144) (same := false) rfl (hb hby at_127) rfl (decide_eq_false fun q => hc127 (Value.ref.inj q)) (by decide) (by decide) k) ?_
                    refine own_via (B := T23.setTop (mkF m 145 #[.val (.int i0), .val (.int i1), .val (.int i2), .val (.int i3), .val (.int i4), .val (.int v3s0), .val (.int v17s0), .val (.ref r_3), .val (.ref b12), .val (.ref b17)] [(.int (0 : Int32))])) (fun t k => XS.iconst X23.here hx rfl (hb hby at_144) k) ?_
                    exact own_done ⟨_, _, _, N23, (Or.inr (Or.inr (Or.inl ⟨hc99, hc108, hc117, hc127, rfl⟩))), rfl, (X23.more (by decide) (by decide)), eq23⟩
                · refine own_via (B := T22.setTop (mkF m 144 #[.val (.int i0), .val (.int i1), .val (.int i2), .val (.int i3), .val (.int i4), .val (.int v3s0), .val (.int v17s0), .val (.ref r_3), .val (.ref b12), .val (.ref b17)] [])) (fun t k => XS.icmpYes X22.here hx rfl (pc0 := 117) (pc' := 144) rfl (hb hby at_117) rfl (feq hc117).2 (by decide) (by decide) k) ?_
                  refine own_via (B := T22.setTop (mkF m 145 #[.val (.int i0), .val (.int i1), .val (.int i2), .val (.int i3), .val (.int i4), .val (.int v3s0), .val (.int v17s0), .val (.ref r_3), .val (.ref b12), .val (.ref b17)] [(.int (0 : Int32))])) (fun t k => XS.iconst X22.here hx rfl (hb hby at_144) k) ?_
                  exact own_done ⟨_, _, _, N22, (Or.inr (Or.inr (Or.inr (Or.inl ⟨hc99, hc108, hc117, rfl⟩)))), rfl, (X22.more (by decide) (by decide)), eq22⟩
              · refine own_via (B := T21.setTop (mkF m 144 #[.val (.int i0), .val (.int i1), .val (.int i2), .val (.int i3), .val (.int i4), .val (.int v3s0), .val (.int v17s0), .val (.ref r_3), .val (.ref b12), .val (.ref b17)] [])) (fun t k => XS.icmpYes X21.here hx rfl (pc0 := 108) (pc' := 144) rfl (hb hby at_108) rfl (feq hc108).2 (by decide) (by decide) k) ?_
                refine own_via (B := T21.setTop (mkF m 145 #[.val (.int i0), .val (.int i1), .val (.int i2), .val (.int i3), .val (.int i4), .val (.int v3s0), .val (.int v17s0), .val (.ref r_3), .val (.ref b12), .val (.ref b17)] [(.int (0 : Int32))])) (fun t k => XS.iconst X21.here hx rfl (hb hby at_144) k) ?_
                exact own_done ⟨_, _, _, N21, (Or.inr (Or.inr (Or.inr (Or.inr (Or.inl ⟨hc99, hc108, rfl⟩))))), rfl, (X21.more (by decide) (by decide)), eq21⟩
            · refine own_via (B := T19.setTop (mkF m 144 #[.val (.int i0), .val (.int i1), .val (.int i2), .val (.int i3), .val (.int i4), .val (.int v3s0), .val (.int v17s0), .val (.ref r_3), .val (.ref b12), .val (.ref b17)] [])) (fun t k => XS.icmpYes X19.here hx rfl (pc0 := 99) (pc' := 144) rfl (hb hby at_99) rfl (feq hc99).2 (by decide) (by decide) k) ?_
              refine own_via (B := T19.setTop (mkF m 145 #[.val (.int i0), .val (.int i1), .val (.int i2), .val (.int i3), .val (.int i4), .val (.int v3s0), .val (.int v17s0), .val (.ref r_3), .val (.ref b12), .val (.ref b17)] [(.int (0 : Int32))])) (fun t k => XS.iconst X19.here hx rfl (hb hby at_144) k) ?_
              exact own_done ⟨_, _, _, N19, (Or.inr (Or.inr (Or.inr (Or.inr (Or.inr ⟨hc99, rfl⟩))))), rfl, (X19.more (by decide) (by decide)), eq19⟩
          · rintro B ⟨T20, L20, v99s0, N20, hv99, rfl, X20, e20⟩
            refine own_leafW X20 hx hlk hS15 (by rw [e20]; exact (Nat.le_trans (Nat.le_trans (Nat.le_trans hk15 Kq16.1) E17.1) Kq18.1)) (t := .boolean) Bd.returns (own_b1 (by rcases hv99 with ⟨_, _, _, _, _, rfl⟩ | ⟨_, _, _, _, _, rfl⟩ | ⟨_, _, _, _, rfl⟩ | ⟨_, _, _, rfl⟩ | ⟨_, _, rfl⟩ | ⟨_, rfl⟩ <;> decide)) (Or.inl ⟨rfl, by simp, _, rfl⟩) (hb hby at_145) (by decide) (by decide) ?_
            show Q0 Z i0 i1 i2 i3 i4 zc wT h0 n0 _ T20.heap _
            rw [e20]
            refine ⟨?_, N20⟩
            have hA : (0 : Int32) = v3s0 := hc29.symm
            rcases hv99 with ⟨h0, h1, h2, h3, h4, rfl⟩ | ⟨h0, h1, h2, h3, h4, rfl⟩ | ⟨h0, h1, h2, h3, rfl⟩ | ⟨h0, h1, h2, rfl⟩ | ⟨h0, h1, rfl⟩ | ⟨h0, rfl⟩
            · rfl
            · exact absurd rfl h4
            · exact absurd rfl h3
            · exact absurd rfl h2
            · exact absurd rfl h1
            · exact absurd hA h0
      · refine own_via (B := T2.setTop (mkF m 32 #[.val (.int i0), .val (.int i1), .val (.int i2), .val (.int i3), .val (.int i4), .val (.int v3s0), .val (.int v17s0), .unset, .unset, .unset] [])) (fun t k => XS.ifNo X2.here hx rfl (hb hby at_29) rfl ((if0 _ _).trans (feq hc29).1) k) ?_
        refine own_via (B := T2.setTop (mkF m 33 #[.val (.int i0), .val (.int i1), .val (.int i2), .val (.int i3), .val (.int i4), .val (.int v3s0), .val (.int v17s0), .unset, .unset, .unset] [.null])) (fun t k => XS.aconstNull X2.here hx rfl (hb hby at_32) k) ?_
        refine own_via (B := T2.setTop (mkF m 41 #[.val (.int i0), .val (.int i1), .val (.int i2), .val (.int i3), .val (.int i4), .val (.int v3s0), .val (.int v17s0), .unset, .unset, .unset] [.null])) (fun t k => XS.goto X2.here hx rfl (pc0 := 33) (pc' := 41) rfl (hb hby at_33) (by decide) (by decide) k) ?_
        refine own_via (B := T2.setTop (mkF m 43 #[.val (.int i0), .val (.int i1), .val (.int i2), .val (.int i3), .val (.int i4), .val (.int v3s0), .val (.int v17s0), .val .null, .unset, .unset] [])) (fun t k => XS.astore X2.here hx rfl (hb hby at_41) rfl rfl (l' := #[.val (.int i0), .val (.int i1), .val (.int i2), .val (.int i3), .val (.int i4), .val (.int v3s0), .val (.int v17s0), .val .null, .unset, .unset]) rfl k) ?_
        refine own_via (B := T2.setTop (mkF m 44 #[.val (.int i0), .val (.int i1), .val (.int i2), .val (.int i3), .val (.int i4), .val (.int v3s0), .val (.int v17s0), .val .null, .unset, .unset] [.null])) (fun t k => XS.aconstNull X2.here hx rfl (hb hby at_43) k) ?_
        refine own_via (B := T2.setTop (mkF m 46 #[.val (.int i0), .val (.int i1), .val (.int i2), .val (.int i3), .val (.int i4), .val (.int v3s0), .val (.int v17s0), .val .null, .val .null, .unset] [])) (fun t k => XS.astore X2.here hx rfl (hb hby at_44) rfl rfl (l' := #[.val (.int i0), .val (.int i1), .val (.int i2), .val (.int i3), .val (.int i4), .val (.int v3s0), .val (.int v17s0), .val .null, .val .null, .unset]) rfl k) ?_
        refine own_via (B := T2.setTop (mkF m 48 #[.val (.int i0), .val (.int i1), .val (.int i2), .val (.int i3), .val (.int i4), .val (.int v3s0), .val (.int v17s0), .val .null, .val .null, .unset] [(.int v17s0)])) (fun t k => XS.iload X2.here hx rfl (hb hby at_46) rfl k) ?_
        by_cases hc48 : v17s0 = (0 : Int32)
        · refine own_via (B := T2.setTop (mkF m 77 #[.val (.int i0), .val (.int i1), .val (.int i2), .val (.int i3), .val (.int i4), .val (.int v3s0), .val (.int v17s0), .val .null, .val .null, .unset] [])) (fun t k => XS.ifYes X2.here hx rfl (pc0 := 48) (pc' := 77) rfl (hb hby at_48) rfl ((if0 _ _).trans (teq hc48).1) (by decide) (by decide) k) ?_
          obtain ⟨T25, h25, X25, e25, E25, A25, D25, -, st25⟩ := newO X2 hx hZ hown (hw _ (List.mem_of_getElem? (i := 26) rfl)) (hw _ (List.mem_of_getElem? (i := 27) rfl)) (hw _ (List.mem_of_getElem? (i := 28) rfl)) e2 (g := (mkF m 77 #[.val (.int i0), .val (.int i1), .val (.int i2), .val (.int i3), .val (.int i4), .val (.int v3s0), .val (.int v17s0), .val .null, .val .null, .unset] [])) rfl (hb hby at_77) (by decide) (by decide)
          obtain ⟨b25, g25⟩ : ∃ z, z = h0.size := ⟨_, rfl⟩
          rw [← g25] at A25 D25 st25
          have g_b25 : n0 ≤ b25 := Nat.le_trans Z0 (Nat.le_of_eq g25.symm)
          have F25_token : Fld Z h25 b25 "com/example/planmend/planmend/pg/SelectBlock$ColumnReference" "token" "I" (.int (0 : Int32)) := D25 (Or.inr (hw _ (List.mem_of_getElem? (i := 39) rfl))) (ty := .int) (by decide)
          have F25_qualifier : Fld Z h25 b25 "com/example/planmend/planmend/pg/SelectBlock$ColumnReference" "qualifier" "I" (.int (0 : Int32)) := D25 (Or.inr (hw _ (List.mem_of_getElem? (i := 41) rfl))) (ty := .int) (by decide)
          have F25_target : Fld Z h25 b25 "com/example/planmend/planmend/pg/SelectBlock$ColumnReference" "target" "Lcom/example/planmend/planmend/pg/FromItem$Leaf;" .null := D25 (Or.inr (hw _ (List.mem_of_getElem? (i := 43) rfl))) (ty := (.object "com/example/planmend/planmend/pg/FromItem$Leaf")) (by decide)
          have F25_column : Fld Z h25 b25 "com/example/planmend/planmend/pg/SelectBlock$ColumnReference" "column" "Ljava/lang/String;" .null := D25 (Or.inr (hw _ (List.mem_of_getElem? (i := 45) rfl))) (ty := (.object "java/lang/String")) (by decide)
          refine own_via (B := T25.setTop (mkF m 80 #[.val (.int i0), .val (.int i1), .val (.int i2), .val (.int i3), .val (.int i4), .val (.int v3s0), .val (.int v17s0), .val .null, .val .null, .unset] [(.ref b25)])) (fun t k => st25 t k) ?_
          refine own_via (B := T25.setTop (mkF m 81 #[.val (.int i0), .val (.int i1), .val (.int i2), .val (.int i3), .val (.int i4), .val (.int v3s0), .val (.int v17s0), .val .null, .val .null, .unset] [(.ref b25), (.ref b25)])) (fun t k => XS.dup X25.here hx rfl (hb hby at_80) rfl rfl k) ?_
          refine own_via (B := T25.setTop (mkF m 82 #[.val (.int i0), .val (.int i1), .val (.int i2), .val (.int i3), .val (.int i4), .val (.int v3s0), .val (.int v17s0), .val .null, .val .null, .unset] [(.int i0), (.ref b25), (.ref b25)])) (fun t k => XS.iloadN X25.here hx rfl (hb hby at_81) rfl k) ?_
          refine own_via (B := T25.setTop (mkF m 83 #[.val (.int i0), .val (.int i1), .val (.int i2), .val (.int i3), .val (.int i4), .val (.int v3s0), .val (.int v17s0), .val .null, .val .null, .unset] [(.int i1), (.int i0), (.ref b25), (.ref b25)])) (fun t k => XS.iloadN X25.here hx rfl (hb hby at_82) rfl k) ?_
          refine own_via (B := T25.setTop (mkF m 85 #[.val (.int i0), .val (.int i1), .val (.int i2), .val (.int i3), .val (.int i4), .val (.int v3s0), .val (.int v17s0), .val .null, .val .null, .unset] [.null, (.int i1), (.int i0), (.ref b25), (.ref b25)])) (fun t k => XS.aload X25.here hx rfl (hb hby at_83) rfl rfl k) ?_
          refine own_via (B := T25.setTop (mkF m 87 #[.val (.int i0), .val (.int i1), .val (.int i2), .val (.int i3), .val (.int i4), .val (.int v3s0), .val (.int v17s0), .val .null, .val .null, .unset] [.null, .null, (.int i1), (.int i0), (.ref b25), (.ref b25)])) (fun t k => XS.aload X25.here hx rfl (hb hby at_85) rfl rfl k) ?_
          obtain ⟨_, _, ⟨T26, L26, k26, n26⟩, -, X26, ⟨Lc26, hQ26, l26, y26, z26⟩, st26⟩ := X25.specialBack hx (y := (⟨"com/example/planmend/planmend/pg/SelectBlock$ColumnReference", "<init>", "(IILcom/example/planmend/planmend/pg/FromItem$Leaf;Ljava/lang/String;)V"⟩ : MethodName)) rfl hown (mvT hZ (hw _ (List.mem_of_getElem? (i := 29) rfl))) (mvT hZ (hw _ (List.mem_of_getElem? (i := 30) rfl))) (mvT hZ (hw _ (List.mem_of_getElem? (i := 31) rfl))) (by decide) (backOf (W := 1) (rmCnn l Z a0 hw [] b25 i0 i1 (.int (0 : Int32)) (.int (0 : Int32)) .null .null h25 n0 (Nat.le_trans Z0 E25.1) A25 F25_token F25_qualifier F25_target F25_column g_b25) hZ (hw _ (List.mem_of_getElem? (i := 31) rfl)) (hw _ (List.mem_of_getElem? (i := 28) rfl)) (by decide) (by decide)) (g := (mkF m 87 #[.val (.int i0), .val (.int i1), .val (.int i2), .val (.int i3), .val (.int i4), .val (.int v3s0), .val (.int v17s0), .val .null, .val .null, .unset] [.null, .null, (.int i1), (.int i0), (.ref b25), (.ref b25)])) rfl (by rw [hml]; rfl) (Steps.refl _) (a := b25) (argsL := [(.int i0), (.int i1), .null, .null]) (rest := [(.ref b25)]) (lenOf own_pd8 rfl) rfl (by show 2 * 0 + _ ≤ _; exact Nat.le_of_eq rfl) (hb hby at_87) (fun _ _ => ⟨rfl, e25, (by decide : (0 + 1) + 0 ≤ _), (by decide : (0 + 4) + 0 ≤ _)⟩)
          dsimp only [Pt.U, Pt.locs, Pt.cells, Pt.slots] at X26 l26 y26 z26 st26 hQ26
          subst l26 y26 z26
          obtain ⟨rfl, Nq26, Kq26, f26_0, f26_1, f26_2, f26_3⟩ := hQ26
          have N26 := Fr.app N2 Nq26
          refine own_via (B := T26.setTop (mkF m 90 #[.val (.int i0), .val (.int i1), .val (.int i2), .val (.int i3), .val (.int i4), .val (.int v3s0), .val (.int v17s0), .val .null, .val .null, .unset] [(.ref b25)])) (fun t k => st26.trans k) ?_
          refine own_via (B := T26.setTop (mkF m 92 #[.val (.int i0), .val (.int i1), .val (.int i2), .val (.int i3), .val (.int i4), .val (.int v3s0), .val (.int v17s0), .val .null, .val .null, .val (.ref b25)] [])) (fun t k => XS.astore X26.here hx rfl (hb hby at_90) rfl rfl (l' := #[.val (.int i0), .val (.int i1), .val (.int i2), .val (.int i3), .val (.int i4), .val (.int v3s0), .val (.int v17s0), .val .null, .val .null, .val (.ref b25)]) rfl k) ?_
          refine own_via (B := T26.setTop (mkF m 94 #[.val (.int i0), .val (.int i1), .val (.int i2), .val (.int i3), .val (.int i4), .val (.int v3s0), .val (.int v17s0), .val .null, .val .null, .val (.ref b25)] [(.ref b25)])) (fun t k => XS.aload X26.here hx rfl (hb hby at_92) rfl rfl k) ?_
          obtain ⟨cq27, kq27, q27a, q27b, q27c⟩ := isOf hZ rfl (A25.keep Kq26)
          obtain ⟨_, _, ⟨T27, L27, k27, n27⟩, -, X27, ⟨Lc27, hQ27, l27, y27, z27⟩, st27⟩ := X26.virtualBack hx (y := (⟨"com/example/planmend/planmend/pg/SelectBlock$ColumnReference", "all", "()Z"⟩ : MethodName)) (z := (⟨"com/example/planmend/planmend/pg/SelectBlock$ColumnReference", "all", "()Z"⟩ : MethodName)) hown (mvT hZ (hw _ (List.mem_of_getElem? (i := 46) rfl))) (mvT hZ (hw _ (List.mem_of_getElem? (i := 47) rfl))) (notFace_of_selects (args := #[]) (mvT hZ (hw _ (List.mem_of_getElem? (i := 49) rfl)))) (mvT hZ (hw _ (List.mem_of_getElem? (i := 49) rfl))) (mvT hZ (hw _ (List.mem_of_getElem? (i := 48) rfl))) (by decide) (backOf (W := 0) (rmgalln l Z a0 hw [] b25 T26.heap n0 (Nat.le_trans (Nat.le_trans Z0 E25.1) Kq26.1) f26_3) hZ (hw _ (List.mem_of_getElem? (i := 50) rfl)) (hw _ (List.mem_of_getElem? (i := 28) rfl)) (by decide) (by decide)) q27a q27c (g := (mkF m 94 #[.val (.int i0), .val (.int i1), .val (.int i2), .val (.int i3), .val (.int i4), .val (.int v3s0), .val (.int v17s0), .val .null, .val .null, .val (.ref b25)] [(.ref b25)])) rfl (by rw [hml]; rfl) (Steps.refl _) (argsL := []) (rest := []) (lenOf own_pd9 rfl) rfl (by show 2 * 0 + _ ≤ _; exact Nat.le_of_eq rfl) (hb hby at_94) (fun _ _ => ⟨rfl, rfl, (by decide : ((0 + 1) + 0) + 0 ≤ _), (by decide : ((0 + 4) + 0) + 0 ≤ _)⟩)
          dsimp only [Pt.U, Pt.locs, Pt.cells, Pt.slots] at X27 l27 y27 z27 st27 hQ27
          subst l27 y27 z27
          obtain ⟨rfl, Nq27, eq27⟩ := hQ27
          have N27 := Fr.app N26 Nq27
          refine own_via (B := T27.setTop (mkF m 97 #[.val (.int i0), .val (.int i1), .val (.int i2), .val (.int i3), .val (.int i4), .val (.int v3s0), .val (.int v17s0), .val .null, .val .null, .val (.ref b25)] [(.int (1 : Int32))])) (fun t k => st27.trans k) ?_
          refine own_via (B := T27.setTop (mkF m 99 #[.val (.int i0), .val (.int i1), .val (.int i2), .val (.int i3), .val (.int i4), .val (.int v3s0), .val (.int v17s0), .val .null, .val .null, .val (.ref b25)] [(.int v3s0), (.int (1 : Int32))])) (fun t k => XS.iload X27.here hx rfl (hb hby at_97) rfl k) ?_
          refine own_bind (G := fun B => ∃ (T' : State) (L' : List Loc) (v99s0 : Int32), Fr n0 L' ∧ ((((1 : Int32) = v3s0) ∧ (i0 = i0) ∧ (i1 = i1) ∧ v99s0 = (1 : Int32)) ∨ (((1 : Int32) = v3s0) ∧ (i0 = i0) ∧ (¬ (i1 = i1)) ∧ v99s0 = (0 : Int32)) ∨ (((1 : Int32) = v3s0) ∧ (¬ (i0 = i0)) ∧ v99s0 = (0 : Int32)) ∨ ((¬ ((1 : Int32) = v3s0)) ∧ v99s0 = (0 : Int32))) ∧ B = T'.setTop (mkF m 145 #[.val (.int i0), .val (.int i1), .val (.int i2), .val (.int i3), .val (.int i4), .val (.int v3s0), .val (.int v17s0), .val .null, .val .null, .val (.ref b25)] [(.int v99s0)]) ∧ Stand p l e room_1 (s.setVm s.vm) m #[(.int i0), (.int i1), (.int i2), (.int i3), (.int i4)] below meth c T' L' 1 4 ∧ T'.heap = T26.heap) ?_ ?_
          · by_cases hc99 : (1 : Int32) = v3s0
            · refine own_via (B := T27.setTop (mkF m 102 #[.val (.int i0), .val (.int i1), .val (.int i2), .val (.int i3), .val (.int i4), .val (.int v3s0), .val (.int v17s0), .val .null, .val .null, .val (.ref b25)] [])) (fun t k => XS.icmpNo X27.here hx rfl (hb hby at_99) rfl (teq hc99).2 k) ?_
              refine own_via (B := T27.setTop (mkF m 104 #[.val (.int i0), .val (.int i1), .val (.int i2), .val (.int i3), .val (.int i4), .val (.int v3s0), .val (.int v17s0), .val .null, .val .null, .val (.ref b25)] [(.ref b25)])) (fun t k => XS.aload X27.here hx rfl (hb hby at_102) rfl rfl k) ?_
              obtain ⟨cq29, kq29, q29a, q29b, q29c⟩ := isOf hZ eq27 (A25.keep Kq26)
              obtain ⟨_, _, ⟨T29, L29, k29, n29⟩, -, X29, ⟨Lc29, hQ29, l29, y29, z29⟩, st29⟩ := X27.virtualBack hx (y := (⟨"com/example/planmend/planmend/pg/SelectBlock$ColumnReference", "token", "()I"⟩ : MethodName)) (z := (⟨"com/example/planmend/planmend/pg/SelectBlock$ColumnReference", "token", "()I"⟩ : MethodName)) hown (mvT hZ (hw _ (List.mem_of_getElem? (i := 51) rfl))) (mvT hZ (hw _ (List.mem_of_getElem? (i := 52) rfl))) (notFace_of_selects (args := #[]) (mvT hZ (hw _ (List.mem_of_getElem? (i := 54) rfl)))) (mvT hZ (hw _ (List.mem_of_getElem? (i := 54) rfl))) (mvT hZ (hw _ (List.mem_of_getElem? (i := 53) rfl))) (by decide) (backOf (W := 0) (rmgtoken l Z a0 hw [] b25 i0 T26.heap n0 (Nat.le_trans (Nat.le_trans Z0 E25.1) Kq26.1) f26_0) hZ (hw _ (List.mem_of_getElem? (i := 55) rfl)) (hw _ (List.mem_of_getElem? (i := 28) rfl)) (by decide) (by decide)) q29a q29c (g := (mkF m 104 #[.val (.int i0), .val (.int i1), .val (.int i2), .val (.int i3), .val (.int i4), .val (.int v3s0), .val (.int v17s0), .val .null, .val .null, .val (.ref b25)] [(.ref b25)])) rfl (by rw [hml]; rfl) (Steps.refl _) (argsL := []) (rest := []) (lenOf own_pd10 rfl) rfl (by show 2 * 0 + _ ≤ _; exact Nat.le_of_eq rfl) (hb hby at_104) (fun _ _ => ⟨rfl, eq27, (by decide : (((0 + 1) + 0) + 0) + 0 ≤ _), (by decide : (((0 + 4) + 0) + 0) + 0 ≤ _)⟩)
              dsimp only [Pt.U, Pt.locs, Pt.cells, Pt.slots] at X29 l29 y29 z29 st29 hQ29
              subst l29 y29 z29
              obtain ⟨rfl, Nq29, eq29⟩ := hQ29
              have N29 := Fr.app N27 Nq29
              refine own_via (B := T29.setTop (mkF m 107 #[.val (.int i0), .val (.int i1), .val (.int i2), .val (.int i3), .val (.int i4), .val (.int v3s0), .val (.int v17s0), .val .null, .val .null, .val (.ref b25)] [(.int i0)])) (fun t k => st29.trans k) ?_
              refine own_via (B := T29.setTop (mkF m 108 #[.val (.int i0), .val (.int i1), .val (.int i2), .val (.int i3), .val (.int i4), .val (.int v3s0), .val (.int v17s0), .val .null, .val .null, .val (.ref b25)] [(.int i0), (.int i0)])) (fun t k => XS.iloadN X29.here hx rfl (hb hby at_107) rfl k) ?_
              by_cases hc108 : i0 = i0
              · refine own_via (B := T29.setTop (mkF m 111 #[.val (.int i0), .val (.int i1), .val (.int i2), .val (.int i3), .val (.int i4), .val (.int v3s0), .val (.int v17s0), .val .null, .val .null, .val (.ref b25)] [])) (fun t k => XS.icmpNo X29.here hx rfl (hb hby at_108) rfl (teq hc108).2 k) ?_
                refine own_via (B := T29.setTop (mkF m 113 #[.val (.int i0), .val (.int i1), .val (.int i2), .val (.int i3), .val (.int i4), .val (.int v3s0), .val (.int v17s0), .val .null, .val .null, .val (.ref b25)] [(.ref b25)])) (fun t k => XS.aload X29.here hx rfl (hb hby at_111) rfl rfl k) ?_
                obtain ⟨cq30, kq30, q30a, q30b, q30c⟩ := isOf hZ eq29 (A25.keep Kq26)
                obtain ⟨_, _, ⟨T30, L30, k30, n30⟩, -, X30, ⟨Lc30, hQ30, l30, y30, z30⟩, st30⟩ := X29.virtualBack hx (y := (⟨"com/example/planmend/planmend/pg/SelectBlock$ColumnReference", "qualifier", "()I"⟩ : MethodName)) (z := (⟨"com/example/planmend/planmend/pg/SelectBlock$ColumnReference", "qualifier", "()I"⟩ : MethodName)) hown (mvT hZ (hw _ (List.mem_of_getElem? (i := 56) rfl))) (mvT hZ (hw _ (List.mem_of_getElem? (i := 57) rfl))) (notFace_of_selects (args := #[]) (mvT hZ (hw _ (List.mem_of_getElem? (i := 59) rfl)))) (mvT hZ (hw _ (List.mem_of_getElem? (i := 59) rfl))) (mvT hZ (hw _ (List.mem_of_getElem? (i := 58) rfl))) (by decide) (backOf (W := 0) (rmgqualifier l Z a0 hw [] b25 i1 T26.heap n0 (Nat.le_trans (Nat.le_trans Z0 E25.1) Kq26.1) f26_1) hZ (hw _ (List.mem_of_getElem? (i := 60) rfl)) (hw _ (List.mem_of_getElem? (i := 28) rfl)) (by decide) (by decide)) q30a q30c (g := (mkF m 113 #[.val (.int i0), .val (.int i1), .val (.int i2), .val (.int i3), .val (.int i4), .val (.int v3s0), .val (.int v17s0), .val .null, .val .null, .val (.ref b25)] [(.ref b25)])) rfl (by rw [hml]; rfl) (Steps.refl _) (argsL := []) (rest := []) (lenOf own_pd10 rfl) rfl (by show 2 * 0 + _ ≤ _; exact Nat.le_of_eq rfl) (hb hby at_113) (fun _ _ => ⟨rfl, eq29, (by decide : ((((0 + 1) + 0) + 0) + 0) + 0 ≤ _), (by decide : ((((0 + 4) + 0) + 0) + 0) + 0 ≤ _)⟩)
                dsimp only [Pt.U, Pt.locs, Pt.cells, Pt.slots] at X30 l30 y30 z30 st30 hQ30
                subst l30 y30 z30
                obtain ⟨rfl, Nq30, eq30⟩ := hQ30
                have N30 := Fr.app N29 Nq30
                refine own_via (B := T30.setTop (mkF m 116 #[.val (.int i0), .val (.int i1), .val (.int i2), .val (.int i3), .val (.int i4), .val (.int v3s0), .val (.int v17s0), .val .null, .val .null, .val (.ref b25)] [(.int i1)])) (fun t k => st30.trans k) ?_
                refine own_via (B := T30.setTop (mkF m 117 #[.val (.int i0), .val (.int i1), .val (.int i2), .val (.int i3), .val (.int i4), .val (.int v3s0), .val (.int v17s0), .val .null, .val .null, .val (.ref b25)] [(.int i1), (.int i1)])) (fun t k => XS.iloadN X30.here hx rfl (hb hby at_116) rfl k) ?_
                by_cases hc117 : i1 = i1
                · refine own_via (B := T30.setTop (mkF m 120 #[.val (.int i0), .val (.int i1), .val (.int i2), .val (.int i3), .val (.int i4), .val (.int v3s0), .val (.int v17s0), .val .null, .val .null, .val (.ref b25)] [])) (fun t k => XS.icmpNo X30.here hx rfl (hb hby at_117) rfl (teq hc117).2 k) ?_
                  refine own_via (B := T30.setTop (mkF m 122 #[.val (.int i0), .val (.int i1), .val (.int i2), .val (.int i3), .val (.int i4), .val (.int v3s0), .val (.int v17s0), .val .null, .val .null, .val (.ref b25)] [(.ref b25)])) (fun t k => XS.aload X30.here hx rfl (hb hby at_120) rfl rfl k) ?_
                  obtain ⟨cq31, kq31, q31a, q31b, q31c⟩ := isOf hZ eq30 (A25.keep Kq26)
                  obtain ⟨_, _, ⟨T31, L31, k31, n31⟩, -, X31, ⟨Lc31, hQ31, l31, y31, z31⟩, st31⟩ := X30.virtualBack hx (y := (⟨"com/example/planmend/planmend/pg/SelectBlock$ColumnReference", "target", "()Lcom/example/planmend/planmend/pg/FromItem$Leaf;"⟩ : MethodName)) (z := (⟨"com/example/planmend/planmend/pg/SelectBlock$ColumnReference", "target", "()Lcom/example/planmend/planmend/pg/FromItem$Leaf;"⟩ : MethodName)) hown (mvT hZ (hw _ (List.mem_of_getElem? (i := 61) rfl))) (mvT hZ (hw _ (List.mem_of_getElem? (i := 62) rfl))) (notFace_of_selects (args := #[]) (mvT hZ (hw _ (List.mem_of_getElem? (i := 64) rfl)))) (mvT hZ (hw _ (List.mem_of_getElem? (i := 64) rfl))) (mvT hZ (hw _ (List.mem_of_getElem? (i := 63) rfl))) (by decide) (backOf (W := 0) (rmgtargetn l Z a0 hw [] b25 T26.heap n0 (Nat.le_trans (Nat.le_trans Z0 E25.1) Kq26.1) f26_2) hZ (hw _ (List.mem_of_getElem? (i := 65) rfl)) (hw _ (List.mem_of_getElem? (i := 28) rfl)) (by decide) (by decide)) q31a q31c (g := (mkF m 122 #[.val (.int i0), .val (.int i1), .val (.int i2), .val (.int i3), .val (.int i4), .val (.int v3s0), .val (.int v17s0), .val .null, .val .null, .val (.ref b25)] [(.ref b25)])) rfl (by rw [hml]; rfl) (Steps.refl _) (argsL := []) (rest := []) (lenOf own_pd11 rfl) rfl (by show 2 * 0 + _ ≤ _; exact Nat.le_of_eq rfl) (hb hby at_122) (fun _ _ => ⟨rfl, eq30, (by decide : (((((0 + 1) + 0) + 0) + 0) + 0) + 0 ≤ _), (by decide : (((((0 + 4) + 0) + 0) + 0) + 0) + 0 ≤ _)⟩)
                  dsimp only [Pt.U, Pt.locs, Pt.cells, Pt.slots] at X31 l31 y31 z31 st31 hQ31
                  subst l31 y31 z31
                  obtain ⟨rfl, Nq31, eq31⟩ := hQ31
                  have N31 := Fr.app N30 Nq31
                  refine own_via (B := T31.setTop (mkF m 125 #[.val (.int i0), .val (.int i1), .val (.int i2), .val (.int i3), .val (.int i4), .val (.int v3s0), .val (.int v17s0), .val .null, .val .null, .val (.ref b25)] [.null])) (fun t k => st31.trans k) ?_
                  refine own_via (B := T31.setTop (mkF m 127 #[.val (.int i0), .val (.int i1), .val (.int i2), .val (.int i3), .val (.int i4), .val (.int v3s0), .val (.int v17s0), .val .null, .val .null, .val (.ref b25)] [.null, .null])) (fun t k => XS.aload X31.here hx rfl (hb hby at_125) rfl rfl k) ?_
                  have hc127 : (.null : Value) = (.null : Value) := rfl
                  refine own_via (B := T31.setTop (mkF m 130 #[.val (.int i0), .val (.int i1), .val (.int i2), .val (.int i3), .val (.int i4), .val (.int v3s0), .val (.int v17s0), .val .null, .val .null, .val (.ref b25)] [])) (fun t k => Jvm.RoadKit.acmp (g := (mkF m 127 #[.val (.int i0), .val (.int i1), .val (.int i2), .val (.int i3), .val (.int i4), .val (.int v3s0), .val (.int v17s0), .val .null, .val .null, .val (.ref b25)] [.null, .null])) X31 hx rfl rfl rfl (pc0 := 127) (pc' := 130) (same := true) rfl (hb hby at_127) rfl (decide_eq_true hc127) (by decide) (by decide) k) ?_
                  refine own_via (B := T31.setTop (mkF m 132 #[.val (.int i0), .val (.int i1), .val (.int i2), .val (.int i3), .val (.int i4), .val (.int v3s0), .val (.int v17s0), .val .null, .val .null, .val (.ref b25)] [(.ref b25)])) (fun t k => XS.aload X31.here hx rfl (hb hby at_130) rfl rfl k) ?_
                  obtain ⟨cq32, kq32, q32a, q32b, q32c⟩ := isOf hZ eq31 (A25.keep Kq26)
                  obtain ⟨_, _, ⟨T32, L32, k32, n32⟩, -, X32, ⟨Lc32, hQ32, l32, y32, z32⟩, st32⟩ := X31.virtualBack hx (y := (⟨"com/example/planmend/planmend/pg/SelectBlock$ColumnReference", "column", "()Ljava/lang/String;"⟩ : MethodName)) (z := (⟨"com/example/planmend/planmend/pg/SelectBlock$ColumnReference", "column", "()Ljava/lang/String;"⟩ : MethodName)) hown (mvT hZ (hw _ (List.mem_of_getElem? (i := 66) rfl))) (mvT hZ (hw _ (List.mem_of_getElem? (i := 67) rfl))) (notFace_of_selects (args := #[]) (mvT hZ (hw _ (List.mem_of_getElem? (i := 69) rfl)))) (mvT hZ (hw _ (List.mem_of_getElem? (i := 69) rfl))) (mvT hZ (hw _ (List.mem_of_getElem? (i := 68) rfl))) (by decide) (backOf (W := 0) (rmgcolumnn l Z a0 hw [] b25 T26.heap n0 (Nat.le_trans (Nat.le_trans Z0 E25.1) Kq26.1) f26_3) hZ (hw _ (List.mem_of_getElem? (i := 70) rfl)) (hw _ (List.mem_of_getElem? (i := 28) rfl)) (by decide) (by decide)) q32a q32c (g := (mkF m 132 #[.val (.int i0), .val (.int i1), .val (.int i2), .val (.int i3), .val (.int i4), .val (.int v3s0), .val (.int v17s0), .val .null, .val .null, .val (.ref b25)] [(.ref b25)])) rfl (by rw [hml]; rfl) (Steps.refl _) (argsL := []) (rest := []) (lenOf own_pd12 rfl) rfl (by show 2 * 0 + _ ≤ _; exact Nat.le_of_eq rfl) (hb hby at_132) (fun _ _ => ⟨rfl, eq31, (by decide : ((((((0 + 1) + 0) + 0) + 0) + 0) + 0) + 0 ≤ _), (by decide : ((((((0 + 4) + 0) + 0) + 0) + 0) + 0) + 0 ≤ _)⟩)
                  dsimp only [Pt.U, Pt.locs, Pt.cells, Pt.slots] at X32 l32 y32 z32 st32 hQ32
                  subst l32 y32 z32
                  obtain ⟨rfl, Nq32, eq32⟩ := hQ32
                  have N32 := Fr.app N31 Nq32
                  refine own_via (B := T32.setTop (mkF m 135 #[.val (.int i0), .val (.int i1), .val (.int i2), .val (.int i3), .val (.int i4), .val (.int v3s0), .val (.int v17s0), .val .null, .val .null, .val (.ref b25)] [.null])) (fun t k => st32.trans k) ?_
                  refine own_via (B := T32.setTop (mkF m 137 #[.val (.int i0), .val (.int i1), .val (.int i2), .val (.int i3), .val (.int i4), .val (.int v3s0), .val (.int v17s0), .val .null, .val .null, .val (.ref b25)] [.null, .null])) (fun t k => XS.aload X32.here hx rfl (hb hby at_135) rfl rfl k) ?_
                  have hc137 : (.null : Value) = (.null : Value) := rfl
                  refine own_via (B := T32.setTop (mkF m 140 #[.val (.int i0), .val (.int i1), .val (.int i2), .val (.int i3), .val (.int i4), .val (.int v3s0), .val (.int v17s0), .val .null, .val .null, .val (.ref b25)] [])) (fun t k => Jvm.RoadKit.acmp (g := (mkF m 137 #[.val (.int i0), .val (.int i1), .val (.int i2), .val (.int i3), .val (.int i4), .val (.int v3s0), .val (.int v17s0), .val .null, .val .null, .val (.ref b25)] [.null, .null])) X32 hx rfl rfl rfl (pc0 := 137) (pc' := 140) (same := true) rfl (hb hby at_137) rfl (decide_eq_true hc137) (by decide) (by decide) k) ?_
                  refine own_via (B := T32.setTop (mkF m 141 #[.val (.int i0), .val (.int i1), .val (.int i2), .val (.int i3), .val (.int i4), .val (.int v3s0), .val (.int v17s0), .val .null, .val .null, .val (.ref b25)] [(.int (1 : Int32))])) (fun t k => XS.iconst X32.here hx rfl (hb hby at_140) k) ?_
                  refine own_via (B := T32.setTop (mkF m 145 #[.val (.int i0), .val (.int i1), .val (.int i2), .val (.int i3), .val (.int i4), .val (.int v3s0), .val (.int v17s0), .val .null, .val .null, .val (.ref b25)] [(.int (1 : Int32))])) (fun t k => XS.goto X32.here hx rfl (pc0 := 141) (pc' := 145) rfl (hb hby at_141) (by decide) (by decide) k) ?_
                  exact own_done ⟨_, _, _, N32, (Or.inl ⟨hc99, hc108, hc117, rfl⟩), rfl, (X32.more (by decide) (by decide)), eq32⟩
                · refine own_via (B := T30.setTop (mkF m 144 #[.val (.int i0), .val (.int i1), .val (.int i2), .val (.int i3), .val (.int i4), .val (.int v3s0), .val (.int v17s0), .val .null, .val .null, .val (.ref b25)] [])) (fun t k => XS.icmpYes X30.here hx rfl (pc0 := 117) (pc' := 144) rfl (hb hby at_117) rfl (feq hc117).2 (by decide) (by decide) k) ?_
                  refine own_via (B := T30.setTop (mkF m 145 #[.val (.int i0), .val (.int i1), .val (.int i2), .val (.int i3), .val (.int i4), .val (.int v3s0), .val (.int v17s0), .val .null, .val .null, .val (.ref b25)] [(.int (0 : Int32))])) (fun t k => XS.iconst X30.here hx rfl (hb hby at_144) k) ?_
                  exact own_done ⟨_, _, _, N30, (Or.inr (Or.inl ⟨hc99, hc108, hc117, rfl⟩)), rfl, (X30.more (by decide) (by decide)), eq30⟩
              · refine own_via (B := T29.setTop (mkF m 144 #[.val (.int i0), .val (.int i1), .val (.int i2), .val (.int i3), .val (.int i4), .val (.int v3s0), .val (.int v17s0), .val .null, .val .null, .val (.ref b25)] [])) (fun t k => XS.icmpYes X29.here hx rfl (pc0 := 108) (pc' := 144) rfl (hb hby at_108) rfl (feq hc108).2 (by decide) (by decide) k) ?_
                refine own_via (B := T29.setTop (mkF m 145 #[.val (.int i0), .val (.int i1), .val (.int i2), .val (.int i3), .val (.int i4), .val (.int v3s0), .val (.int v17s0), .val .null, .val .null, .val (.ref b25)] [(.int (0 : Int32))])) (fun t k => XS.iconst X29.here hx rfl (hb hby at_144) k) ?_
                exact own_done ⟨_, _, _, N29, (Or.inr (Or.inr (Or.inl ⟨hc99, hc108, rfl⟩))), rfl, (X29.more (by decide) (by decide)), eq29⟩
            · refine own_via (B := T27.setTop (mkF m 144 #[.val (.int i0), .val (.int i1), .val (.int i2), .val (.int i3), .val (.int i4), .val (.int v3s0), .val (.int v17s0), .val .null, .val .null, .val (.ref b25)] [])) (fun t k => XS.icmpYes X27.here hx rfl (pc0 := 99) (pc' := 144) rfl (hb hby at_99) rfl (feq hc99).2 (by decide) (by decide) k) ?_
              refine own_via (B := T27.setTop (mkF m 145 #[.val (.int i0), .val (.int i1), .val (.int i2), .val (.int i3), .val (.int i4), .val (.int v3s0), .val (.int v17s0), .val .null, .val .null, .val (.ref b25)] [(.int (0 : Int32))])) (fun t k => XS.iconst X27.here hx rfl (hb hby at_144) k) ?_
              exact own_done ⟨_, _, _, N27, (Or.inr (Or.inr (Or.inr ⟨hc99, rfl⟩))), rfl, (X27.more (by decide) (by decide)), eq27⟩
          · rintro B ⟨T28, L28, v99s0, N28, hv99, rfl, X28, e28⟩
            refine own_leafW X28 hx hlk hS0 (by rw [e28]; exact (Nat.le_trans (Nat.le_trans hk0 E25.1) Kq26.1)) (t := .boolean) Bd.returns (own_b1 (by rcases hv99 with ⟨_, _, _, rfl⟩ | ⟨_, _, _, rfl⟩ | ⟨_, _, rfl⟩ | ⟨_, rfl⟩ <;> decide)) (Or.inl ⟨rfl, by simp, _, rfl⟩) (hb hby at_145) (by decide) (by decide) ?_
            show Q0 Z i0 i1 i2 i3 i4 zc wT h0 n0 _ T28.heap _
            rw [e28]
            refine ⟨?_, N28⟩
            have hA : (1 : Int32) = v3s0 := by
              rcases hv3 with ⟨_, h⟩ | ⟨_, h⟩
              · exact absurd h hc29
              · exact h.symm
            rcases hv99 with ⟨h0, h1, h2, rfl⟩ | ⟨h0, h1, h2, rfl⟩ | ⟨h0, h1, rfl⟩ | ⟨h0, rfl⟩
            · rfl
            · exact absurd rfl h2
            · exact absurd rfl h1
            · exact absurd hA h0
        · refine own_via (B := T2.setTop (mkF m 51 #[.val (.int i0), .val (.int i1), .val (.int i2), .val (.int i3), .val (.int i4), .val (.int v3s0), .val (.int v17s0), .val .null, .val .null, .unset] [])) (fun t k => XS.ifNo X2.here hx rfl (hb hby at_48) rfl ((if0 _ _).trans (feq hc48).1) k) ?_
          obtain ⟨T33, h33, X33, e33, E33, A33, D33, -, st33⟩ := newO X2 hx hZ hown (hw _ (List.mem_of_getElem? (i := 71) rfl)) (hw _ (List.mem_of_getElem? (i := 72) rfl)) (hw _ (List.mem_of_getElem? (i := 73) rfl)) e2 (g := (mkF m 51 #[.val (.int i0), .val (.int i1), .val (.int i2), .val (.int i3), .val (.int i4), .val (.int v3s0), .val (.int v17s0), .val .null, .val .null, .unset] [])) rfl (hb hby at_51) (by decide) (by decide)
          obtain ⟨b33, g33⟩ : ∃ z, z = h0.size := ⟨_, rfl⟩
          rw [← g33] at A33 D33 st33
          have g_b33 : n0 ≤ b33 := Nat.le_trans Z0 (Nat.le_of_eq g33.symm)
          have F33_source : Fld Z h33 b33 "com/example/planmend/planmend/pg/FromItem$Leaf" "source" "Lcom/example/planmend/planmend/pg/FromItem$Source;" .null := D33 (Or.inr (hw _ (List.mem_of_getElem? (i := 83) rfl))) (ty := (.object "com/example/planmend/planmend/pg/FromItem$Source")) (by decide)
          have F33_name : Fld Z h33 b33 "com/example/planmend/planmend/pg/FromItem$Leaf" "name" "Ljava/lang/String;" .null := D33 (Or.inr (hw _ (List.mem_of_getElem? (i := 85) rfl))) (ty := (.object "java/lang/String")) (by decide)
          have F33_qualifier : Fld Z h33 b33 "com/example/planmend/planmend/pg/FromItem$Leaf" "qualifier" "Ljava/lang/String;" .null := D33 (Or.inr (hw _ (List.mem_of_getElem? (i := 87) rfl))) (ty := (.object "java/lang/String")) (by decide)
          have F33_start : Fld Z h33 b33 "com/example/planmend/planmend/pg/FromItem$Leaf" "start" "I" (.int (0 : Int32)) := D33 (Or.inr (hw _ (List.mem_of_getElem? (i := 89) rfl))) (ty := .int) (by decide)
          have F33_end : Fld Z h33 b33 "com/example/planmend/planmend/pg/FromItem$Leaf" "end" "I" (.int (0 : Int32)) := D33 (Or.inr (hw _ (List.mem_of_getElem? (i := 91) rfl))) (ty := .int) (by decide)
          have F33_nameStart : Fld Z h33 b33 "com/example/planmend/planmend/pg/FromItem$Leaf" "nameStart" "I" (.int (0 : Int32)) := D33 (Or.inr (hw _ (List.mem_of_getElem? (i := 93) rfl))) (ty := .int) (by decide)
          have F33_nameEnd : Fld Z h33 b33 "com/example/planmend/planmend/pg/FromItem$Leaf" "nameEnd" "I" (.int (0 : Int32)) := D33 (Or.inr (hw _ (List.mem_of_getElem? (i := 95) rfl))) (ty := .int) (by decide)
          have F33_qualifierToken : Fld Z h33 b33 "com/example/planmend/planmend/pg/FromItem$Leaf" "qualifierToken" "I" (.int (0 : Int32)) := D33 (Or.inr (hw _ (List.mem_of_getElem? (i := 97) rfl))) (ty := .int) (by decide)
          have F33_columns : Fld Z h33 b33 "com/example/planmend/planmend/pg/FromItem$Leaf" "columns" "Ljava/util/List;" .null := D33 (Or.inr (hw _ (List.mem_of_getElem? (i := 99) rfl))) (ty := (.object "java/util/List")) (by decide)
          have F33_withQuery : Fld Z h33 b33 "com/example/planmend/planmend/pg/FromItem$Leaf" "withQuery" "Lcom/example/planmend/planmend/pg/WithQuery;" .null := D33 (Or.inr (hw _ (List.mem_of_getElem? (i := 101) rfl))) (ty := (.object "com/example/planmend/planmend/pg/WithQuery")) (by decide)
          refine own_via (B := T33.setTop (mkF m 54 #[.val (.int i0), .val (.int i1), .val (.int i2), .val (.int i3), .val (.int i4), .val (.int v3s0), .val (.int v17s0), .val .null, .val .null, .unset] [(.ref b33)])) (fun t k => st33 t k) ?_
          refine own_via (B := T33.setTop (mkF m 55 #[.val (.int i0), .val (.int i1), .val (.int i2), .val (.int i3), .val (.int i4), .val (.int v3s0), .val (.int v17s0), .val .null, .val .null, .unset] [(.ref b33), (.ref b33)])) (fun t k => XS.dup X33.here hx rfl (hb hby at_54) rfl rfl k) ?_
          obtain ⟨T34, X34, e34, st34⟩ := getS2 X33 hx hZ hown (host := "") (Or.inl (hw _ (List.mem_of_getElem? (i := 74) rfl))) Via.refl e33 (ST9.ext (O0.ext E33).2) (g := (mkF m 55 #[.val (.int i0), .val (.int i1), .val (.int i2), .val (.int i3), .val (.int i4), .val (.int v3s0), .val (.int v17s0), .val .null, .val .null, .unset] [(.ref b33), (.ref b33)])) rfl (hb hby at_55)
          refine own_via (B := T34.setTop (mkF m 58 #[.val (.int i0), .val (.int i1), .val (.int i2), .val (.int i3), .val (.int i4), .val (.int v3s0), .val (.int v17s0), .val .null, .val .null, .unset] [(.ref wT), (.ref b33), (.ref b33)])) (fun t k => st34 t k) ?_
          obtain ⟨c35, T35, h35, k35, X35, e35, E35, hS35, hk35, hZ, hown, st35⟩ := ldcS X34 hx hZ hown (hw _ (List.mem_of_getElem? (i := 77) rfl)) wS e34 hS0 (Nat.le_trans hk0 E33.1) (g := (mkF m 58 #[.val (.int i0), .val (.int i1), .val (.int i2), .val (.int i3), .val (.int i4), .val (.int v3s0), .val (.int v17s0), .val .null, .val .null, .unset] [(.ref wT), (.ref b33), (.ref b33)])) rfl (hb hby at_58) (n := 4) (by decide) (by decide) (by decide) (by decide)
          refine own_via (B := T35.setTop (mkF m 60 #[.val (.int i0), .val (.int i1), .val (.int i2), .val (.int i3), .val (.int i4), .val (.int v3s0), .val (.int v17s0), .val .null, .val .null, .unset] [(.ref c35), (.ref wT), (.ref b33), (.ref b33)])) (fun t k => st35 t k) ?_
          obtain ⟨c36, T36, h36, k36, X36, e36, E36, hS36, hk36, hZ, hown, st36⟩ := ldcS X35 hx hZ hown (hw _ (List.mem_of_getElem? (i := 77) rfl)) wS e35 hS35 hk35 (g := (mkF m 60 #[.val (.int i0), .val (.int i1), .val (.int i2), .val (.int i3), .val (.int i4), .val (.int v3s0), .val (.int v17s0), .val .null, .val .null, .unset] [(.ref c35), (.ref wT), (.ref b33), (.ref b33)])) rfl (hb hby at_60) (n := 4) (by decide) (by decide) (by decide) (by decide)
          refine own_via (B := T36.setTop (mkF m 62 #[.val (.int i0), .val (.int i1), .val (.int i2), .val (.int i3), .val (.int i4), .val (.int v3s0), .val (.int v17s0), .val .null, .val .null, .unset] [(.ref c36), (.ref c35), (.ref wT), (.ref b33), (.ref b33)])) (fun t k => st36 t k) ?_
          refine own_via (B := T36.setTop (mkF m 64 #[.val (.int i0), .val (.int i1), .val (.int i2), .val (.int i3), .val (.int i4), .val (.int v3s0), .val (.int v17s0), .val .null, .val .null, .unset] [(.int i4), (.ref c36), (.ref c35), (.ref wT), (.ref b33), (.ref b33)])) (fun t k => XS.iload X36.here hx rfl (hb hby at_62) rfl k) ?_
          refine own_via (B := T36.setTop (mkF m 66 #[.val (.int i0), .val (.int i1), .val (.int i2), .val (.int i3), .val (.int i4), .val (.int v3s0), .val (.int v17s0), .val .null, .val .null, .unset] [(.int i4), (.int i4), (.ref c36), (.ref c35), (.ref wT), (.ref b33), (.ref b33)])) (fun t k => XS.iload X36.here hx rfl (hb hby at_64) rfl k) ?_
          refine own_via (B := T36.setTop (mkF m 67 #[.val (.int i0), .val (.int i1), .val (.int i2), .val (.int i3), .val (.int i4), .val (.int v3s0), .val (.int v17s0), .val .null, .val .null, .unset] [(.int (-1 : Int32)), (.int i4), (.int i4), (.ref c36), (.ref c35), (.ref wT), (.ref b33), (.ref b33)])) (fun t k => XS.iconst X36.here hx rfl (hb hby at_66) k) ?_
          refine own_via (B := T36.setTop (mkF m 68 #[.val (.int i0), .val (.int i1), .val (.int i2), .val (.int i3), .val (.int i4), .val (.int v3s0), .val (.int v17s0), .val .null, .val .null, .unset] [(.int (-1 : Int32)), (.int (-1 : Int32)), (.int i4), (.int i4), (.ref c36), (.ref c35), (.ref wT), (.ref b33), (.ref b33)])) (fun t k => XS.iconst X36.here hx rfl (hb hby at_67) k) ?_
          refine own_via (B := T36.setTop (mkF m 70 #[.val (.int i0), .val (.int i1), .val (.int i2), .val (.int i3), .val (.int i4), .val (.int v3s0), .val (.int v17s0), .val .null, .val .null, .unset] [(.int i4), (.int (-1 : Int32)), (.int (-1 : Int32)), (.int i4), (.int i4), (.ref c36), (.ref c35), (.ref wT), (.ref b33), (.ref b33)])) (fun t k => XS.iload X36.here hx rfl (hb hby at_68) rfl k) ?_
          refine own_via (B := T36.setTop (mkF m 71 #[.val (.int i0), .val (.int i1), .val (.int i2), .val (.int i3), .val (.int i4), .val (.int v3s0), .val (.int v17s0), .val .null, .val .null, .unset] [.null, (.int i4), (.int (-1 : Int32)), (.int (-1 : Int32)), (.int i4), (.int i4), (.ref c36), (.ref c35), (.ref wT), (.ref b33), (.ref b33)])) (fun t k => XS.aconstNull X36.here hx rfl (hb hby at_70) k) ?_
          refine own_via (B := T36.setTop (mkF m 72 #[.val (.int i0), .val (.int i1), .val (.int i2), .val (.int i3), .val (.int i4), .val (.int v3s0), .val (.int v17s0), .val .null, .val .null, .unset] [.null, .null, (.int i4), (.int (-1 : Int32)), (.int (-1 : Int32)), (.int i4), (.int i4), (.ref c36), (.ref c35), (.ref wT), (.ref b33), (.ref b33)])) (fun t k => XS.aconstNull X36.here hx rfl (hb hby at_71) k) ?_
          obtain ⟨_, _, ⟨T37, L37, k37, n37⟩, -, X37, ⟨Lc37, hQ37, l37, y37, z37⟩, st37⟩ := X36.specialBack hx (y := (⟨"com/example/planmend/planmend/pg/FromItem$Leaf", "<init>", "(Lcom/example/planmend/planmend/pg/FromItem$Source;Ljava/lang/String;Ljava/lang/String;IIIIILjava/util/List;Lcom/example/planmend/planmend/pg/WithQuery;)V"⟩ : MethodName)) rfl hown (mvT hZ (hw _ (List.mem_of_getElem? (i := 78) rfl))) (mvT hZ (hw _ (List.mem_of_getElem? (i := 79) rfl))) (mvT hZ (hw _ (List.mem_of_getElem? (i := 80) rfl))) (by decide) (backOf (W := 1) (rmL l Z a0 hw [] b33 wT c35 c36 i4 i4 (-1 : Int32) (-1 : Int32) i4 .null .null .null (.int (0 : Int32)) (.int (0 : Int32)) (.int (0 : Int32)) (.int (0 : Int32)) (.int (0 : Int32)) .null .null h36 n0 (Nat.le_trans (Nat.le_trans (Nat.le_trans Z0 E33.1) E35.1) E36.1) ((A33.ext E35).ext E36) ((F33_source.ext E35).ext E36) ((F33_name.ext E35).ext E36) ((F33_qualifier.ext E35).ext E36) ((F33_start.ext E35).ext E36) ((F33_end.ext E35).ext E36) ((F33_nameStart.ext E35).ext E36) ((F33_nameEnd.ext E35).ext E36) ((F33_qualifierToken.ext E35).ext E36) ((F33_columns.ext E35).ext E36) ((F33_withQuery.ext E35).ext E36) g_b33) hZ (hw _ (List.mem_of_getElem? (i := 80) rfl)) (hw _ (List.mem_of_getElem? (i := 73) rfl)) (by decide) (by decide)) (g := (mkF m 72 #[.val (.int i0), .val (.int i1), .val (.int i2), .val (.int i3), .val (.int i4), .val (.int v3s0), .val (.int v17s0), .val .null, .val .null, .unset] [.null, .null, (.int i4), (.int (-1 : Int32)), (.int (-1 : Int32)), (.int i4), (.int i4), (.ref c36), (.ref c35), (.ref wT), (.ref b33), (.ref b33)])) rfl (by rw [hml]; rfl) (Steps.refl _) (a := b33) (argsL := [(.ref wT), (.ref c35), (.ref c36), (.int i4), (.int i4), (.int (-1 : Int32)), (.int (-1 : Int32)), (.int i4), .null, .null]) (rest := [(.ref b33)]) (lenOf own_pd13 rfl) rfl (by show 2 * 0 + _ ≤ _; exact Nat.le_of_eq rfl) (hb hby at_72) (fun _ _ => ⟨rfl, e36, (by decide : (((0 + 1) + 2) + 2) + 0 ≤ _), (by decide : (((0 + 10) + (4 + 4)) + (4 + 4)) + 0 ≤ _)⟩)
          dsimp only [Pt.U, Pt.locs, Pt.cells, Pt.slots] at X37 l37 y37 z37 st37 hQ37
          subst l37 y37 z37
          obtain ⟨rfl, Nq37, Kq37⟩ := hQ37
          have N37 := Fr.app N2 Nq37
          refine own_via (B := T37.setTop (mkF m 75 #[.val (.int i0), .val (.int i1), .val (.int i2), .val (.int i3), .val (.int i4), .val (.int v3s0), .val (.int v17s0), .val .null, .val .null, .unset] [(.ref b33)])) (fun t k => st37.trans k) ?_
          refine own_via (B := T37.setTop (mkF m 77 #[.val (.int i0), .val (.int i1), .val (.int i2), .val (.int i3), .val (.int i4), .val (.int v3s0), .val (.int v17s0), .val .null, .val (.ref b33), .unset] [])) (fun t k => XS.astore X37.here hx rfl (hb hby at_75) rfl rfl (l' := #[.val (.int i0), .val (.int i1), .val (.int i2), .val (.int i3), .val (.int i4), .val (.int v3s0), .val (.int v17s0), .val .null, .val (.ref b33), .unset]) rfl k) ?_
          obtain ⟨T38, h38, X38, e38, E38, A38, D38, -, st38⟩ := newO X37 hx hZ hown (hw _ (List.mem_of_getElem? (i := 26) rfl)) (hw _ (List.mem_of_getElem? (i := 27) rfl)) (hw _ (List.mem_of_getElem? (i := 28) rfl)) rfl (g := (mkF m 77 #[.val (.int i0), .val (.int i1), .val (.int i2), .val (.int i3), .val (.int i4), .val (.int v3s0), .val (.int v17s0), .val .null, .val (.ref b33), .unset] [])) rfl (hb hby at_77) (by decide) (by decide)
          obtain ⟨b38, g38⟩ : ∃ z, z = T37.heap.size := ⟨_, rfl⟩
          rw [← g38] at A38 D38 st38
          have g_b38 : n0 ≤ b38 := Nat.le_trans (Nat.le_trans (Nat.le_trans (Nat.le_trans (Nat.le_trans Z0 E33.1) E35.1) E36.1) Kq37.1) (Nat.le_of_eq g38.symm)
          have F38_token : Fld Z h38 b38 "com/example/planmend/planmend/pg/SelectBlock$ColumnReference" "token" "I" (.int (0 : Int32)) := D38 (Or.inr (hw _ (List.mem_of_getElem? (i := 39) rfl))) (ty := .int) (by decide)
          have F38_qualifier : Fld Z h38 b38 "com/example/planmend/planmend/pg/SelectBlock$ColumnReference" "qualifier" "I" (.int (0 : Int32)) := D38 (Or.inr (hw _ (List.mem_of_getElem? (i := 41) rfl))) (ty := .int) (by decide)
          have F38_target : Fld Z h38 b38 "com/example/planmend/planmend/pg/SelectBlock$ColumnReference" "target" "Lcom/example/planmend/planmend/pg/FromItem$Leaf;" .null := D38 (Or.inr (hw _ (List.mem_of_getElem? (i := 43) rfl))) (ty := (.object "com/example/planmend/planmend/pg/FromItem$Leaf")) (by decide)
          have F38_column : Fld Z h38 b38 "com/example/planmend/planmend/pg/SelectBlock$ColumnReference" "column" "Ljava/lang/String;" .null := D38 (Or.inr (hw _ (List.mem_of_getElem? (i := 45) rfl))) (ty := (.object "java/lang/String")) (by decide)
          refine own_via (B := T38.setTop (mkF m 80 #[.val (.int i0), .val (.int i1), .val (.int i2), .val (.int i3), .val (.int i4), .val (.int v3s0), .val (.int v17s0), .val .null, .val (.ref b33), .unset] [(.ref b38)])) (fun t k => st38 t k) ?_
          refine own_via (B := T38.setTop (mkF m 81 #[.val (.int i0), .val (.int i1), .val (.int i2), .val (.int i3), .val (.int i4), .val (.int v3s0), .val (.int v17s0), .val .null, .val (.ref b33), .unset] [(.ref b38), (.ref b38)])) (fun t k => XS.dup X38.here hx rfl (hb hby at_80) rfl rfl k) ?_
          refine own_via (B := T38.setTop (mkF m 82 #[.val (.int i0), .val (.int i1), .val (.int i2), .val (.int i3), .val (.int i4), .val (.int v3s0), .val (.int v17s0), .val .null, .val (.ref b33), .unset] [(.int i0), (.ref b38), (.ref b38)])) (fun t k => XS.iloadN X38.here hx rfl (hb hby at_81) rfl k) ?_
          refine own_via (B := T38.setTop (mkF m 83 #[.val (.int i0), .val (.int i1), .val (.int i2), .val (.int i3), .val (.int i4), .val (.int v3s0), .val (.int v17s0), .val .null, .val (.ref b33), .unset] [(.int i1), (.int i0), (.ref b38), (.ref b38)])) (fun t k => XS.iloadN X38.here hx rfl (hb hby at_82) rfl k) ?_
          refine own_via (B := T38.setTop (mkF m 85 #[.val (.int i0), .val (.int i1), .val (.int i2), .val (.int i3), .val (.int i4), .val (.int v3s0), .val (.int v17s0), .val .null, .val (.ref b33), .unset] [(.ref b33), (.int i1), (.int i0), (.ref b38), (.ref b38)])) (fun t k => XS.aload X38.here hx rfl (hb hby at_83) rfl rfl k) ?_
          refine own_via (B := T38.setTop (mkF m 87 #[.val (.int i0), .val (.int i1), .val (.int i2), .val (.int i3), .val (.int i4), .val (.int v3s0), .val (.int v17s0), .val .null, .val (.ref b33), .unset] [.null, (.ref b33), (.int i1), (.int i0), (.ref b38), (.ref b38)])) (fun t k => XS.aload X38.here hx rfl (hb hby at_85) rfl rfl k) ?_
          obtain ⟨_, _, ⟨T39, L39, k39, n39⟩, -, X39, ⟨Lc39, hQ39, l39, y39, z39⟩, st39⟩ := X38.specialBack hx (y := (⟨"com/example/planmend/planmend/pg/SelectBlock$ColumnReference", "<init>", "(IILcom/example/planmend/planmend/pg/FromItem$Leaf;Ljava/lang/String;)V"⟩ : MethodName)) rfl hown (mvT hZ (hw _ (List.mem_of_getElem? (i := 29) rfl))) (mvT hZ (hw _ (List.mem_of_getElem? (i := 30) rfl))) (mvT hZ (hw _ (List.mem_of_getElem? (i := 31) rfl))) (by decide) (backOf (W := 1) (rmCrn l Z a0 hw [] b38 i0 i1 b33 (.int (0 : Int32)) (.int (0 : Int32)) .null .null h38 n0 (Nat.le_trans (Nat.le_trans (Nat.le_trans (Nat.le_trans (Nat.le_trans Z0 E33.1) E35.1) E36.1) Kq37.1) E38.1) A38 F38_token F38_qualifier F38_target F38_column g_b38) hZ (hw _ (List.mem_of_getElem? (i := 31) rfl)) (hw _ (List.mem_of_getElem? (i := 28) rfl)) (by decide) (by decide)) (g := (mkF m 87 #[.val (.int i0), .val (.int i1), .val (.int i2), .val (.int i3), .val (.int i4), .val (.int v3s0), .val (.int v17s0), .val .null, .val (.ref b33), .unset] [.null, (.ref b33), (.int i1), (.int i0), (.ref b38), (.ref b38)])) rfl (by rw [hml]; rfl) (Steps.refl _) (a := b38) (argsL := [(.int i0), (.int i1), (.ref b33), .null]) (rest := [(.ref b38)]) (lenOf own_pd8 rfl) rfl (by show 2 * 0 + _ ≤ _; exact Nat.le_of_eq rfl) (hb hby at_87) (fun _ _ => ⟨rfl, e38, (by decide : (((((0 + 1) + 2) + 2) + 0) + 1) + 0 ≤ _), (by decide : (((((0 + 10) + (4 + 4)) + (4 + 4)) + 0) + 4) + 0 ≤ _)⟩)
          dsimp only [Pt.U, Pt.locs, Pt.cells, Pt.slots] at X39 l39 y39 z39 st39 hQ39
          subst l39 y39 z39
          obtain ⟨rfl, Nq39, Kq39, f39_0, f39_1, f39_2, f39_3⟩ := hQ39
          have N39 := Fr.app N37 Nq39
          refine own_via (B := T39.setTop (mkF m 90 #[.val (.int i0), .val (.int i1), .val (.int i2), .val (.int i3), .val (.int i4), .val (.int v3s0), .val (.int v17s0), .val .null, .val (.ref b33), .unset] [(.ref b38)])) (fun t k => st39.trans k) ?_
          refine own_via (B := T39.setTop (mkF m 92 #[.val (.int i0), .val (.int i1), .val (.int i2), .val (.int i3), .val (.int i4), .val (.int v3s0), .val (.int v17s0), .val .null, .val (.ref b33), .val (.ref b38)] [])) (fun t k => XS.astore X39.here hx rfl (hb hby at_90) rfl rfl (l' := #[.val (.int i0), .val (.int i1), .val (.int i2), .val (.int i3), .val (.int i4), .val (.int v3s0), .val (.int v17s0), .val .null, .val (.ref b33), .val (.ref b38)]) rfl k) ?_
          refine own_via (B := T39.setTop (mkF m 94 #[.val (.int i0), .val (.int i1), .val (.int i2), .val (.int i3), .val (.int i4), .val (.int v3s0), .val (.int v17s0), .val .null, .val (.ref b33), .val (.ref b38)] [(.ref b38)])) (fun t k => XS.aload X39.here hx rfl (hb hby at_92) rfl rfl k) ?_
          obtain ⟨cq40, kq40, q40a, q40b, q40c⟩ := isOf hZ rfl (A38.keep Kq39)
          obtain ⟨_, _, ⟨T40, L40, k40, n40⟩, -, X40, ⟨Lc40, hQ40, l40, y40, z40⟩, st40⟩ := X39.virtualBack hx (y := (⟨"com/example/planmend/planmend/pg/SelectBlock$ColumnReference", "all", "()Z"⟩ : MethodName)) (z := (⟨"com/example/planmend/planmend/pg/SelectBlock$ColumnReference", "all", "()Z"⟩ : MethodName)) hown (mvT hZ (hw _ (List.mem_of_getElem? (i := 46) rfl))) (mvT hZ (hw _ (List.mem_of_getElem? (i := 47) rfl))) (notFace_of_selects (args := #[]) (mvT hZ (hw _ (List.mem_of_getElem? (i := 49) rfl)))) (mvT hZ (hw _ (List.mem_of_getElem? (i := 49) rfl))) (mvT hZ (hw _ (List.mem_of_getElem? (i := 48) rfl))) (by decide) (backOf (W := 0) (rmgalln l Z a0 hw [] b38 T39.heap n0 (Nat.le_trans (Nat.le_trans (Nat.le_trans (Nat.le_trans (Nat.le_trans (Nat.le_trans Z0 E33.1) E35.1) E36.1) Kq37.1) E38.1) Kq39.1) f39_3) hZ (hw _ (List.mem_of_getElem? (i := 50) rfl)) (hw _ (List.mem_of_getElem? (i := 28) rfl)) (by decide) (by decide)) q40a q40c (g := (mkF m 94 #[.val (.int i0), .val (.int i1), .val (.int i2), .val (.int i3), .val (.int i4), .val (.int v3s0), .val (.int v17s0), .val .null, .val (.ref b33), .val (.ref b38)] [(.ref b38)])) rfl (by rw [hml]; rfl) (Steps.refl _) (argsL := []) (rest := []) (lenOf own_pd9 rfl) rfl (by show 2 * 0 + _ ≤ _; exact Nat.le_of_eq rfl) (hb hby at_94) (fun _ _ => ⟨rfl, rfl, (by decide : ((((((0 + 1) + 2) + 2) + 0) + 1) + 0) + 0 ≤ _), (by decide : ((((((0 + 10) + (4 + 4)) + (4 + 4)) + 0) + 4) + 0) + 0 ≤ _)⟩)
          dsimp only [Pt.U, Pt.locs, Pt.cells, Pt.slots] at X40 l40 y40 z40 st40 hQ40
          subst l40 y40 z40
          obtain ⟨rfl, Nq40, eq40⟩ := hQ40
          have N40 := Fr.app N39 Nq40
          refine own_via (B := T40.setTop (mkF m 97 #[.val (.int i0), .val (.int i1), .val (.int i2), .val (.int i3), .val (.int i4), .val (.int v3s0), .val (.int v17s0), .val .null, .val (.ref b33), .val (.ref b38)] [(.int (1 : Int32))])) (fun t k => st40.trans k) ?_
          refine own_via (B := T40.setTop (mkF m 99 #[.val (.int i0), .val (.int i1), .val (.int i2), .val (.int i3), .val (.int i4), .val (.int v3s0), .val (.int v17s0), .val .null, .val (.ref b33), .val (.ref b38)] [(.int v3s0), (.int (1 : Int32))])) (fun t k => XS.iload X40.here hx rfl (hb hby at_97) rfl k) ?_
          refine own_bind (G := fun B => ∃ (T' : State) (L' : List Loc) (v99s0 : Int32), Fr n0 L' ∧ ((((1 : Int32) = v3s0) ∧ (i0 = i0) ∧ (i1 = i1) ∧ (b33 = b33) ∧ v99s0 = (1 : Int32)) ∨ (((1 : Int32) = v3s0) ∧ (i0 = i0) ∧ (i1 = i1) ∧ (¬ (b33 = b33)) ∧ v99s0 = (0 : Int32)) ∨ (((1 : Int32) = v3s0) ∧ (i0 = i0) ∧ (¬ (i1 = i1)) ∧ v99s0 = (0 : Int32)) ∨ (((1 : Int32) = v3s0) ∧ (¬ (i0 = i0)) ∧ v99s0 = (0 : Int32)) ∨ ((¬ ((1 : Int32) = v3s0)) ∧ v99s0 = (0 : Int32))) ∧ B = T'.setTop (mkF m 145 #[.val (.int i0), .val (.int i1), .val (.int i2), .val (.int i3), .val (.int i4), .val (.int v3s0), .val (.int v17s0), .val .null, .val (.ref b33), .val (.ref b38)] [(.int v99s0)]) ∧ Stand p l e room_1 (s.setVm T36.vm) m #[(.int i0), (.int i1), (.int i2), (.int i3), (.int i4)] below meth c T' L' 6 30 ∧ T'.heap = T39.heap) ?_ ?_
          · by_cases hc99 : (1 : Int32) = v3s0
            · refine own_via (B := T40.setTop (mkF m 102 #[.val (.int i0), .val (.int i1), .val (.int i2), .val (.int i3), .val (.int i4), .val (.int v3s0), .val (.int v17s0), .val .null, .val (.ref b33), .val (.ref b38)] [])) (fun t k => XS.icmpNo X40.here hx rfl (hb hby at_99) rfl (teq hc99).2 k) ?_
              refine own_via (B := T40.setTop (mkF m 104 #[.val (.int i0), .val (.int i1), .val (.int i2), .val (.int i3), .val (.int i4), .val (.int v3s0), .val (.int v17s0), .val .null, .val (.ref b33), .val (.ref b38)] [(.ref b38)])) (fun t k => XS.aload X40.here hx rfl (hb hby at_102) rfl rfl k) ?_
              obtain ⟨cq42, kq42, q42a, q42b, q42c⟩ := isOf hZ eq40 (A38.keep Kq39)
              obtain ⟨_, _, ⟨T42, L42, k42, n42⟩, -, X42, ⟨Lc42, hQ42, l42, y42, z42⟩, st42⟩ := X40.virtualBack hx (y := (⟨"com/example/planmend/planmend/pg/SelectBlock$ColumnReference", "token", "()I"⟩ : MethodName)) (z := (⟨"com/example/planmend/planmend/pg/SelectBlock$ColumnReference", "token", "()I"⟩ : MethodName)) hown (mvT hZ (hw _ (List.mem_of_getElem? (i := 51) rfl))) (mvT hZ (hw _ (List.mem_of_getElem? (i := 52) rfl))) (notFace_of_selects (args := #[]) (mvT hZ (hw _ (List.mem_of_getElem? (i := 54) rfl)))) (mvT hZ (hw _ (List.mem_of_getElem? (i := 54) rfl))) (mvT hZ (hw _ (List.mem_of_getElem? (i := 53) rfl))) (by decide) (backOf (W := 0) (rmgtoken l Z a0 hw [] b38 i0 T39.heap n0 (Nat.le_trans (Nat.le_trans (Nat.le_trans (Nat.le_trans (Nat.le_trans (Nat.le_trans Z0 E33.1) E35.1) E36.1) Kq37.1) E38.1) Kq39.1) f39_0) hZ (hw _ (List.mem_of_getElem? (i := 55) rfl)) (hw _ (List.mem_of_getElem? (i := 28) rfl)) (by decide) (by decide)) q42a q42c (g := (mkF m 104 #[.val (.int i0), .val (.int i1), .val (.int i2), .val (.int i3), .val (.int i4), .val (.int v3s0), .val (.int v17s0), .val .null, .val (.ref b33), .val (.ref b38)] [(.ref b38)])) rfl (by rw [hml]; rfl) (Steps.refl _) (argsL := []) (rest := []) (lenOf own_pd10 rfl) rfl (by show 2 * 0 + _ ≤ _; exact Nat.le_of_eq rfl) (hb hby at_104) (fun _ _ => ⟨rfl, eq40, (by decide : (((((((0 + 1) + 2) + 2) + 0) + 1) + 0) + 0) + 0 ≤ _), (by decide : (((((((0 + 10) + (4 + 4)) + (4 + 4)) + 0) + 4) + 0) + 0) + 0 ≤ _)⟩)
              dsimp only [Pt.U, Pt.locs, Pt.cells, Pt.slots] at X42 l42 y42 z42 st42 hQ42
              subst l42 y42 z42
              obtain ⟨rfl, Nq42, eq42⟩ := hQ42
              have N42 := Fr.app N40 Nq42
              refine own_via (B := T42.setTop (mkF m 107 #[.val (.int i0), .val (.int i1), .val (.int i2), .val (.int i3), .val (.int i4), .val (.int v3s0), .val (.int v17s0), .val .null, .val (.ref b33), .val (.ref b38)] [(.int i0)])) (fun t k => st42.trans k) ?_
              refine own_via (B := T42.setTop (mkF m 108 #[.val (.int i0), .val (.int i1), .val (.int i2), .val (.int i3), .val (.int i4), .val (.int v3s0), .val (.int v17s0), .val .null, .val (.ref b33), .val (.ref b38)] [(.int i0), (.int i0)])) (fun t k => XS.iloadN X42.here hx rfl (hb hby at_107) rfl k) ?_
              by_cases hc108 : i0 = i0
              · refine own_via (B := T42.setTop (mkF m 111 #[.val (.int i0), .val (.int i1), .val (.int i2), .val (.int i3), .val (.int i4), .val (.int v3s0), .val (.int v17s0), .val .null, .val (.ref b33), .val (.ref b38)] [])) (fun t k => XS.icmpNo X42.here hx rfl (hb hby at_108) rfl (teq hc108).2 k) ?_
                refine own_via (B := T42.setTop (mkF m 113 #[.val (.int i0), .val (.int i1), .val (.int i2), .val (.int i3), .val (.int i4), .val (.int v3s0), .val (.int v17s0), .val .null, .val (.ref b33), .val (.ref b38)] [(.ref b38)])) (fun t k => XS.aload X42.here hx rfl (hb hby at_111) rfl rfl k) ?_
                obtain ⟨cq43, kq43, q43a, q43b, q43c⟩ := isOf hZ eq42 (A38.keep Kq39)
                obtain ⟨_, _, ⟨T43, L43, k43, n43⟩, -, X43, ⟨Lc43, hQ43, l43, y43, z43⟩, st43⟩ := X42.virtualBack hx (y := (⟨"com/example/planmend/planmend/pg/SelectBlock$ColumnReference", "qualifier", "()I"⟩ : MethodName)) (z := (⟨"com/example/planmend/planmend/pg/SelectBlock$ColumnReference", "qualifier", "()I"⟩ : MethodName)) hown (mvT hZ (hw _ (List.mem_of_getElem? (i := 56) rfl))) (mvT hZ (hw _ (List.mem_of_getElem? (i := 57) rfl))) (notFace_of_selects (args := #[]) (mvT hZ (hw _ (List.mem_of_getElem? (i := 59) rfl)))) (mvT hZ (hw _ (List.mem_of_getElem? (i := 59) rfl))) (mvT hZ (hw _ (List.mem_of_getElem? (i := 58) rfl))) (by decide) (backOf (W := 0) (rmgqualifier l Z a0 hw [] b38 i1 T39.heap n0 (Nat.le_trans (Nat.le_trans (Nat.le_trans (Nat.le_trans (Nat.le_trans (Nat.le_trans Z0 E33.1) E35.1) E36.1) Kq37.1) E38.1) Kq39.1) f39_1) hZ (hw _ (List.mem_of_getElem? (i := 60) rfl)) (hw _ (List.mem_of_getElem? (i := 28) rfl)) (by decide) (by decide)) q43a q43c (g := (mkF m 113 #[.val (.int i0), .val (.int i1), .val (.int i2), .val (.int i3), .val (.int i4), .val (.int v3s0), .val (.int v17s0), .val .null, .val (.ref b33), .val (.ref b38)] [(.ref b38)])) rfl (by rw [hml]; rfl) (Steps.refl _) (argsL := []) (rest := []) (lenOf own_pd10 rfl) rfl (by show 2 * 0 + _ ≤ _; exact Nat.le_of_eq rfl) (hb hby at_113) (fun _ _ => ⟨rfl, eq42, (by decide : ((((((((0 + 1) + 2) + 2) + 0) + 1) + 0) + 0) + 0) + 0 ≤ _), (by decide : ((((((((0 + 10) + (4 + 4)) + (4 + 4)) + 0) + 4) + 0) + 0) + 0) + 0 ≤ _)⟩)
                dsimp only [Pt.U, Pt.locs, Pt.cells, Pt.slots] at X43 l43 y43 z43 st43 hQ43
                subst l43 y43 z43
                obtain ⟨rfl, Nq43, eq43⟩ := hQ43
                have N43 := Fr.app N42 Nq43
                refine own_via (B := T43.setTop (mkF m 116 #[.val (.int i0), .val (.int i1), .val (.int i2), .val (.int i3), .val (.int i4), .val (.int v3s0), .val (.int v17s0), .val .null, .val (.ref b33), .val (.ref b38)] [(.int i1)])) (fun t k => st43.trans k) ?_
                refine own_via (B := T43.setTop (mkF m 117 #[.val (.int i0), .val (.int i1), .val (.int i2), .val (.int i3), .val (.int i4), .val (.int v3s0), .val (.int v17s0), .val .null, .val (.ref b33), .val (.ref b38)] [(.int i1), (.int i1)])) (fun t k => XS.iloadN X43.here hx rfl (hb hby at_116) rfl k) ?_
                by_cases hc117 : i1 = i1
                · refine own_via (B := T43.setTop (mkF m 120 #[.val (.int i0), .val (.int i1), .val (.int i2), .val (.int i3), .val (.int i4), .val (.int v3s0), .val (.int v17s0), .val .null, .val (.ref b33), .val (.ref b38)] [])) (fun t k => XS.icmpNo X43.here hx rfl (hb hby at_117) rfl (teq hc117).2 k) ?_
                  refine own_via (B := T43.setTop (mkF m 122 #[.val (.int i0), .val (.int i1), .val (.int i2), .val (.int i3), .val (.int i4), .val (.int v3s0), .val (.int v17s0), .val .null, .val (.ref b33), .val (.ref b38)] [(.ref b38)])) (fun t k => XS.aload X43.here hx rfl (hb hby at_120) rfl rfl k) ?_
                  obtain ⟨cq44, kq44, q44a, q44b, q44c⟩ := isOf hZ eq43 (A38.keep Kq39)
                  obtain ⟨_, _, ⟨T44, L44, k44, n44⟩, -, X44, ⟨Lc44, hQ44, l44, y44, z44⟩, st44⟩ := X43.virtualBack hx (y := (⟨"com/example/planmend/planmend/pg/SelectBlock$ColumnReference", "target", "()Lcom/example/planmend/planmend/pg/FromItem$Leaf;"⟩ : MethodName)) (z := (⟨"com/example/planmend/planmend/pg/SelectBlock$ColumnReference", "target", "()Lcom/example/planmend/planmend/pg/FromItem$Leaf;"⟩ : MethodName)) hown (mvT hZ (hw _ (List.mem_of_getElem? (i := 61) rfl))) (mvT hZ (hw _ (List.mem_of_getElem? (i := 62) rfl))) (notFace_of_selects (args := #[]) (mvT hZ (hw _ (List.mem_of_getElem? (i := 64) rfl)))) (mvT hZ (hw _ (List.mem_of_getElem? (i := 64) rfl))) (mvT hZ (hw _ (List.mem_of_getElem? (i := 63) rfl))) (by decide) (backOf (W := 0) (rmgtargetr l Z a0 hw [] b38 b33 T39.heap n0 (Nat.le_trans (Nat.le_trans (Nat.le_trans (Nat.le_trans (Nat.le_trans (Nat.le_trans Z0 E33.1) E35.1) E36.1) Kq37.1) E38.1) Kq39.1) f39_2) hZ (hw _ (List.mem_of_getElem? (i := 65) rfl)) (hw _ (List.mem_of_getElem? (i := 28) rfl)) (by decide) (by decide)) q44a q44c (g := (mkF m 122 #[.val (.int i0), .val (.int i1), .val (.int i2), .val (.int i3), .val (.int i4), .val (.int v3s0), .val (.int v17s0), .val .null, .val (.ref b33), .val (.ref b38)] [(.ref b38)])) rfl (by rw [hml]; rfl) (Steps.refl _) (argsL := []) (rest := []) (lenOf own_pd11 rfl) rfl (by show 2 * 0 + _ ≤ _; exact Nat.le_of_eq rfl) (hb hby at_122) (fun _ _ => ⟨rfl, eq43, (by decide : (((((((((0 + 1) + 2) + 2) + 0) + 1) + 0) + 0) + 0) + 0) + 0 ≤ _), (by decide : (((((((((0 + 10) + (4 + 4)) + (4 + 4)) + 0) + 4) + 0) + 0) + 0) + 0) + 0 ≤ _)⟩)
                  dsimp only [Pt.U, Pt.locs, Pt.cells, Pt.slots] at X44 l44 y44 z44 st44 hQ44
                  subst l44 y44 z44
                  obtain ⟨rfl, Nq44, eq44⟩ := hQ44
                  have N44 := Fr.app N43 Nq44
                  refine own_via (B := T44.setTop (mkF m 125 #[.val (.int i0), .val (.int i1), .val (.int i2), .val (.int i3), .val (.int i4), .val (.int v3s0), .val (.int v17s0), .val .null, .val (.ref b33), .val (.ref b38)] [(.ref b33)])) (fun t k => st44.trans k) ?_
                  refine own_via (B := T44.setTop (mkF m 127 #[.val (.int i0), .val (.int i1), .val (.int i2), .val (.int i3), .val (.int i4), .val (.int v3s0), .val (.int v17s0), .val .null, .val (.ref b33), .val (.ref b38)] [(.ref b33), (.ref b33)])) (fun t k => XS.aload X44.here hx rfl (hb hby at_125) rfl rfl k) ?_
                  by_cases hc127 : b33 = b33
                  · refine own_via (B := T44.setTop (mkF m 130 #[.val (.int i0), .val (.int i1), .val (.int i2), .val (.int i3), .val (.int i4), .val (.int v3s0), .val (.int v17s0), .val .null, .val (.ref b33), .val (.ref b38)] [])) (fun t k => Jvm.RoadKit.acmp (g := (mkF m 127 #[.val (.int i0), .val (.int i1), .val (.int i2), .val (.int i3), .val (.int i4), .val (.int v3s0), .val (.int v17s0), .val .null, .val (.ref b33), .val (.ref b38)] [(.ref b33), (.ref b33)])) X44 hx rfl rfl rfl (pc0 := 127) (pc' := 130) (same := true) rfl (hb hby at_127) rfl (decide_eq_true (congrArg Value.ref hc127)) (by decide) (by decide) k) ?_
                    refine own_via (B := T44.setTop (mkF m 132 #[.val (.int i0), .val (.int i1), .val (.int i2), .val (.int i3), .val (.int i4), .val (.int v3s0), .val (.int v17s0), .val .null, .val (.ref b33), .val (.ref b38)] [(.ref b38)])) (fun t k => XS.aload X44.here hx rfl (hb hby at_130) rfl rfl k) ?_
                    obtain ⟨cq45, kq45, q45a, q45b, q45c⟩ := isOf hZ eq44 (A38.keep Kq39)
                    obtain ⟨_, _, ⟨T45, L45, k45, n45⟩, -, X45, ⟨Lc45, hQ45, l45, y45, z45⟩, st45⟩ := X44.virtualBack hx (y := (⟨"com/example/planmend/planmend/pg/SelectBlock$ColumnReference", "column", "()Ljava/lang/String;"⟩ : MethodName)) (z := (⟨"com/example/planmend/planmend/pg/SelectBlock$ColumnReference", "column", "()Ljava/lang/String;"⟩ : MethodName)) hown (mvT hZ (hw _ (List.mem_of_getElem? (i := 66) rfl))) (mvT hZ (hw _ (List.mem_of_getElem? (i := 67) rfl))) (notFace_of_selects (args := #[]) (mvT hZ (hw _ (List.mem_of_getElem? (i := 69) rfl)))) (mvT hZ (hw _ (List.mem_of_getElem? (i := 69) rfl))) (mvT hZ (hw _ (List.mem_of_getElem? (i := 68) rfl))) (by decide) (backOf (W := 0) (rmgcolumnn l Z a0 hw [] b38 T39.heap n0 (Nat.le_trans (Nat.le_trans (Nat.le_trans (Nat.le_trans (Nat.le_trans (Nat.le_trans Z0 E33.1) E35.1) E36.1) Kq37.1) E38.1) Kq39.1) f39_3) hZ (hw _ (List.mem_of_getElem? (i := 70) rfl)) (hw _ (List.mem_of_getElem? (i := 28) rfl)) (by decide) (by decide)) q45a q45c (g := (mkF m 132 #[.val (.int i0), .val (.int i1), .val (.int i2), .val (.int i3), .val (.int i4), .val (.int v3s0), .val (.int v17s0), .val .null, .val (.ref b33), .val (.ref b38)] [(.ref b38)])) rfl (by rw [hml]; rfl) (Steps.refl _) (argsL := []) (rest := []) (lenOf own_pd12 rfl) rfl (by show 2 * 0 + _ ≤ _; exact Nat.le_of_eq rfl) (hb hby at_132) (fun _ _ => ⟨rfl, eq44, (by decide : ((((((((((0 + 1) + 2) + 2) + 0) + 1) + 0) + 0) + 0) + 0) + 0) + 0 ≤ _), (by decide : ((((((((((0 + 10) + (4 + 4)) + (4 + 4)) + 0) + 4) + 0) + 0) + 0) + 0) + 0) + 0 ≤ _)⟩)
                    dsimp only [Pt.U, Pt.locs, Pt.cells, Pt.slots] at X45 l45 y45 z45 st45 hQ45
                    subst l45 y45 z45
                    obtain ⟨rfl, Nq45, eq45⟩ := hQ45
                    have N45 := Fr.app N44 Nq45
                    refine own_via (B := T45.setTop (mkF m 135 #[.val (.int i0), .val (.int i1), .val (.int i2), .val (.int i3), .val (.int i4), .val (.int v3s0), .val (.int v17s0), .val .null, .val (.ref b33), .val (.ref b38)] [.null])) (fun t k => st45.trans k) ?_
                    refine own_via (B := T45.setTop (mkF m 137 #[.val (.int i0), .val (.int i1), .val (.int i2), .val (.int i3), .val (.int i4), .val (.int v3s0), .val (.int v17s0), .val .null, .val (.ref b33), .val (.ref b38)] [.null, .null])) (fun t k => XS.aload X45.here hx rfl (hb hby at_135) rfl rfl k) ?_
                    have hc137 : (.null : Value) = (.null : Value) := rfl
                    refine own_via (B := T45.setTop (mkF m 140 #[.val (.int i0), .val (.int i1), .val (.int i2), .val (.int i3), .val (.int i4), .val (.int v3s0), .val (.int v17s0), .val .null, .val (.ref b33), .val (.ref b38)] [])) (fun t k => Jvm.RoadKit.acmp (g := (mkF m 137 #[.val (.int i0), .val (.int i1), .val (.int i2), .val (.int i3), .val (.int i4), .val (.int v3s0), .val (.int v17s0), .val .null, .val (.ref b33), .val (.ref b38)] [.null, .null])) X45 hx rfl rfl rfl (pc0 := 137) (pc' := 140) (same := true) rfl (hb hby at_137) rfl (decide_eq_true hc137) (by decide) (by decide) k) ?_
                    refine own_via (B := T45.setTop (mkF m 141 #[.val (.int i0), .val (.int i1), .val (.int i2), .val (.int i3), .val (.int i4), .val (.int v3s0), .val (.int v17s0), .val .null, .val (.ref b33), .val (.ref b38)] [(.int (1 : Int32))])) (fun t k => XS.iconst X45.here hx rfl (hb hby at_140) k) ?_
                    refine own_via (B := T45.setTop (mkF m 145 #[.val (.int i0), .val (.int i1), .val (.int i2), .val (.int i3), .val (.int i4), .val (.int v3s0), .val (.int v17s0), .val .null, .val (.ref b33), .val (.ref b38)] [(.int (1 : Int32))])) (fun t k => XS.goto X45.here hx rfl (pc0 := 141) (pc' := 145) rfl (hb hby at_141) (by decide) (by decide) k) ?_
                    exact own_done ⟨_, _, _, N45, (Or.inl ⟨hc99, hc108, hc117, hc127, rfl⟩), rfl, (X45.more (by decide) (by decide)), eq45⟩
                  · refine own_via (B := T44.setTop (mkF m 144 #[.val (.int i0), .val (.int i1), .val (.int i2), .val (.int i3), .val (.int i4), .val (.int v3s0), .val (.int v17s0), .val .null, .val (.ref b33), .val (.ref b38)] [])) (fun t k => Jvm.RoadKit.acmp (g := (mkF m 127 #[.val (.int i0), .val (.int i1), .val (.int i2), .val (.int i3), .val (.int i4), .val (.int v3s0), .val (.int v17s0), .val .null, .val (.ref b33), .val (.ref b38)] [(.ref b33), (.ref b33)])) X44 hx rfl rfl rfl (pc0 := 127) (pc' := 144) (same := false) rfl (hb hby at_127) rfl (decide_eq_false fun q => hc127 (Value.ref.inj q)) (by decide) (by decide) k) ?_
                    refine own_via (B := T44.setTop (mkF m 145 #[.val (.int i0), .val (.int i1), .val (.int i2), .val (.int i3), .val (.int i4), .val (.int v3s0), .val (.int v17s0), .val .null, .val (.ref b33), .val (.ref b38)] [(.int (0 : Int32))])) (fun t k => XS.iconst X44.here hx rfl (hb hby at_144) k) ?_
                    exact own_done ⟨_, _, _, N44, (Or.inr (Or.inl ⟨hc99, hc108, hc117, hc127, rfl⟩)), rfl, (X44.more (by decide) (by decide)), eq44⟩
                · refine own_via (B := T43.setTop (mkF m 144 #[.val (.int i0), .val (.int i1), .val (.int i2), .val (.int i3), .val (.int i4), .val (.int v3s0), .val (.int v17s0), .val .null, .val (.ref b33), .val (.ref b38)] [])) (fun t k => XS.icmpYes X43.here hx rfl (pc0 := 117) (pc' := 144) rfl (hb hby at_117) rfl (feq hc117).2 (by decide) (by decide) k) ?_
                  refine own_via (B := T43.setTop (mkF m 145 #[.val (.int i0), .val (.int i1), .val (.int i2), .val (.int i3), .val (.int i4), .val (.int v3s0), .val (.int v17s0), .val .null, .val (.ref b33), .val (.ref b38)] [(.int (0 : Int32))])) (fun t k => XS.iconst X43.here hx rfl (hb hby at_144) k) ?_
                  exact own_done ⟨_, _, _, N43, (Or.inr (Or.inr (Or.inl ⟨hc99, hc108, hc117, rfl⟩))), rfl, (X43.more (by decide) (by decide)), eq43⟩
              · refine own_via (B := T42.setTop (mkF m 144 #[.val (.int i0), .val (.int i1), .val (.int i2), .val (.int i3), .val (.int i4), .val (.int v3s0), .val (.int v17s0), .val .null, .val (.ref b33), .val (.ref b38)] [])) (fun t k => XS.icmpYes X42.here hx rfl (pc0 := 108) (pc' := 144) rfl (hb hby at_108) rfl (feq hc108).2 (by decide) (by decide) k) ?_
                refine own_via (B := T42.setTop (mkF m 145 #[.val (.int i0), .val (.int i1), .val (.int i2), .val (.int i3), .val (.int i4), .val (.int v3s0), .val (.int v17s0), .val .null, .val (.ref b33), .val (.ref b38)] [(.int (0 : Int32))])) (fun t k => XS.iconst X42.here hx rfl (hb hby at_144) k) ?_
                exact own_done ⟨_, _, _, N42, (Or.inr (Or.inr (Or.inr (Or.inl ⟨hc99, hc108, rfl⟩)))), rfl, (X42.more (by decide) (by decide)), eq42⟩
            · refine own_via (B := T40.setTop (mkF m 144 #[.val (.int i0), .val (.int i1), .val (.int i2), .val (.int i3), .val (.int i4), .val (.int v3s0), .val (.int v17s0), .val .null, .val (.ref b33), .val (.ref b38)] [])) (fun t k => XS.icmpYes X40.here hx rfl (pc0 := 99) (pc' := 144) rfl (hb hby at_99) rfl (feq hc99).2 (by decide) (by decide) k) ?_
              refine own_via (B := T40.setTop (mkF m 145 #[.val (.int i0), .val (.int i1), .val (.int i2), .val (.int i3), .val (.int i4), .val (.int v3s0), .val (.int v17s0), .val .null, .val (.ref b33), .val (.ref b38)] [(.int (0 : Int32))])) (fun t k => XS.iconst X40.here hx rfl (hb hby at_144) k) ?_
              exact own_done ⟨_, _, _, N40, (Or.inr (Or.inr (Or.inr (Or.inr ⟨hc99, rfl⟩)))), rfl, (X40.more (by decide) (by decide)), eq40⟩
          · rintro B ⟨T41, L41, v99s0, N41, hv99, rfl, X41, e41⟩
            refine own_leafW X41 hx hlk hS36 (by rw [e41]; exact (Nat.le_trans (Nat.le_trans (Nat.le_trans hk36 Kq37.1) E38.1) Kq39.1)) (t := .boolean) Bd.returns (own_b1 (by rcases hv99 with ⟨_, _, _, _, rfl⟩ | ⟨_, _, _, _, rfl⟩ | ⟨_, _, _, rfl⟩ | ⟨_, _, rfl⟩ | ⟨_, rfl⟩ <;> decide)) (Or.inl ⟨rfl, by simp, _, rfl⟩) (hb hby at_145) (by decide) (by decide) ?_
            show Q0 Z i0 i1 i2 i3 i4 zc wT h0 n0 _ T41.heap _
            rw [e41]
            refine ⟨?_, N41⟩
            have hA : (1 : Int32) = v3s0 := by
              rcases hv3 with ⟨_, h⟩ | ⟨_, h⟩
              · exact absurd h hc29
              · exact h.symm
            rcases hv99 with ⟨h0, h1, h2, h3, rfl⟩ | ⟨h0, h1, h2, h3, rfl⟩ | ⟨h0, h1, h2, rfl⟩ | ⟨h0, h1, rfl⟩ | ⟨h0, rfl⟩
            · rfl
            · exact absurd rfl h3
            · exact absurd rfl h2
            · exact absurd rfl h1
            · exact absurd hA h0
set_option maxRecDepth 65536 in
set_option maxHeartbeats 40000000 in
theorem comes_1 {Post : Tables → Env → Array Value → State → Outcome → State → Prop} (hpost : ∀ tb e args s v u, (limb_1_1.after args s (.returned v) u = true ∧ limb_1_2.after args s (.returned v) u = true ∧ True) → ReturnedEndW s (.returned v) u (Jvm.fieldLocs frame_1_writes args s ++ Jvm.arrayLocs frame_1_arrays args s ++ Jvm.staticLocs frame_1_statics s) 24 2176 → Post tb e args s (.returned v) u) :
    ArmFor flags0 classFile x code maxLocals ret World_1 tables_1 room_1 Calls_1 rest_1 Pre_1 Post := by
  intro l hfl _ _ p e ha hc hk s m args below hf hA hF happ hP
  obtain ⟨hcalls, hrest, hpre⟩ := hP
  obtain ⟨-, -, -, hnamed, -, -, -, hat⟩ := (Spec.applies_iff hf).mp happ
  obtain ⟨hg, hn⟩ := and_e (Cond.before_iff.mp (show (Jvm.Cond.and given_1 narrow_1).before args s = true from hpre))
  obtain ⟨g1, g2⟩ := and_e hg
  obtain ⟨g3, g4⟩ := and_e g2
  obtain ⟨g5, g6⟩ := and_e g4
  obtain ⟨g7, g8⟩ := and_e g6
  obtain ⟨g9, g10⟩ := and_e g8
  obtain ⟨w0, w1, w2, w3, w4, rfl⟩ : ∃ w0 w1 w2 w3 w4 : Value, args = #[w0, w1, w2, w3, w4] := by
    have hs : args.size = 5 := by simpa [Cond.value, given_1] using g1
    obtain ⟨L⟩ := args
    match L, hs with
    | [w0, w1, w2, w3, w4], _ => exact ⟨w0, w1, w2, w3, w4, rfl⟩
  have hw := fun d (hd : d ∈ tables_1) => atoms_spec (ws := Jvm.Cond.code x code maxLocals ret :: tables_1) hat d (List.mem_cons_of_mem _ hd)
  have hfit : Fit s := fun {y c} hc i hi => by
    obtain ⟨ha, rfl⟩ := Array.getElem?_eq_some_iff.mp hc
    have q := List.all_eq_true.mp ((Array.all_eq_true_iff_forall_mem.mp hF) _ (Array.getElem_mem ha)) i (List.mem_range.mpr hi)
    simpa [Array.getElem?_eq_getElem hi] using q
  obtain ⟨i0, ei0⟩ := is_v g3
  obtain rfl : w0 = (.int i0) := Option.some.inj ei0
  obtain ⟨i1, ei1⟩ := is_v g5
  obtain rfl : w1 = (.int i1) := Option.some.inj ei1
  obtain ⟨i2, ei2⟩ := is_v g7
  obtain rfl : w2 = (.int i2) := Option.some.inj ei2
  obtain ⟨i3, ei3⟩ := is_v g9
  obtain rfl : w3 = (.int i3) := Option.some.inj ei3
  obtain ⟨i4, ei4⟩ := is_v g10
  obtain rfl : w4 = (.int i4) := Option.some.inj ei4
  obtain ⟨hsets, hown0⟩ := atoms_of _ (rest_1_c_eq ▸ (show rest_1_c.before _ s = true from hrest))
  have hr0 := Cond.before_iff.mp hown0
  obtain ⟨zc, evz⟩ := is_v (Cond.before_iff.mp (hsets _ (List.mem_of_getElem? (i := 1) rfl)))
  have Scz : Sta s s.heap "java/lang/String" "COMPACT_STRINGS" "Z" (.int zc) := Sta.start evz (Or.inl (hsets _ (List.mem_of_getElem? (i := 0) rfl)))
  have hcz : ¬ zc = 0 := fun q => by have z := not_v (Cond.before_iff.mp (hsets _ (List.mem_of_getElem? (i := 2) rfl))); rw [eq_i evz rfl (by rw [q])] at z; cases z
  have hcw : Jvm.Lit.compactW.before _ s = true := (hsets _ (List.mem_of_getElem? (i := 2) rfl))
  obtain ⟨w_TABLE, _, _, _, ev_TABLE, -⟩ := Cond.exactly_spec (Cond.before_iff.mpr hn)
  have S_TABLE : Sta s s.heap "com/example/planmend/planmend/pg/FromItem$Source" "TABLE" "Lcom/example/planmend/planmend/pg/FromItem$Source;" (.ref w_TABLE) := Sta.start ev_TABLE (Or.inr ⟨(hw _ (List.mem_of_getElem? (i := 75) rfl)), (hw _ (List.mem_of_getElem? (i := 76) rfl))⟩)
  have E_TABLE : Exa s s.heap w_TABLE "com/example/planmend/planmend/pg/FromItem$Source" := Exa.start ev_TABLE hn
  have hch : Jvm.Lit.constHeld s "java/lang/String" 7 := hcalls.1 _ (List.mem_of_getElem? (i := 1) rfl)
  obtain ⟨n, o, h1, h2, h3, _, L, rfl, ⟨rfl, N⟩, hq⟩ := rm0 l s _ hw tables_1 i0 i1 i2 i3 i4 zc w_TABLE s.heap s.heap.size (Nat.le_refl _) (Old.start s) Scz hcz hch hcw S_TABLE p e ha hc hk s m _ below hf ((Spec.applies_iff_loose hf).mp happ).1 ⟨rfl, State.Warmed39.refl s, rfl, IB.start⟩ trivial
  refine ⟨n, _, h1, h2, h3, hpost _ _ _ _ _ _ ⟨Cond.after_iff.mpr rfl, Cond.after_iff.mpr (eq_i res_at (Term.int_eval (1)) rfl), trivial⟩ ⟨hq.1, hq.2.1, hq.2.2.1, (hq.2.2.2.sift fun y hy => Or.inr (N y hy)).mono (by decide) (by decide)⟩⟩
theorem main_1_1 : Claimed_1_1 := comes_1 fun _ _ _ _ _ _ h hF => ⟨h.1, hF⟩
theorem main_1_2 : Claimed_1_2 := comes_1 fun _ _ _ _ _ _ h hF => ⟨h.2.1, hF⟩
end Jvm.Pilot.@@N@@
namespace Jvm.Pilot.@@N@@
open Jvm Jvm.ClassFile Sem Op Lib Jvm.Free Jvm.Stand Jvm.Pilot.@@N@@.Jvm.D
/-! MADE BY PROGRAM (witnessworld.py) out of the Statement's table words and the real class files: 25 classes; the members and pool entries that the words name. The judged class is class 1, her method 2. -/
namespace start1
open Jvm.ClassFile
def u (s : String) : CpInfo := .utf8 (stringToUtf16 s)
/-- a pool by its gaps: so many unusable entries, then the entry; so many at the end -/
def gap : Nat → List CpInfo → List CpInfo
  | 0, r => r
  | n + 1, r => .unusable :: gap n r
def poolList (es : List (Nat × CpInfo)) (last : Nat) : List CpInfo := es.foldr (fun e r => gap e.1 (e.2 :: r)) (gap last [])
def pool (es : List (Nat × CpInfo)) (last : Nat) : Array CpInfo := ⟨poolList es last⟩
def fileOf (pool : Array CpInfo) (this : Nat) (attrs : Array Attribute := #[]) (ms : Array MethodInfo := #[]) (fl : Nat := 33) (sup : Nat := 0) (ifs : Array Nat := #[]) (fds : Array FieldInfo := #[]) : ClassFile where
  minorVersion := 0
  majorVersion := 65
  constantPool := pool
  accessFlags := fl
  thisClass := this
  superClass := sup
  interfaces := ifs
  fields := fds
  methods := ms
  attributes := attrs
def plain (name : String) (sup : Option ClassId) : Class where
  name := name
  kind := .ordinary
  loader := none
  accessFlags := 33
  super := sup
  interfaces := #[]
  cf := none
  fields := #[]
  methods := #[]
  instanceTypes := #[]
  staticTypes := #[]
  resolved := #[]
  callSites := []
  init := .initialized
  statics := none
  mirror := none

def pool0 : Array CpInfo := pool [(5, u "<init>"), (0, u "()V"), (1, .class_ 10), (1, u "java/lang/Object")] 113

def k0c0 : Code := { maxStack := 0, maxLocals := 1, code := object_method_1_code, exceptionTable := #[], attributes := #[] }
def k0m0 : Method := { name := "<init>", desc := "()V", sig := { parameters := [], returnType := none }, accessFlags := 1, code := some k0c0 }
/-- java/lang/Object -/
def k0 : Class := { plain "java/lang/Object" none with
  accessFlags := 33
  interfaces := #[]
  cf := some (fileOf pool0 8 #[] #[{ accessFlags := 1, nameIndex := 5, descriptorIndex := 6, attributes := #[] }] 33 0 #[] #[])
  fields := #[]
  methods := #[k0m0]
  instanceTypes := #[]
  staticTypes := #[]
  resolved := Array.replicate 124 none
  statics := none }

def pool1 : Array CpInfo := pool [(2, .class_ 4), (1, u "java/lang/Object"), (0, u "<init>"), (0, u "()V"), (0, .class_ 8), (0, u "java/lang/String"), (0, .methodref 7 10), (0, .nameAndType 5 11), (0, u "([C)V"), (0, .methodref 7 13), (0, .nameAndType 14 15), (0, u "valueOf"), (0, u "(C)Ljava/lang/String;"), (0, .methodref 17 18), (0, .class_ 19), (0, .nameAndType 20 21), (0, u "com/example/planmend/planmend/pg/ColumnReferenceAllPinLaw"), (0, u "drawColumn"), (0, u "(II)Ljava/lang/String;"), (0, .class_ 23), (0, u "com/example/planmend/planmend/pg/FromItem$Leaf"), (0, .fieldref 25 26), (0, .class_ 27), (0, .nameAndType 28 29), (0, u "com/example/planmend/planmend/pg/FromItem$Source"), (0, u "TABLE"), (0, u "Lcom/example/planmend/planmend/pg/FromItem$Source;"), (0, .string 31), (0, u "t"), (0, .methodref 22 33), (0, .nameAndType 5 34), (0, u "(Lcom/example/planmend/planmend/pg/FromItem$Source;Ljava/lang/String;Ljava/lang/String;IIIIILjava/util/List;Lcom/example/planmend/planmend/pg/WithQuery;)V"), (0, .class_ 36), (0, u "com/example/planmend/planmend/pg/SelectBlock$ColumnReference"), (0, .methodref 35 38), (0, .nameAndType 5 39), (0, u "(IILcom/example/planmend/planmend/pg/FromItem$Leaf;Ljava/lang/String;)V"), (0, .methodref 35 41), (0, .nameAndType 42 43), (0, u "all"), (0, u "()Z"), (0, .methodref 35 45), (0, .nameAndType 46 47), (0, u "token"), (0, u "()I"), (0, .methodref 35 49), (0, .nameAndType 50 47), (0, u "qualifier"), (0, .methodref 35 52), (0, .nameAndType 53 54), (0, u "target"), (0, u "()Lcom/example/planmend/planmend/pg/FromItem$Leaf;"), (0, .methodref 35 56), (0, .nameAndType 57 58), (0, u "column"), (0, u "()Ljava/lang/String;"), (3, u "law"), (0, u "(IIIII)Z")] 10

def k1m0 : Method := { name := "<init>", desc := "()V", sig := { parameters := [], returnType := none }, accessFlags := 1, code := none }
def k1c1 : Code := { maxStack := 4, maxLocals := 4, code := method_2_code, exceptionTable := #[], attributes := #[] }
def k1m1 : Method := { name := "drawColumn", desc := "(II)Ljava/lang/String;", sig := { parameters := [.int, .int], returnType := some (.object "java/lang/String") }, accessFlags := 10, code := some k1c1 }
def k1c2 : Code := { maxStack := 12, maxLocals := 10, code := code, exceptionTable := #[], attributes := #[] }
def k1m2 : Method := { name := "law", desc := "(IIIII)Z", sig := { parameters := [.int, .int, .int, .int, .int], returnType := some .boolean }, accessFlags := 9, code := some k1c2 }
/-- com/example/planmend/planmend/pg/ColumnReferenceAllPinLaw -/
def k1 : Class := { plain "com/example/planmend/planmend/pg/ColumnReferenceAllPinLaw" (some 0) with
  accessFlags := 49
  interfaces := #[]
  cf := some (fileOf pool1 17 #[] #[{ accessFlags := 1, nameIndex := 5, descriptorIndex := 6, attributes := #[] }, { accessFlags := 10, nameIndex := 20, descriptorIndex := 21, attributes := #[] }, { accessFlags := 9, nameIndex := 62, descriptorIndex := 63, attributes := #[] }] 49 2 #[] #[])
  fields := #[]
  methods := #[k1m0, k1m1, k1m2]
  instanceTypes := #[]
  staticTypes := #[]
  resolved := Array.replicate 74 none
  statics := none }

def pool2 : Array CpInfo := pool [(1, .class_ 2), (0, u "java/io/Serializable"), (0, .class_ 4), (0, u "java/lang/Object")] 2

/-- java/io/Serializable -/
def k2 : Class := { plain "java/io/Serializable" (some 0) with
  accessFlags := 1537
  interfaces := #[]
  cf := some (fileOf pool2 1 #[] #[] 1537 3 #[] #[])
  fields := #[]
  methods := #[]
  instanceTypes := #[]
  staticTypes := #[]
  resolved := Array.replicate 7 none
  statics := none }

def pool3 : Array CpInfo := pool [(1, .class_ 2), (0, u "java/lang/Comparable"), (0, .class_ 4), (0, u "java/lang/Object")] 7

/-- java/lang/Comparable -/
def k3 : Class := { plain "java/lang/Comparable" (some 0) with
  accessFlags := 1537
  interfaces := #[]
  cf := some (fileOf pool3 1 #[] #[] 1537 3 #[] #[])
  fields := #[]
  methods := #[]
  instanceTypes := #[]
  staticTypes := #[]
  resolved := Array.replicate 12 none
  statics := none }

def pool4 : Array CpInfo := pool [(2, .class_ 4), (1, u "java/lang/CharSequence"), (42, .class_ 48), (0, u "java/lang/CharSequence$1CodePointIterator"), (10, .class_ 60), (0, u "java/lang/CharSequence$1CharIterator"), (5, .class_ 67), (0, u "java/lang/Object")] 63

/-- java/lang/CharSequence -/
def k4 : Class := { plain "java/lang/CharSequence" (some 0) with
  accessFlags := 1537
  interfaces := #[]
  cf := some (fileOf pool4 2 #[.nestMembers #[47, 59]] #[] 1537 66 #[] #[])
  fields := #[]
  methods := #[]
  instanceTypes := #[]
  staticTypes := #[]
  resolved := Array.replicate 131 none
  statics := none }

def pool5 : Array CpInfo := pool [(1, .class_ 2), (0, u "java/lang/constant/Constable"), (0, .class_ 4), (0, u "java/lang/Object")] 6

/-- java/lang/constant/Constable -/
def k5 : Class := { plain "java/lang/constant/Constable" (some 0) with
  accessFlags := 1537
  interfaces := #[]
  cf := some (fileOf pool5 1 #[] #[] 1537 3 #[] #[])
  fields := #[]
  methods := #[]
  instanceTypes := #[]
  staticTypes := #[]
  resolved := Array.replicate 11 none
  statics := none }

def pool6 : Array CpInfo := pool [(1, .class_ 2), (0, u "java/lang/constant/ConstantDesc"), (0, .class_ 4), (0, u "java/lang/Object")] 32

/-- java/lang/constant/ConstantDesc -/
def k6 : Class := { plain "java/lang/constant/ConstantDesc" (some 0) with
  accessFlags := 1537
  interfaces := #[]
  cf := some (fileOf pool6 1 #[] #[] 1537 3 #[] #[])
  fields := #[]
  methods := #[]
  instanceTypes := #[]
  staticTypes := #[]
  resolved := Array.replicate 37 none
  statics := none }

def pool7 : Array CpInfo := pool [(1, .methodref 2 3), (0, .class_ 4), (0, .nameAndType 5 6), (0, u "java/lang/Object"), (0, u "<init>"), (0, u "()V"), (0, .string 8), (0, u ""), (0, .fieldref 10 11), (0, .class_ 12), (0, .nameAndType 13 14), (0, u "java/lang/String"), (0, u "value"), (0, u "[B"), (0, .fieldref 10 16), (0, .nameAndType 17 18), (0, u "coder"), (0, u "B"), (2, u "hash"), (0, u "I"), (2, u "hashIsZero"), (0, u "Z"), (0, .methodref 10 28), (0, .nameAndType 5 29), (0, u "([CIILjava/lang/Void;)V"), (8, .fieldref 10 39), (0, .nameAndType 40 26), (0, u "COMPACT_STRINGS"), (1, .class_ 44), (1, u "java/lang/StringUTF16"), (0, u "compress"), (1, .methodref 42 48), (0, .nameAndType 49 50), (0, u "coderFromArrayLen"), (0, u "([BI)B"), (2, u "toBytes"), (53, .class_ 109), (1, u "java/lang/StringLatin1"), (67, .methodref 42 178), (0, .nameAndType 45 179), (0, u "([CII)[B"), (29, .methodref 10 210), (0, .nameAndType 5 211), (0, u "([BB)V"), (157, u "(C)Z"), (205, .class_ 576), (0, u "java/lang/CharSequence"), (22, u "CASE_INSENSITIVE_ORDER"), (0, u "Ljava/util/Comparator;"), (181, u "valueOf"), (0, u "(C)Ljava/lang/String;"), (226, u "([C)V"), (4, .methodref 107 1016), (0, .nameAndType 1017 369), (0, u "canEncode"), (0, .methodref 107 1019), (0, .nameAndType 53 1020), (0, u "(C)[B"), (80, u "serialPersistentFields"), (0, u "[Ljava/io/ObjectStreamField;"), (0, .class_ 1104), (0, u "java/lang/String$CaseInsensitiveComparator"), (1, .class_ 1107), (0, u "java/io/Serializable"), (0, .class_ 1109), (0, u "java/lang/Comparable"), (0, .class_ 1111), (0, u "java/lang/constant/Constable"), (0, .class_ 1113), (0, u "java/lang/constant/ConstantDesc"), (2, u "serialVersionUID"), (0, u "J"), (3, u "REPL"), (0, u "C"), (2, u "LATIN1"), (1, u "UTF16")] 323

def k7m0 : Method := { name := "<init>", desc := "()V", sig := { parameters := [], returnType := none }, accessFlags := 1, code := none }
def k7c1 : Code := { maxStack := 5, maxLocals := 2, code := jdk_42_method_3_code, exceptionTable := #[], attributes := #[] }
def k7m1 : Method := { name := "<init>", desc := "([C)V", sig := { parameters := [(.array .char)], returnType := none }, accessFlags := 1, code := some k7c1 }
def k7c2 : Code := { maxStack := 4, maxLocals := 1, code := jdk_42_method_139_code, exceptionTable := #[], attributes := #[] }
def k7m2 : Method := { name := "valueOf", desc := "(C)Ljava/lang/String;", sig := { parameters := [.char], returnType := some (.object "java/lang/String") }, accessFlags := 9, code := some k7c2 }
def k7c3 : Code := { maxStack := 4, maxLocals := 6, code := jdk_42_method_149_code, exceptionTable := #[], attributes := #[] }
def k7m3 : Method := { name := "<init>", desc := "([CIILjava/lang/Void;)V", sig := { parameters := [(.array .char), .int, .int, (.object "java/lang/Void")], returnType := none }, accessFlags := 2, code := some k7c3 }
def k7c4 : Code := { maxStack := 2, maxLocals := 3, code := jdk_42_method_151_code, exceptionTable := #[], attributes := #[] }
def k7m4 : Method := { name := "<init>", desc := "([BB)V", sig := { parameters := [(.array .byte), .byte], returnType := none }, accessFlags := 0, code := some k7c4 }
/-- java/lang/String -/
def k7 : Class := { plain "java/lang/String" (some 0) with
  accessFlags := 49
  interfaces := #[2, 3, 4, 5, 6]
  cf := some (fileOf pool7 10 #[.nestMembers #[1103]] #[{ accessFlags := 1, nameIndex := 5, descriptorIndex := 6, attributes := #[] }, { accessFlags := 1, nameIndex := 5, descriptorIndex := 1010, attributes := #[] }, { accessFlags := 9, nameIndex := 782, descriptorIndex := 783, attributes := #[] }, { accessFlags := 2, nameIndex := 5, descriptorIndex := 29, attributes := #[] }, { accessFlags := 0, nameIndex := 5, descriptorIndex := 211, attributes := #[] }] 49 2 #[1106, 1108, 575, 1110, 1112] #[{ accessFlags := 18, nameIndex := 13, descriptorIndex := 14, attributes := #[] }, { accessFlags := 18, nameIndex := 17, descriptorIndex := 18, attributes := #[] }, { accessFlags := 2, nameIndex := 21, descriptorIndex := 22, attributes := #[] }, { accessFlags := 2, nameIndex := 25, descriptorIndex := 26, attributes := #[] }, { accessFlags := 26, nameIndex := 1116, descriptorIndex := 1117, attributes := #[] }, { accessFlags := 24, nameIndex := 40, descriptorIndex := 26, attributes := #[] }, { accessFlags := 26, nameIndex := 1101, descriptorIndex := 1102, attributes := #[] }, { accessFlags := 26, nameIndex := 1121, descriptorIndex := 1122, attributes := #[] }, { accessFlags := 25, nameIndex := 599, descriptorIndex := 600, attributes := #[] }, { accessFlags := 24, nameIndex := 1125, descriptorIndex := 18, attributes := #[] }, { accessFlags := 24, nameIndex := 1127, descriptorIndex := 18, attributes := #[] }])
  fields := #[{ name := "value", type := (.array .byte), accessFlags := 18, slot := 0, constantValue := 0 }, { name := "coder", type := .byte, accessFlags := 18, slot := 1, constantValue := 0 }, { name := "hash", type := .int, accessFlags := 2, slot := 2, constantValue := 0 }, { name := "hashIsZero", type := .boolean, accessFlags := 2, slot := 3, constantValue := 0 }, { name := "serialVersionUID", type := .long, accessFlags := 26, slot := 0, constantValue := 0 }, { name := "COMPACT_STRINGS", type := .boolean, accessFlags := 24, slot := 1, constantValue := 0 }, { name := "serialPersistentFields", type := (.array (.object "java/io/ObjectStreamField")), accessFlags := 26, slot := 2, constantValue := 0 }, { name := "REPL", type := .char, accessFlags := 26, slot := 3, constantValue := 0 }, { name := "CASE_INSENSITIVE_ORDER", type := (.object "java/util/Comparator"), accessFlags := 25, slot := 4, constantValue := 0 }, { name := "LATIN1", type := .byte, accessFlags := 24, slot := 5, constantValue := 0 }, { name := "UTF16", type := .byte, accessFlags := 24, slot := 6, constantValue := 0 }]
  methods := #[k7m0, k7m1, k7m2, k7m3, k7m4]
  instanceTypes := #[(.array .byte), .byte, .int, .boolean]
  staticTypes := #[.long, .boolean, (.array (.object "java/io/ObjectStreamField")), .char, (.object "java/util/Comparator"), .byte, .byte]
  resolved := Array.replicate 1451 none
  statics := some 0 }

def pool8 : Array CpInfo := pool [(1, .methodref 2 3), (0, .class_ 4), (0, .nameAndType 5 6), (0, u "java/lang/Object"), (0, u "<init>"), (0, u "()V"), (0, .class_ 8), (0, u "java/lang/Record")] 13

def k8c0 : Code := { maxStack := 1, maxLocals := 1, code := jdk_30_method_1_code, exceptionTable := #[], attributes := #[] }
def k8m0 : Method := { name := "<init>", desc := "()V", sig := { parameters := [], returnType := none }, accessFlags := 4, code := some k8c0 }
/-- java/lang/Record -/
def k8 : Class := { plain "java/lang/Record" (some 0) with
  accessFlags := 1057
  interfaces := #[]
  cf := some (fileOf pool8 7 #[] #[{ accessFlags := 4, nameIndex := 5, descriptorIndex := 6, attributes := #[] }] 1057 2 #[] #[])
  fields := #[]
  methods := #[k8m0]
  instanceTypes := #[]
  staticTypes := #[]
  resolved := Array.replicate 22 none
  statics := none }

def pool9 : Array CpInfo := pool [(1, .methodref 2 3), (0, .class_ 4), (0, .nameAndType 5 6), (0, u "java/lang/Record"), (0, u "<init>"), (0, u "()V"), (0, .fieldref 8 9), (0, .class_ 10), (0, .nameAndType 11 12), (0, u "com/example/planmend/planmend/pg/SelectBlock$ColumnReference"), (0, u "token"), (0, u "I"), (0, .fieldref 8 14), (0, .nameAndType 15 12), (0, u "qualifier"), (0, .fieldref 8 17), (0, .nameAndType 18 19), (0, u "target"), (0, u "Lcom/example/planmend/planmend/pg/FromItem$Leaf;"), (0, .fieldref 8 21), (0, .nameAndType 22 23), (0, u "column"), (0, u "Ljava/lang/String;"), (12, u "(IILcom/example/planmend/planmend/pg/FromItem$Leaf;Ljava/lang/String;)V"), (3, u "all"), (0, u "()Z"), (1, u "()Ljava/lang/String;"), (0, u "()I"), (1, u "()Lcom/example/planmend/planmend/pg/FromItem$Leaf;"), (3, .class_ 51), (0, u "com/example/planmend/planmend/pg/SelectBlock")] 27

def k9c0 : Code := { maxStack := 2, maxLocals := 5, code := prog_47_method_1_code, exceptionTable := #[], attributes := #[] }
def k9m0 : Method := { name := "<init>", desc := "(IILcom/example/planmend/planmend/pg/FromItem$Leaf;Ljava/lang/String;)V", sig := { parameters := [.int, .int, (.object "com/example/planmend/planmend/pg/FromItem$Leaf"), (.object "java/lang/String")], returnType := none }, accessFlags := 0, code := some k9c0 }
def k9c1 : Code := { maxStack := 1, maxLocals := 1, code := prog_47_method_2_code, exceptionTable := #[], attributes := #[] }
def k9m1 : Method := { name := "all", desc := "()Z", sig := { parameters := [], returnType := some .boolean }, accessFlags := 0, code := some k9c1 }
def k9c2 : Code := { maxStack := 1, maxLocals := 1, code := prog_47_method_6_code, exceptionTable := #[], attributes := #[] }
def k9m2 : Method := { name := "token", desc := "()I", sig := { parameters := [], returnType := some .int }, accessFlags := 1, code := some k9c2 }
def k9c3 : Code := { maxStack := 1, maxLocals := 1, code := prog_47_method_7_code, exceptionTable := #[], attributes := #[] }
def k9m3 : Method := { name := "qualifier", desc := "()I", sig := { parameters := [], returnType := some .int }, accessFlags := 1, code := some k9c3 }
def k9c4 : Code := { maxStack := 1, maxLocals := 1, code := prog_47_method_8_code, exceptionTable := #[], attributes := #[] }
def k9m4 : Method := { name := "target", desc := "()Lcom/example/planmend/planmend/pg/FromItem$Leaf;", sig := { parameters := [], returnType := some (.object "com/example/planmend/planmend/pg/FromItem$Leaf") }, accessFlags := 1, code := some k9c4 }
def k9c5 : Code := { maxStack := 1, maxLocals := 1, code := prog_47_method_9_code, exceptionTable := #[], attributes := #[] }
def k9m5 : Method := { name := "column", desc := "()Ljava/lang/String;", sig := { parameters := [], returnType := some (.object "java/lang/String") }, accessFlags := 1, code := some k9c5 }
/-- com/example/planmend/planmend/pg/SelectBlock$ColumnReference -/
def k9 : Class := { plain "com/example/planmend/planmend/pg/SelectBlock$ColumnReference" (some 8) with
  accessFlags := 48
  interfaces := #[]
  cf := some (fileOf pool9 8 #[.nestHost 50] #[{ accessFlags := 0, nameIndex := 5, descriptorIndex := 36, attributes := #[] }, { accessFlags := 0, nameIndex := 40, descriptorIndex := 41, attributes := #[] }, { accessFlags := 1, nameIndex := 11, descriptorIndex := 44, attributes := #[] }, { accessFlags := 1, nameIndex := 15, descriptorIndex := 44, attributes := #[] }, { accessFlags := 1, nameIndex := 18, descriptorIndex := 46, attributes := #[] }, { accessFlags := 1, nameIndex := 22, descriptorIndex := 43, attributes := #[] }] 48 2 #[] #[{ accessFlags := 18, nameIndex := 11, descriptorIndex := 12, attributes := #[] }, { accessFlags := 18, nameIndex := 15, descriptorIndex := 12, attributes := #[] }, { accessFlags := 18, nameIndex := 18, descriptorIndex := 19, attributes := #[] }, { accessFlags := 18, nameIndex := 22, descriptorIndex := 23, attributes := #[] }])
  fields := #[{ name := "token", type := .int, accessFlags := 18, slot := 0, constantValue := 0 }, { name := "qualifier", type := .int, accessFlags := 18, slot := 1, constantValue := 0 }, { name := "target", type := (.object "com/example/planmend/planmend/pg/FromItem$Leaf"), accessFlags := 18, slot := 2, constantValue := 0 }, { name := "column", type := (.object "java/lang/String"), accessFlags := 18, slot := 3, constantValue := 0 }]
  methods := #[k9m0, k9m1, k9m2, k9m3, k9m4, k9m5]
  instanceTypes := #[.int, .int, (.object "com/example/planmend/planmend/pg/FromItem$Leaf"), (.object "java/lang/String")]
  staticTypes := #[]
  resolved := Array.replicate 79 none
  statics := none }

def pool10 : Array CpInfo := pool [(1, .class_ 2), (0, u "com/example/planmend/planmend/pg/FromItem"), (0, .class_ 4), (0, u "java/lang/Object"), (3, .class_ 9), (0, u "com/example/planmend/planmend/pg/FromItem$JoinType"), (0, .class_ 11), (0, u "com/example/planmend/planmend/pg/FromItem$Join"), (0, .class_ 13), (0, u "com/example/planmend/planmend/pg/FromItem$Leaf"), (0, .class_ 15), (0, u "com/example/planmend/planmend/pg/FromItem$Source")] 6

/-- com/example/planmend/planmend/pg/FromItem -/
def k10 : Class := { plain "com/example/planmend/planmend/pg/FromItem" (some 0) with
  accessFlags := 1536
  interfaces := #[]
  cf := some (fileOf pool10 1 #[.nestMembers #[8, 10, 12, 14]] #[] 1536 3 #[] #[])
  fields := #[]
  methods := #[]
  instanceTypes := #[]
  staticTypes := #[]
  resolved := Array.replicate 22 none
  statics := none }

def pool11 : Array CpInfo := pool [(1, .methodref 2 3), (0, .class_ 4), (0, .nameAndType 5 6), (0, u "java/lang/Object"), (0, u "<init>"), (0, u "()V"), (0, .fieldref 8 9), (0, .class_ 10), (0, .nameAndType 11 12), (0, u "com/example/planmend/planmend/pg/FromItem$Leaf"), (0, u "source"), (0, u "Lcom/example/planmend/planmend/pg/FromItem$Source;"), (0, .fieldref 8 14), (0, .nameAndType 15 16), (0, u "name"), (0, u "Ljava/lang/String;"), (0, .fieldref 8 18), (0, .nameAndType 19 16), (0, u "qualifier"), (0, .fieldref 8 21), (0, .nameAndType 22 23), (0, u "start"), (0, u "I"), (0, .fieldref 8 25), (0, .nameAndType 26 23), (0, u "end"), (0, .fieldref 8 28), (0, .nameAndType 29 23), (0, u "nameStart"), (0, .fieldref 8 31), (0, .nameAndType 32 23), (0, u "nameEnd"), (0, .fieldref 8 34), (0, .nameAndType 35 23), (0, u "qualifierToken"), (6, .fieldref 8 43), (0, .nameAndType 44 45), (0, u "columns"), (0, u "Ljava/util/List;"), (0, .fieldref 8 47), (0, .nameAndType 48 49), (0, u "withQuery"), (0, u "Lcom/example/planmend/planmend/pg/WithQuery;"), (20, .class_ 71), (0, u "com/example/planmend/planmend/pg/FromItem"), (2, u "(Lcom/example/planmend/planmend/pg/FromItem$Source;Ljava/lang/String;Ljava/lang/String;IIIIILjava/util/List;Lcom/example/planmend/planmend/pg/WithQuery;)V")] 37

def k11c0 : Code := { maxStack := 2, maxLocals := 11, code := prog_26_method_1_code, exceptionTable := #[], attributes := #[] }
def k11m0 : Method := { name := "<init>", desc := "(Lcom/example/planmend/planmend/pg/FromItem$Source;Ljava/lang/String;Ljava/lang/String;IIIIILjava/util/List;Lcom/example/planmend/planmend/pg/WithQuery;)V", sig := { parameters := [(.object "com/example/planmend/planmend/pg/FromItem$Source"), (.object "java/lang/String"), (.object "java/lang/String"), .int, .int, .int, .int, .int, (.object "java/util/List"), (.object "com/example/planmend/planmend/pg/WithQuery")], returnType := none }, accessFlags := 0, code := some k11c0 }
/-- com/example/planmend/planmend/pg/FromItem$Leaf -/
def k11 : Class := { plain "com/example/planmend/planmend/pg/FromItem$Leaf" (some 0) with
  accessFlags := 49
  interfaces := #[10]
  cf := some (fileOf pool11 8 #[.nestHost 70] #[{ accessFlags := 0, nameIndex := 5, descriptorIndex := 74, attributes := #[] }] 49 2 #[70] #[{ accessFlags := 18, nameIndex := 11, descriptorIndex := 12, attributes := #[] }, { accessFlags := 18, nameIndex := 15, descriptorIndex := 16, attributes := #[] }, { accessFlags := 18, nameIndex := 19, descriptorIndex := 16, attributes := #[] }, { accessFlags := 18, nameIndex := 22, descriptorIndex := 23, attributes := #[] }, { accessFlags := 18, nameIndex := 26, descriptorIndex := 23, attributes := #[] }, { accessFlags := 18, nameIndex := 29, descriptorIndex := 23, attributes := #[] }, { accessFlags := 18, nameIndex := 32, descriptorIndex := 23, attributes := #[] }, { accessFlags := 18, nameIndex := 35, descriptorIndex := 23, attributes := #[] }, { accessFlags := 18, nameIndex := 44, descriptorIndex := 45, attributes := #[] }, { accessFlags := 18, nameIndex := 48, descriptorIndex := 49, attributes := #[] }])
  fields := #[{ name := "source", type := (.object "com/example/planmend/planmend/pg/FromItem$Source"), accessFlags := 18, slot := 0, constantValue := 0 }, { name := "name", type := (.object "java/lang/String"), accessFlags := 18, slot := 1, constantValue := 0 }, { name := "qualifier", type := (.object "java/lang/String"), accessFlags := 18, slot := 2, constantValue := 0 }, { name := "start", type := .int, accessFlags := 18, slot := 3, constantValue := 0 }, { name := "end", type := .int, accessFlags := 18, slot := 4, constantValue := 0 }, { name := "nameStart", type := .int, accessFlags := 18, slot := 5, constantValue := 0 }, { name := "nameEnd", type := .int, accessFlags := 18, slot := 6, constantValue := 0 }, { name := "qualifierToken", type := .int, accessFlags := 18, slot := 7, constantValue := 0 }, { name := "columns", type := (.object "java/util/List"), accessFlags := 18, slot := 8, constantValue := 0 }, { name := "withQuery", type := (.object "com/example/planmend/planmend/pg/WithQuery"), accessFlags := 18, slot := 9, constantValue := 0 }]
  methods := #[k11m0]
  instanceTypes := #[(.object "com/example/planmend/planmend/pg/FromItem$Source"), (.object "java/lang/String"), (.object "java/lang/String"), .int, .int, .int, .int, .int, (.object "java/util/List"), (.object "com/example/planmend/planmend/pg/WithQuery")]
  staticTypes := #[]
  resolved := Array.replicate 112 none
  statics := none }

def pool12 : Array CpInfo := pool [(2, .class_ 4), (1, u "java/lang/Enum"), (0, u "name"), (0, u "Ljava/lang/String;"), (2, u "ordinal"), (0, u "I"), (1, .class_ 14), (1, u "java/lang/Object"), (4, u "hash"), (86, .class_ 108), (1, u "java/lang/Enum$EnumDesc"), (2, .class_ 112), (0, u "java/lang/constant/Constable"), (0, .class_ 114), (0, u "java/lang/Comparable"), (0, .class_ 116), (0, u "java/io/Serializable")] 87

/-- java/lang/Enum -/
def k12 : Class := { plain "java/lang/Enum" (some 0) with
  accessFlags := 1057
  interfaces := #[5, 3, 2]
  cf := some (fileOf pool12 2 #[.nestMembers #[106]] #[] 1057 12 #[111, 113, 115] #[{ accessFlags := 18, nameIndex := 5, descriptorIndex := 6, attributes := #[] }, { accessFlags := 18, nameIndex := 9, descriptorIndex := 10, attributes := #[] }, { accessFlags := 2, nameIndex := 19, descriptorIndex := 10, attributes := #[] }])
  fields := #[{ name := "name", type := (.object "java/lang/String"), accessFlags := 18, slot := 0, constantValue := 0 }, { name := "ordinal", type := .int, accessFlags := 18, slot := 1, constantValue := 0 }, { name := "hash", type := .int, accessFlags := 2, slot := 2, constantValue := 0 }]
  methods := #[]
  instanceTypes := #[(.object "java/lang/String"), .int, .int]
  staticTypes := #[]
  resolved := Array.replicate 204 none
  statics := none }

def pool13 : Array CpInfo := pool [(1, .class_ 2), (0, u "com/example/planmend/planmend/pg/FromItem$Source"), (2, u "TABLE"), (0, u "Lcom/example/planmend/planmend/pg/FromItem$Source;"), (2, u "WITH_QUERY"), (2, u "OTHER"), (2, u "$VALUES"), (0, u "[Lcom/example/planmend/planmend/pg/FromItem$Source;"), (6, .class_ 25), (1, u "java/lang/Enum"), (26, .class_ 53), (0, u "com/example/planmend/planmend/pg/FromItem")] 2

/-- com/example/planmend/planmend/pg/FromItem$Source -/
def k13 : Class := { plain "com/example/planmend/planmend/pg/FromItem$Source" (some 12) with
  accessFlags := 16433
  interfaces := #[]
  cf := some (fileOf pool13 1 #[.nestHost 52] #[] 16433 23 #[] #[{ accessFlags := 16409, nameIndex := 5, descriptorIndex := 6, attributes := #[] }, { accessFlags := 16409, nameIndex := 9, descriptorIndex := 6, attributes := #[] }, { accessFlags := 16409, nameIndex := 12, descriptorIndex := 6, attributes := #[] }, { accessFlags := 4122, nameIndex := 15, descriptorIndex := 16, attributes := #[] }])
  fields := #[{ name := "TABLE", type := (.object "com/example/planmend/planmend/pg/FromItem$Source"), accessFlags := 16409, slot := 0, constantValue := 0 }, { name := "WITH_QUERY", type := (.object "com/example/planmend/planmend/pg/FromItem$Source"), accessFlags := 16409, slot := 1, constantValue := 0 }, { name := "OTHER", type := (.object "com/example/planmend/planmend/pg/FromItem$Source"), accessFlags := 16409, slot := 2, constantValue := 0 }, { name := "$VALUES", type := (.array (.object "com/example/planmend/planmend/pg/FromItem$Source")), accessFlags := 4122, slot := 3, constantValue := 0 }]
  methods := #[]
  instanceTypes := #[(.object "java/lang/String"), .int, .int]
  staticTypes := #[(.object "com/example/planmend/planmend/pg/FromItem$Source"), (.object "com/example/planmend/planmend/pg/FromItem$Source"), (.object "com/example/planmend/planmend/pg/FromItem$Source"), (.array (.object "com/example/planmend/planmend/pg/FromItem$Source"))]
  resolved := Array.replicate 56 none
  statics := some 1 }

def pool14 : Array CpInfo := pool [(6, .class_ 8), (1, u "java/lang/Object"), (0, u "<init>"), (0, u "()V"), (1, .class_ 14), (1, u "java/lang/StringUTF16"), (31, u "$assertionsDisabled"), (0, u "Z"), (13, u "HI_BYTE_SHIFT"), (0, u "I"), (2, u "LO_BYTE_SHIFT"), (49, .methodref 12 116), (0, .nameAndType 117 118), (0, u "compress"), (0, u "([CI[BII)I"), (3, u "([CII)[B"), (138, u "coderFromArrayLen"), (0, u "([BI)B"), (106, .class_ 371), (1, u "java/lang/StringUTF16$LinesSpliterator"), (58, u "MAX_LENGTH"), (196, .class_ 628), (0, u "java/lang/StringUTF16$CodePointsSpliterator"), (0, .class_ 630), (0, u "java/lang/StringUTF16$CharsSpliterator")] 4

def k14m0 : Method := { name := "<init>", desc := "()V", sig := { parameters := [], returnType := none }, accessFlags := 0, code := none }
def k14c1 : Code := { maxStack := 2, maxLocals := 2, code := jdk_52_method_15_code, exceptionTable := #[], attributes := #[] }
def k14m1 : Method := { name := "coderFromArrayLen", desc := "([BI)B", sig := { parameters := [(.array .byte), .int], returnType := some .byte }, accessFlags := 8, code := some k14c1 }
def k14c2 : Code := { maxStack := 5, maxLocals := 6, code := jdk_52_method_16_code, exceptionTable := #[], attributes := #[] }
def k14m2 : Method := { name := "compress", desc := "([CII)[B", sig := { parameters := [(.array .char), .int, .int], returnType := some (.array .byte) }, accessFlags := 9, code := some k14c2 }
def k14c3 : Code := { maxStack := 3, maxLocals := 7, code := jdk_52_method_21_code, exceptionTable := #[], attributes := #[] }
def k14m3 : Method := { name := "compress", desc := "([CI[BII)I", sig := { parameters := [(.array .char), .int, (.array .byte), .int, .int], returnType := some .int }, accessFlags := 9, code := some k14c3 }
/-- java/lang/StringUTF16 -/
def k14 : Class := { plain "java/lang/StringUTF16" (some 0) with
  accessFlags := 48
  interfaces := #[]
  cf := some (fileOf pool14 12 #[.nestMembers #[627, 629, 369]] #[{ accessFlags := 0, nameIndex := 9, descriptorIndex := 10, attributes := #[] }, { accessFlags := 8, nameIndex := 261, descriptorIndex := 262, attributes := #[] }, { accessFlags := 9, nameIndex := 117, descriptorIndex := 122, attributes := #[] }, { accessFlags := 9, nameIndex := 117, descriptorIndex := 118, attributes := #[] }] 48 6 #[] #[{ accessFlags := 26, nameIndex := 61, descriptorIndex := 62, attributes := #[] }, { accessFlags := 26, nameIndex := 65, descriptorIndex := 62, attributes := #[] }, { accessFlags := 24, nameIndex := 430, descriptorIndex := 62, attributes := #[] }, { accessFlags := 4120, nameIndex := 46, descriptorIndex := 47, attributes := #[] }])
  fields := #[{ name := "HI_BYTE_SHIFT", type := .int, accessFlags := 26, slot := 0, constantValue := 0 }, { name := "LO_BYTE_SHIFT", type := .int, accessFlags := 26, slot := 1, constantValue := 0 }, { name := "MAX_LENGTH", type := .int, accessFlags := 24, slot := 2, constantValue := 0 }, { name := "$assertionsDisabled", type := .boolean, accessFlags := 4120, slot := 3, constantValue := 0 }]
  methods := #[k14m0, k14m1, k14m2, k14m3]
  instanceTypes := #[]
  staticTypes := #[.int, .int, .int, .boolean]
  resolved := Array.replicate 635 none
  statics := none }

def pool15 : Array CpInfo := pool [(4, .class_ 6), (1, u "java/lang/Object"), (0, u "<init>"), (0, u "()V"), (5, .class_ 16), (1, u "java/lang/StringLatin1"), (73, u "canEncode"), (14, u "(C)Z"), (15, u "$assertionsDisabled"), (0, u "Z"), (98, .class_ 223), (1, u "java/lang/StringLatin1$LinesSpliterator"), (156, u "toBytes"), (1, u "(C)[B"), (7, .class_ 391), (0, u "java/lang/StringLatin1$CharsSpliterator")] 3

def k15m0 : Method := { name := "<init>", desc := "()V", sig := { parameters := [], returnType := none }, accessFlags := 0, code := none }
def k15c1 : Code := { maxStack := 2, maxLocals := 1, code := jdk_43_method_3_code, exceptionTable := #[], attributes := #[] }
def k15m1 : Method := { name := "canEncode", desc := "(C)Z", sig := { parameters := [.char], returnType := some .boolean }, accessFlags := 9, code := some k15c1 }
def k15c2 : Code := { maxStack := 4, maxLocals := 1, code := jdk_43_method_46_code, exceptionTable := #[], attributes := #[] }
def k15m2 : Method := { name := "toBytes", desc := "(C)[B", sig := { parameters := [.char], returnType := some (.array .byte) }, accessFlags := 9, code := some k15c2 }
/-- java/lang/StringLatin1 -/
def k15 : Class := { plain "java/lang/StringLatin1" (some 0) with
  accessFlags := 48
  interfaces := #[]
  cf := some (fileOf pool15 14 #[.nestMembers #[390, 221]] #[{ accessFlags := 0, nameIndex := 7, descriptorIndex := 8, attributes := #[] }, { accessFlags := 9, nameIndex := 90, descriptorIndex := 105, attributes := #[] }, { accessFlags := 9, nameIndex := 380, descriptorIndex := 382, attributes := #[] }] 48 4 #[] #[{ accessFlags := 4120, nameIndex := 121, descriptorIndex := 122, attributes := #[] }])
  fields := #[{ name := "$assertionsDisabled", type := .boolean, accessFlags := 4120, slot := 0, constantValue := 0 }]
  methods := #[k15m0, k15m1, k15m2]
  instanceTypes := #[]
  staticTypes := #[.boolean]
  resolved := Array.replicate 395 none
  statics := none }

def pool16 : Array CpInfo := pool [(2, .class_ 4), (1, u "java/lang/Object"), (0, u "<init>"), (0, u "()V"), (17, .class_ 26), (1, u "jdk/internal/util/Preconditions"), (28, .class_ 56), (0, u "jdk/internal/util/Preconditions$4"), (57, .class_ 115), (0, u "jdk/internal/util/Preconditions$1"), (7, u "SIOOBE_FORMATTER"), (0, u "Ljava/util/function/BiFunction;"), (0, .class_ 126), (0, u "jdk/internal/util/Preconditions$2"), (3, u "AIOOBE_FORMATTER"), (0, .class_ 132), (0, u "jdk/internal/util/Preconditions$3"), (3, u "IOOBE_FORMATTER")] 57

def k16m0 : Method := { name := "<init>", desc := "()V", sig := { parameters := [], returnType := none }, accessFlags := 1, code := none }
/-- jdk/internal/util/Preconditions -/
def k16 : Class := { plain "jdk/internal/util/Preconditions" (some 0) with
  accessFlags := 33
  interfaces := #[]
  cf := some (fileOf pool16 24 #[.nestMembers #[55, 131, 125, 114]] #[{ accessFlags := 1, nameIndex := 5, descriptorIndex := 6, attributes := #[] }] 33 2 #[] #[{ accessFlags := 25, nameIndex := 123, descriptorIndex := 124, attributes := #[] }, { accessFlags := 25, nameIndex := 130, descriptorIndex := 124, attributes := #[] }, { accessFlags := 25, nameIndex := 136, descriptorIndex := 124, attributes := #[] }])
  fields := #[{ name := "SIOOBE_FORMATTER", type := (.object "java/util/function/BiFunction"), accessFlags := 25, slot := 0, constantValue := 0 }, { name := "AIOOBE_FORMATTER", type := (.object "java/util/function/BiFunction"), accessFlags := 25, slot := 1, constantValue := 0 }, { name := "IOOBE_FORMATTER", type := (.object "java/util/function/BiFunction"), accessFlags := 25, slot := 2, constantValue := 0 }]
  methods := #[k16m0]
  instanceTypes := #[]
  staticTypes := #[(.object "java/util/function/BiFunction"), (.object "java/util/function/BiFunction"), (.object "java/util/function/BiFunction")]
  resolved := Array.replicate 194 none
  statics := some 2 }

def pool17 : Array CpInfo := pool [(9, u "<init>"), (6, .class_ 18), (1, u "java/lang/Object"), (0, u "()V"), (1, .class_ 23), (1, u "jdk/internal/util/ArraysSupport"), (0, u "LOG2_ARRAY_LONG_INDEX_SCALE"), (0, u "I"), (2, u "U"), (0, u "Ljdk/internal/misc/Unsafe;"), (8, u "BIG_ENDIAN"), (0, u "Z"), (8, u "LOG2_BYTE_BIT_SIZE"), (4, u "LOG2_ARRAY_INT_INDEX_SCALE"), (54, u "JLA"), (0, u "Ljdk/internal/access/JavaLangAccess;"), (11, u "LOG2_ARRAY_BOOLEAN_INDEX_SCALE"), (9, u "LOG2_ARRAY_BYTE_INDEX_SCALE"), (5, u "LOG2_ARRAY_CHAR_INDEX_SCALE"), (5, u "LOG2_ARRAY_SHORT_INDEX_SCALE"), (18, u "LOG2_ARRAY_FLOAT_INDEX_SCALE"), (24, u "LOG2_ARRAY_DOUBLE_INDEX_SCALE"), (89, u "T_BOOLEAN"), (2, u "T_CHAR"), (1, u "T_FLOAT"), (1, u "T_DOUBLE"), (1, u "T_BYTE"), (1, u "T_SHORT"), (1, u "T_INT"), (1, u "T_LONG"), (1, u "SOFT_MAX_ARRAY_LENGTH")] 83

def k17m0 : Method := { name := "<init>", desc := "()V", sig := { parameters := [], returnType := none }, accessFlags := 2, code := none }
/-- jdk/internal/util/ArraysSupport -/
def k17 : Class := { plain "jdk/internal/util/ArraysSupport" (some 0) with
  accessFlags := 33
  interfaces := #[]
  cf := some (fileOf pool17 21 #[] #[{ accessFlags := 2, nameIndex := 9, descriptorIndex := 19, attributes := #[] }] 33 16 #[] #[{ accessFlags := 24, nameIndex := 28, descriptorIndex := 29, attributes := #[] }, { accessFlags := 26, nameIndex := 38, descriptorIndex := 39, attributes := #[] }, { accessFlags := 25, nameIndex := 121, descriptorIndex := 25, attributes := #[] }, { accessFlags := 25, nameIndex := 131, descriptorIndex := 25, attributes := #[] }, { accessFlags := 25, nameIndex := 137, descriptorIndex := 25, attributes := #[] }, { accessFlags := 25, nameIndex := 143, descriptorIndex := 25, attributes := #[] }, { accessFlags := 25, nameIndex := 53, descriptorIndex := 25, attributes := #[] }, { accessFlags := 25, nameIndex := 24, descriptorIndex := 25, attributes := #[] }, { accessFlags := 25, nameIndex := 162, descriptorIndex := 25, attributes := #[] }, { accessFlags := 25, nameIndex := 187, descriptorIndex := 25, attributes := #[] }, { accessFlags := 26, nameIndex := 48, descriptorIndex := 25, attributes := #[] }, { accessFlags := 25, nameIndex := 277, descriptorIndex := 25, attributes := #[] }, { accessFlags := 25, nameIndex := 280, descriptorIndex := 25, attributes := #[] }, { accessFlags := 25, nameIndex := 282, descriptorIndex := 25, attributes := #[] }, { accessFlags := 25, nameIndex := 284, descriptorIndex := 25, attributes := #[] }, { accessFlags := 25, nameIndex := 286, descriptorIndex := 25, attributes := #[] }, { accessFlags := 25, nameIndex := 288, descriptorIndex := 25, attributes := #[] }, { accessFlags := 25, nameIndex := 290, descriptorIndex := 25, attributes := #[] }, { accessFlags := 25, nameIndex := 292, descriptorIndex := 25, attributes := #[] }, { accessFlags := 26, nameIndex := 108, descriptorIndex := 109, attributes := #[] }, { accessFlags := 25, nameIndex := 294, descriptorIndex := 25, attributes := #[] }])
  fields := #[{ name := "U", type := (.object "jdk/internal/misc/Unsafe"), accessFlags := 24, slot := 0, constantValue := 0 }, { name := "BIG_ENDIAN", type := .boolean, accessFlags := 26, slot := 1, constantValue := 0 }, { name := "LOG2_ARRAY_BOOLEAN_INDEX_SCALE", type := .int, accessFlags := 25, slot := 2, constantValue := 0 }, { name := "LOG2_ARRAY_BYTE_INDEX_SCALE", type := .int, accessFlags := 25, slot := 3, constantValue := 0 }, { name := "LOG2_ARRAY_CHAR_INDEX_SCALE", type := .int, accessFlags := 25, slot := 4, constantValue := 0 }, { name := "LOG2_ARRAY_SHORT_INDEX_SCALE", type := .int, accessFlags := 25, slot := 5, constantValue := 0 }, { name := "LOG2_ARRAY_INT_INDEX_SCALE", type := .int, accessFlags := 25, slot := 6, constantValue := 0 }, { name := "LOG2_ARRAY_LONG_INDEX_SCALE", type := .int, accessFlags := 25, slot := 7, constantValue := 0 }, { name := "LOG2_ARRAY_FLOAT_INDEX_SCALE", type := .int, accessFlags := 25, slot := 8, constantValue := 0 }, { name := "LOG2_ARRAY_DOUBLE_INDEX_SCALE", type := .int, accessFlags := 25, slot := 9, constantValue := 0 }, { name := "LOG2_BYTE_BIT_SIZE", type := .int, accessFlags := 26, slot := 10, constantValue := 0 }, { name := "T_BOOLEAN", type := .int, accessFlags := 25, slot := 11, constantValue := 0 }, { name := "T_CHAR", type := .int, accessFlags := 25, slot := 12, constantValue := 0 }, { name := "T_FLOAT", type := .int, accessFlags := 25, slot := 13, constantValue := 0 }, { name := "T_DOUBLE", type := .int, accessFlags := 25, slot := 14, constantValue := 0 }, { name := "T_BYTE", type := .int, accessFlags := 25, slot := 15, constantValue := 0 }, { name := "T_SHORT", type := .int, accessFlags := 25, slot := 16, constantValue := 0 }, { name := "T_INT", type := .int, accessFlags := 25, slot := 17, constantValue := 0 }, { name := "T_LONG", type := .int, accessFlags := 25, slot := 18, constantValue := 0 }, { name := "JLA", type := (.object "jdk/internal/access/JavaLangAccess"), accessFlags := 26, slot := 19, constantValue := 0 }, { name := "SOFT_MAX_ARRAY_LENGTH", type := .int, accessFlags := 25, slot := 20, constantValue := 0 }]
  methods := #[k17m0]
  instanceTypes := #[]
  staticTypes := #[(.object "jdk/internal/misc/Unsafe"), .boolean, .int, .int, .int, .int, .int, .int, .int, .int, .int, .int, .int, .int, .int, .int, .int, .int, .int, (.object "jdk/internal/access/JavaLangAccess"), .int]
  resolved := Array.replicate 378 none
  statics := none }

def pool18 : Array CpInfo := pool [(1, u "java/lang/Cloneable"), (0, .class_ 1), (0, u "java/lang/Object"), (0, .class_ 3)] 3

/-- java/lang/Cloneable -/
def k18 : Class := { plain "java/lang/Cloneable" (some 0) with
  accessFlags := 1537
  interfaces := #[]
  cf := some (fileOf pool18 2 #[] #[] 1537 4 #[] #[])
  fields := #[]
  methods := #[]
  instanceTypes := #[]
  staticTypes := #[]
  resolved := Array.replicate 8 none
  statics := none }

/-- the primitive byte -/
def k19 : Class := { plain "byte" none with kind := .primitive 'B', accessFlags := 0x411 }
/-- [B -/
def k20 : Class := { plain "[B" (some 0) with kind := .array 19 .byte, interfaces := #[18, 2], accessFlags := 1041 }

/-- the primitive char -/
def k21 : Class := { plain "char" none with kind := .primitive 'C', accessFlags := 0x411 }
/-- [C -/
def k22 : Class := { plain "[C" (some 0) with kind := .array 21 .char, interfaces := #[18, 2], accessFlags := 1041 }

/-- the primitive int -/
def k23 : Class := { plain "int" none with kind := .primitive 'I', accessFlags := 0x411 }
/-- [I -/
def k24 : Class := { plain "[I" (some 0) with kind := .array 23 .int, interfaces := #[18, 2], accessFlags := 1041 }

def heap : Heap := #[{ cls := 7, slots := #[.long 0, .int 1, .null, .int 0, .null, .int 0, .int 0], vm := .statics 7 },
  { cls := 13, slots := #[.ref 3, .null, .null, .null], vm := .statics 13 },
  { cls := 16, slots := #[.null, .null, .null], vm := .statics 16 },
  { cls := 13, slots := #[.null, .int 0, .int 0], vm := .none }]
def classes : Array Class := #[k0, k1, k2, k3, k4, k5, k6, k7, k8, k9, k10, k11, k12, k13, k14, k15, k16, k17, k18, k19, k20, k21, k22, k23, k24]
def interned : List (Array UInt16 × Addr) := []
def slotsUsed : Nat := 17
def theMethod : MethodId := ⟨1, 2⟩
def args0 : Array Value := #[.int 5, .int 6, .int 7, .int 8, .int 9]
def aboutOver (below : List Frame) : State where
  vm := { classes := classes, interned := interned.toArray }
  heap := heap
  slotsUsed := slotsUsed
  threads := #[{ frames := .invoking theMethod args0 :: below }]
def below0 : List Frame := [.native { method := ⟨0, 0⟩, args := #[] }]
def about1 : State := aboutOver below0
def p0 : Program := .bare "" "" ""
def e0 : Env := launch0.env 0 0 0
theorem w_frames : about1.frames = Frame.invoking theMethod args0 :: below0 := rfl
set_option maxRecDepth 65536 in
theorem w_args : argsFit about1.vm theMethod args0 = true := by decide +kernel
set_option maxRecDepth 65536 in
theorem w_heap : heapFits about1 = true := by decide +kernel
set_option maxRecDepth 65536 in
theorem w_runnable : about1.curStatus? = some .runnable := by decide +kernel
set_option maxRecDepth 65536 in
theorem w_alone : about1.alone = true := by decide +kernel
set_option maxRecDepth 65536 in
theorem w_named : about1.methodNamed? x = some theMethod := by decide +kernel
set_option maxRecDepth 65536 in
theorem w_hears : about1.hears theMethod below0 = true := by decide +kernel
set_option maxRecDepth 65536 in
theorem w_ripe : about1.ripe theMethod args0 below0 = true := by decide +kernel
theorem w_running : about1.status = .running := rfl
set_option maxRecDepth 65536 in
theorem w_room : about1.hasRoom e0.platform room_1 = true :=
  launch0.hasRoom_least _ room_1 (by decide +kernel) (by decide +kernel) (by decide +kernel) (by decide +kernel) (by decide +kernel) (by decide +kernel)
theorem allAtoms_all (ts : List Jvm.Cond) (a : Array Jvm.Value) (st : Jvm.State) : (allAtoms ts).before a st = ts.all (fun c => c.before a st) := by
  induction ts with
  | nil => rfl
  | cons c t ih =>
    show (Jvm.Cond.and c (allAtoms t)).before a st = _
    rw [Jvm.Cond.before_and, ih, List.all_cons]
def words1 : List Jvm.Cond := Jvm.Cond.code x code maxLocals ret :: tables_1
/-- a 'code' word, met by the world's own term for the bytes: nothing is compared byte by byte -/
theorem code_word {y : MethodName} {bytes : ByteArray} {mx : Nat} {rt : Option FieldType} {a : Array Value} {s : State} {m : MethodId} {meth : Method} {c : Code} (h1 : s.methodNamed? y = some m) (h2 : s.vm.method? m = some meth) (h3 : meth.code = some c) (h4 : c.code = bytes)
    (h5 : (c.maxLocals == mx && c.exceptionTable.isEmpty && decide (c.maxStack ≤ mostOperands) && decide (meth.sig.returnType = rt) && !meth.locks && decide (parseMethodDescriptor y.desc = some meth.sig)) = true) : (Jvm.Cond.code y bytes mx rt).before a s = true := by
  simp only [Bool.and_eq_true, beq_iff_eq, Bool.not_eq_true', decide_eq_true_eq] at h5
  obtain ⟨⟨⟨⟨⟨g1, g2⟩, g3⟩, g4⟩, g5⟩, g6⟩ := h5
  simp [Cond.before, Cond.holds, Cond.value, h1, h2, h3, h4, g1, g2, g3, g4, g5, g6]
def isCode : Jvm.Cond → Bool
  | .code _ _ _ _ => true
  | _ => false
theorem all_split {L : List Jvm.Cond} {P : Jvm.Cond → Bool} (h1 : L.all (fun c => isCode c || P c) = true) (h2 : ∀ c ∈ L.filter isCode, P c = true) : L.all P = true := by
  refine List.all_eq_true.mpr fun c hc => ?_
  have h := List.all_eq_true.mp h1 c hc
  rcases Bool.eq_false_or_eq_true (isCode c) with hi | hi
  · exact h2 c (List.mem_filter.mpr ⟨hc, hi⟩)
  · simpa [hi] using h
set_option maxRecDepth 65536 in
theorem w_c0 : (Jvm.Cond.code x code maxLocals ret).before args0 about1 = true := code_word (m := ⟨1, 2⟩) (meth := k1m2) (c := k1c2) (by decide +kernel) rfl rfl rfl (by decide +kernel)
set_option maxRecDepth 65536 in
theorem w_c1 : (Jvm.Cond.code ({ cls := "com/example/planmend/planmend/pg/ColumnReferenceAllPinLaw", name := "drawColumn", desc := "(II)Ljava/lang/String;" } : Jvm.MethodName) method_2_code (4 : Nat) (Option.some (Jvm.ClassFile.FieldType.object "java/lang/String"))).before args0 about1 = true := code_word (m := ⟨1, 1⟩) (meth := k1m1) (c := k1c1) (by decide +kernel) rfl rfl rfl (by decide +kernel)
set_option maxRecDepth 65536 in
theorem w_c2 : (Jvm.Cond.code ({ cls := "java/lang/String", name := "<init>", desc := "([C)V" } : Jvm.MethodName) jdk_42_method_3_code (2 : Nat) (Option.none : Option Jvm.ClassFile.FieldType)).before args0 about1 = true := code_word (m := ⟨7, 1⟩) (meth := k7m1) (c := k7c1) (by decide +kernel) rfl rfl rfl (by decide +kernel)
set_option maxRecDepth 65536 in
theorem w_c3 : (Jvm.Cond.code ({ cls := "java/lang/String", name := "<init>", desc := "([CIILjava/lang/Void;)V" } : Jvm.MethodName) jdk_42_method_149_code (6 : Nat) (Option.none : Option Jvm.ClassFile.FieldType)).before args0 about1 = true := code_word (m := ⟨7, 3⟩) (meth := k7m3) (c := k7c3) (by decide +kernel) rfl rfl rfl (by decide +kernel)
set_option maxRecDepth 65536 in
theorem w_c4 : (Jvm.Cond.code ({ cls := "java/lang/Object", name := "<init>", desc := "()V" } : Jvm.MethodName) object_method_1_code (1 : Nat) (Option.none : Option Jvm.ClassFile.FieldType)).before args0 about1 = true := code_word (m := ⟨0, 0⟩) (meth := k0m0) (c := k0c0) (by decide +kernel) rfl rfl rfl (by decide +kernel)
set_option maxRecDepth 65536 in
theorem w_c5 : (Jvm.Cond.code ({ cls := "com/example/planmend/planmend/pg/SelectBlock$ColumnReference", name := "<init>", desc := "(IILcom/example/planmend/planmend/pg/FromItem$Leaf;Ljava/lang/String;)V" } : Jvm.MethodName) prog_47_method_1_code (5 : Nat) (Option.none : Option Jvm.ClassFile.FieldType)).before args0 about1 = true := code_word (m := ⟨9, 0⟩) (meth := k9m0) (c := k9c0) (by decide +kernel) rfl rfl rfl (by decide +kernel)
set_option maxRecDepth 65536 in
theorem w_c6 : (Jvm.Cond.code ({ cls := "java/lang/Record", name := "<init>", desc := "()V" } : Jvm.MethodName) jdk_30_method_1_code (1 : Nat) (Option.none : Option Jvm.ClassFile.FieldType)).before args0 about1 = true := code_word (m := ⟨8, 0⟩) (meth := k8m0) (c := k8c0) (by decide +kernel) rfl rfl rfl (by decide +kernel)
set_option maxRecDepth 65536 in
theorem w_c7 : (Jvm.Cond.code ({ cls := "com/example/planmend/planmend/pg/SelectBlock$ColumnReference", name := "all", desc := "()Z" } : Jvm.MethodName) prog_47_method_2_code (1 : Nat) (Option.some Jvm.ClassFile.FieldType.boolean)).before args0 about1 = true := code_word (m := ⟨9, 1⟩) (meth := k9m1) (c := k9c1) (by decide +kernel) rfl rfl rfl (by decide +kernel)
set_option maxRecDepth 65536 in
theorem w_c8 : (Jvm.Cond.code ({ cls := "com/example/planmend/planmend/pg/SelectBlock$ColumnReference", name := "token", desc := "()I" } : Jvm.MethodName) prog_47_method_6_code (1 : Nat) (Option.some Jvm.ClassFile.FieldType.int)).before args0 about1 = true := code_word (m := ⟨9, 2⟩) (meth := k9m2) (c := k9c2) (by decide +kernel) rfl rfl rfl (by decide +kernel)
set_option maxRecDepth 65536 in
theorem w_c9 : (Jvm.Cond.code ({ cls := "com/example/planmend/planmend/pg/SelectBlock$ColumnReference", name := "qualifier", desc := "()I" } : Jvm.MethodName) prog_47_method_7_code (1 : Nat) (Option.some Jvm.ClassFile.FieldType.int)).before args0 about1 = true := code_word (m := ⟨9, 3⟩) (meth := k9m3) (c := k9c3) (by decide +kernel) rfl rfl rfl (by decide +kernel)
set_option maxRecDepth 65536 in
theorem w_c10 : (Jvm.Cond.code ({ cls := "com/example/planmend/planmend/pg/SelectBlock$ColumnReference", name := "target", desc := "()Lcom/example/planmend/planmend/pg/FromItem$Leaf;" } : Jvm.MethodName) prog_47_method_8_code (1 : Nat) (Option.some (Jvm.ClassFile.FieldType.object "com/example/planmend/planmend/pg/FromItem$Leaf"))).before args0 about1 = true := code_word (m := ⟨9, 4⟩) (meth := k9m4) (c := k9c4) (by decide +kernel) rfl rfl rfl (by decide +kernel)
set_option maxRecDepth 65536 in
theorem w_c11 : (Jvm.Cond.code ({ cls := "com/example/planmend/planmend/pg/SelectBlock$ColumnReference", name := "column", desc := "()Ljava/lang/String;" } : Jvm.MethodName) prog_47_method_9_code (1 : Nat) (Option.some (Jvm.ClassFile.FieldType.object "java/lang/String"))).before args0 about1 = true := code_word (m := ⟨9, 5⟩) (meth := k9m5) (c := k9c5) (by decide +kernel) rfl rfl rfl (by decide +kernel)
set_option maxRecDepth 65536 in
theorem w_c12 : (Jvm.Cond.code ({ cls := "com/example/planmend/planmend/pg/FromItem$Leaf", name := "<init>", desc := "(Lcom/example/planmend/planmend/pg/FromItem$Source;Ljava/lang/String;Ljava/lang/String;IIIIILjava/util/List;Lcom/example/planmend/planmend/pg/WithQuery;)V" } : Jvm.MethodName) prog_26_method_1_code (11 : Nat) (Option.none : Option Jvm.ClassFile.FieldType)).before args0 about1 = true := code_word (m := ⟨11, 0⟩) (meth := k11m0) (c := k11c0) (by decide +kernel) rfl rfl rfl (by decide +kernel)
set_option maxRecDepth 65536 in
theorem w_c13 : (Jvm.Cond.code ({ cls := "java/lang/StringUTF16", name := "compress", desc := "([CII)[B" } : Jvm.MethodName) jdk_52_method_16_code (6 : Nat) (Option.some (Jvm.ClassFile.FieldType.array Jvm.ClassFile.FieldType.byte))).before args0 about1 = true := code_word (m := ⟨14, 2⟩) (meth := k14m2) (c := k14c2) (by decide +kernel) rfl rfl rfl (by decide +kernel)
set_option maxRecDepth 65536 in
theorem w_c14 : (Jvm.Cond.code ({ cls := "java/lang/StringUTF16", name := "compress", desc := "([CI[BII)I" } : Jvm.MethodName) jdk_52_method_21_code (7 : Nat) (Option.some Jvm.ClassFile.FieldType.int)).before args0 about1 = true := code_word (m := ⟨14, 3⟩) (meth := k14m3) (c := k14c3) (by decide +kernel) rfl rfl rfl (by decide +kernel)
set_option maxRecDepth 65536 in
theorem w_c15 : (Jvm.Cond.code ({ cls := "java/lang/StringUTF16", name := "coderFromArrayLen", desc := "([BI)B" } : Jvm.MethodName) jdk_52_method_15_code (2 : Nat) (Option.some Jvm.ClassFile.FieldType.byte)).before args0 about1 = true := code_word (m := ⟨14, 1⟩) (meth := k14m1) (c := k14c1) (by decide +kernel) rfl rfl rfl (by decide +kernel)
set_option maxRecDepth 65536 in
theorem w_c16 : (Jvm.Cond.code ({ cls := "java/lang/String", name := "valueOf", desc := "(C)Ljava/lang/String;" } : Jvm.MethodName) jdk_42_method_139_code (1 : Nat) (Option.some (Jvm.ClassFile.FieldType.object "java/lang/String"))).before args0 about1 = true := code_word (m := ⟨7, 2⟩) (meth := k7m2) (c := k7c2) (by decide +kernel) rfl rfl rfl (by decide +kernel)
set_option maxRecDepth 65536 in
theorem w_c17 : (Jvm.Cond.code ({ cls := "java/lang/StringLatin1", name := "canEncode", desc := "(C)Z" } : Jvm.MethodName) jdk_43_method_3_code (1 : Nat) (Option.some Jvm.ClassFile.FieldType.boolean)).before args0 about1 = true := code_word (m := ⟨15, 1⟩) (meth := k15m1) (c := k15c1) (by decide +kernel) rfl rfl rfl (by decide +kernel)
set_option maxRecDepth 65536 in
theorem w_c18 : (Jvm.Cond.code ({ cls := "java/lang/StringLatin1", name := "toBytes", desc := "(C)[B" } : Jvm.MethodName) jdk_43_method_46_code (1 : Nat) (Option.some (Jvm.ClassFile.FieldType.array Jvm.ClassFile.FieldType.byte))).before args0 about1 = true := code_word (m := ⟨15, 2⟩) (meth := k15m2) (c := k15c2) (by decide +kernel) rfl rfl rfl (by decide +kernel)
set_option maxRecDepth 65536 in
theorem w_c19 : (Jvm.Cond.code ({ cls := "java/lang/String", name := "<init>", desc := "([BB)V" } : Jvm.MethodName) jdk_42_method_151_code (3 : Nat) (Option.none : Option Jvm.ClassFile.FieldType)).before args0 about1 = true := code_word (m := ⟨7, 4⟩) (meth := k7m4) (c := k7c4) (by decide +kernel) rfl rfl rfl (by decide +kernel)
def codes1 : List Jvm.Cond := [Jvm.Cond.code x code maxLocals ret, Jvm.Cond.code ({ cls := "com/example/planmend/planmend/pg/ColumnReferenceAllPinLaw", name := "drawColumn", desc := "(II)Ljava/lang/String;" } : Jvm.MethodName) method_2_code (4 : Nat) (Option.some (Jvm.ClassFile.FieldType.object "java/lang/String")), Jvm.Cond.code ({ cls := "java/lang/String", name := "<init>", desc := "([C)V" } : Jvm.MethodName) jdk_42_method_3_code (2 : Nat) (Option.none : Option Jvm.ClassFile.FieldType), Jvm.Cond.code ({ cls := "java/lang/String", name := "<init>", desc := "([CIILjava/lang/Void;)V" } : Jvm.MethodName) jdk_42_method_149_code (6 : Nat) (Option.none : Option Jvm.ClassFile.FieldType), Jvm.Cond.code ({ cls := "java/lang/Object", name := "<init>", desc := "()V" } : Jvm.MethodName) object_method_1_code (1 : Nat) (Option.none : Option Jvm.ClassFile.FieldType), Jvm.Cond.code ({ cls := "com/example/planmend/planmend/pg/SelectBlock$ColumnReference", name := "<init>", desc := "(IILcom/example/planmend/planmend/pg/FromItem$Leaf;Ljava/lang/String;)V" } : Jvm.MethodName) prog_47_method_1_code (5 : Nat) (Option.none : Option Jvm.ClassFile.FieldType), Jvm.Cond.code ({ cls := "java/lang/Record", name := "<init>", desc := "()V" } : Jvm.MethodName) jdk_30_method_1_code (1 : Nat) (Option.none : Option Jvm.ClassFile.FieldType), Jvm.Cond.code ({ cls := "com/example/planmend/planmend/pg/SelectBlock$ColumnReference", name := "all", desc := "()Z" } : Jvm.MethodName) prog_47_method_2_code (1 : Nat) (Option.some Jvm.ClassFile.FieldType.boolean), Jvm.Cond.code ({ cls := "com/example/planmend/planmend/pg/SelectBlock$ColumnReference", name := "token", desc := "()I" } : Jvm.MethodName) prog_47_method_6_code (1 : Nat) (Option.some Jvm.ClassFile.FieldType.int), Jvm.Cond.code ({ cls := "com/example/planmend/planmend/pg/SelectBlock$ColumnReference", name := "qualifier", desc := "()I" } : Jvm.MethodName) prog_47_method_7_code (1 : Nat) (Option.some Jvm.ClassFile.FieldType.int), Jvm.Cond.code ({ cls := "com/example/planmend/planmend/pg/SelectBlock$ColumnReference", name := "target", desc := "()Lcom/example/planmend/planmend/pg/FromItem$Leaf;" } : Jvm.MethodName) prog_47_method_8_code (1 : Nat) (Option.some (Jvm.ClassFile.FieldType.object "com/example/planmend/planmend/pg/FromItem$Leaf")), Jvm.Cond.code ({ cls := "com/example/planmend/planmend/pg/SelectBlock$ColumnReference", name := "column", desc := "()Ljava/lang/String;" } : Jvm.MethodName) prog_47_method_9_code (1 : Nat) (Option.some (Jvm.ClassFile.FieldType.object "java/lang/String")), Jvm.Cond.code ({ cls := "com/example/planmend/planmend/pg/FromItem$Leaf", name := "<init>", desc := "(Lcom/example/planmend/planmend/pg/FromItem$Source;Ljava/lang/String;Ljava/lang/String;IIIIILjava/util/List;Lcom/example/planmend/planmend/pg/WithQuery;)V" } : Jvm.MethodName) prog_26_method_1_code (11 : Nat) (Option.none : Option Jvm.ClassFile.FieldType), Jvm.Cond.code ({ cls := "java/lang/StringUTF16", name := "compress", desc := "([CII)[B" } : Jvm.MethodName) jdk_52_method_16_code (6 : Nat) (Option.some (Jvm.ClassFile.FieldType.array Jvm.ClassFile.FieldType.byte)), Jvm.Cond.code ({ cls := "java/lang/StringUTF16", name := "compress", desc := "([CI[BII)I" } : Jvm.MethodName) jdk_52_method_21_code (7 : Nat) (Option.some Jvm.ClassFile.FieldType.int), Jvm.Cond.code ({ cls := "java/lang/StringUTF16", name := "coderFromArrayLen", desc := "([BI)B" } : Jvm.MethodName) jdk_52_method_15_code (2 : Nat) (Option.some Jvm.ClassFile.FieldType.byte), Jvm.Cond.code ({ cls := "java/lang/String", name := "valueOf", desc := "(C)Ljava/lang/String;" } : Jvm.MethodName) jdk_42_method_139_code (1 : Nat) (Option.some (Jvm.ClassFile.FieldType.object "java/lang/String")), Jvm.Cond.code ({ cls := "java/lang/StringLatin1", name := "canEncode", desc := "(C)Z" } : Jvm.MethodName) jdk_43_method_3_code (1 : Nat) (Option.some Jvm.ClassFile.FieldType.boolean), Jvm.Cond.code ({ cls := "java/lang/StringLatin1", name := "toBytes", desc := "(C)[B" } : Jvm.MethodName) jdk_43_method_46_code (1 : Nat) (Option.some (Jvm.ClassFile.FieldType.array Jvm.ClassFile.FieldType.byte)), Jvm.Cond.code ({ cls := "java/lang/String", name := "<init>", desc := "([BB)V" } : Jvm.MethodName) jdk_42_method_151_code (3 : Nat) (Option.none : Option Jvm.ClassFile.FieldType)]
set_option maxRecDepth 65536 in
theorem codes_eq : words1.filter isCode = codes1 := rfl
theorem w_codes : ∀ c ∈ words1.filter isCode, c.before args0 about1 = true := by
  rw [codes_eq]
  intro c hc
  simp only [codes1, List.mem_cons, List.not_mem_nil, or_false] at hc
  rcases hc with rfl | rfl | rfl | rfl | rfl | rfl | rfl | rfl | rfl | rfl | rfl | rfl | rfl | rfl | rfl | rfl | rfl | rfl | rfl | rfl
  · exact w_c0
  · exact w_c1
  · exact w_c2
  · exact w_c3
  · exact w_c4
  · exact w_c5
  · exact w_c6
  · exact w_c7
  · exact w_c8
  · exact w_c9
  · exact w_c10
  · exact w_c11
  · exact w_c12
  · exact w_c13
  · exact w_c14
  · exact w_c15
  · exact w_c16
  · exact w_c17
  · exact w_c18
  · exact w_c19
set_option maxRecDepth 65536 in
theorem w_t1 : (words1.take 24).all (fun c => isCode c || c.before args0 about1) = true := by decide +kernel
set_option maxRecDepth 65536 in
theorem w_t2 : ((words1.drop 24).take 24).all (fun c => isCode c || c.before args0 about1) = true := by decide +kernel
set_option maxRecDepth 65536 in
theorem w_t3 : (((words1.drop 24).drop 24).take 24).all (fun c => isCode c || c.before args0 about1) = true := by decide +kernel
set_option maxRecDepth 65536 in
theorem w_t4 : ((((words1.drop 24).drop 24).drop 24).take 24).all (fun c => isCode c || c.before args0 about1) = true := by decide +kernel
set_option maxRecDepth 65536 in
theorem w_t5 : (((((words1.drop 24).drop 24).drop 24).drop 24).take 24).all (fun c => isCode c || c.before args0 about1) = true := by decide +kernel
set_option maxRecDepth 65536 in
theorem w_t6 : (((((words1.drop 24).drop 24).drop 24).drop 24).drop 24).all (fun c => isCode c || c.before args0 about1) = true := by decide +kernel
theorem w_tables : (allAtoms (Jvm.Cond.code x code maxLocals ret :: tables_1)).before args0 about1 = true := by
  rw [allAtoms_all]
  show words1.all (fun c => c.before args0 about1) = true
  refine all_split ?_ w_codes
  rw [← List.take_append_drop 24 words1, List.all_append, w_t1, ← List.take_append_drop 24 (words1.drop 24), List.all_append, w_t2, ← List.take_append_drop 24 ((words1.drop 24).drop 24), List.all_append, w_t3, ← List.take_append_drop 24 (((words1.drop 24).drop 24).drop 24), List.all_append, w_t4, ← List.take_append_drop 24 ((((words1.drop 24).drop 24).drop 24).drop 24), List.all_append, w_t5, w_t6]
  rfl
set_option maxRecDepth 65536 in
theorem w_rest : rest_1_c.before args0 about1 = true := by decide +kernel
set_option maxRecDepth 65536 in
theorem w_case : (Jvm.Cond.and given_1 narrow_1).before args0 about1 = true := by decide +kernel
set_option maxRecDepth 65536 in
theorem w_consts : constsHeld consts_1 about1 := Jvm.Lit.constsHeldB_iff.mp (by decide +kernel)
theorem w_applies : (headSpec (Jvm.Cond.code x code maxLocals ret :: tables_1) room_1).applies x e0.platform about1 = true :=
  (Spec.applies_iff w_frames).mpr ⟨w_running, w_runnable, w_alone, w_named, w_hears, w_ripe, w_room, w_tables⟩
theorem atStart : AtStart classFile x code maxLocals ret World_1 tables_1 room_1 Calls_1 rest_1 Pre_1 launch0 p0 e0 about1 theMethod args0 below0 :=
  ⟨lists_1, trivial, launch0.admits_env _ _ _, launch0.least_env, fairChoices_fair.cas, fairChoices_fair.clock, w_frames, w_args, w_heap, w_applies, ⟨w_consts, trivial⟩, w_rest, w_case⟩
end start1
theorem witness_1 : WitnessClaimed_1 := ⟨start1.p0, start1.e0, start1.about1, start1.theMethod, start1.args0, start1.below0, start1.atStart⟩
end Jvm.Pilot.@@N@@
