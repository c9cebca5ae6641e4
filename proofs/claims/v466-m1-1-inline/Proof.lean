import JvmDerived
import JvmDerived.Pilot.@@N@@Statement
import JvmDerived.Pilot.@@N@@Code
set_option linter.unusedVariables false
set_option linter.unusedSimpArgs false
/- laws to paste: Road.backV, Road.codOf (cut by pick.py; bodies as the Statement names them) -/
namespace Jvm.Pilot.@@N@@
namespace StrChars
open Jvm Sem ClassFile Op Lib Jvm.Stand Jvm.Free.XT Jvm.Free.ALB Jvm.Free.JM Jvm.Free
open Jvm.Lib.Cold (StaticIs)
/-- a char array whose places are chars -/
def Ch (a : Addr) (A : Cell) (U : State) : Prop := Arr .char a A U ∧ Typed .char A
theorem Ch.mv {a : Addr} {A : Cell} {U U' : State} (h : Ch a A U) (hal : U.vm.Alike U'.vm) (hh : U'.heap = U.heap) : Ch a A U' := ⟨h.1.mv hal hh, h.2⟩
theorem Ch.keep {a : Addr} {A : Cell} {U U' : State} (h : Ch a A U) (hal : U.vm.Alike U'.vm) (hk : U'.heap[a]? = some A) : Ch a A U' := ⟨h.1.keep hal hk, h.2⟩
/-- what place i of a char[]'s cell holds -/
def cv (A : Cell) (i : Nat) : Int32 := match A.slots[i]? with | some (.int x) => x | _ => 0
theorem Ch.get {a : Addr} {A : Cell} {U : State} (h : Ch a A U) {i : Nat} (hi : i < A.slots.size) : A.slots[i]? = some (.int (cv A i)) := by
  have e := Array.getElem?_eq_getElem hi
  have f := h.2 i _ e
  unfold cv; rw [e]
  generalize A.slots[i] = v at f
  cases v <;> simp [fits] at f ⊢
/-- the byte that i2b leaves of a char -/
def lo8 (x : Int32) : Int32 := x.toInt8.toInt32
theorem fits_lo8 (y : Int32) : fits .byte (.int (lo8 y)) = true := by
  have h1 := y.toInt8.le_toInt
  have h2 := y.toInt8.toInt_lt
  simp only [lo8, fits, Bool.and_eq_true, decide_eq_true_eq, Int32.le_iff_toInt_le, Int8.toInt_toInt32, show (-128 : Int32).toInt = -128 from by decide, show (127 : Int32).toInt = 127 from by decide]
  omega
/-- A' is A but that each place j of lo .. hi - 1 holds f j -/
def Laid (A A' : Cell) (lo hi : Nat) (f : Nat → Value) : Prop := A'.cls = A.cls ∧ A'.vm = A.vm ∧ A'.slots.size = A.slots.size ∧ ∀ i, A'.slots[i]? = if lo ≤ i ∧ i < hi then some (f i) else A.slots[i]?
theorem Laid.zero (A : Cell) (lo : Nat) (f : Nat → Value) : Laid A A lo (lo + 0) f := ⟨rfl, rfl, rfl, fun i => by rw [if_neg (by omega)]⟩
theorem Laid.step {A Ak : Cell} {lo k : Nat} {f : Nat → Value} {v : Value} (h : Laid A Ak lo k f) (hlo : lo ≤ k) (hk : k < Ak.slots.size) (hv : v = f k) : Laid A (Ak.setSlot k v) lo (k + 1) f := by
  refine ⟨h.1, h.2.1, by simpa [Cell.setSlot] using h.2.2.1, fun i => ?_⟩
  by_cases e : k = i
  · subst e; rw [Cell.slots_setSlot_self v hk, if_pos (by omega), hv]
  · rw [Cell.slots_setSlot_ne v e, h.2.2.2 i]
    by_cases q : lo ≤ i ∧ i < k
    · rw [if_pos q, if_pos (by omega)]
    · rw [if_neg q, if_neg (by omega)]
def U16 : String := "java/lang/StringUTF16"
namespace Cmp5
def yN : MethodName := ⟨"java/lang/StringUTF16", "compress", "([CI[BII)I"⟩
abbrev yB : ByteArray := jdk_52_method_21_code
theorem d0 : decode yB 0 = .ok (.iconst 0, 1) := by decide +kernel
theorem d1 : decode yB 1 = .ok (.istore 5, 2) := by decide +kernel
theorem d3 : decode yB 3 = .ok (.iload 5, 2) := by decide +kernel
theorem d5 : decode yB 5 = .ok (.iload 4, 2) := by decide +kernel
theorem d7 : decode yB 7 = .ok (.if_icmp (.ge) 37, 3) := by decide +kernel
theorem d10 : decode yB 10 = .ok (.aload_n 0, 1) := by decide +kernel
theorem d11 : decode yB 11 = .ok (.iload_n 1, 1) := by decide +kernel
theorem d12 : decode yB 12 = .ok (.caload, 1) := by decide +kernel
theorem d13 : decode yB 13 = .ok (.istore 6, 2) := by decide +kernel
theorem d15 : decode yB 15 = .ok (.iload 6, 2) := by decide +kernel
theorem d17 : decode yB 17 = .ok (.sipush 255, 3) := by decide +kernel
theorem d20 : decode yB 20 = .ok (.if_icmp (.le) 6, 3) := by decide +kernel
theorem d26 : decode yB 26 = .ok (.aload_n 2, 1) := by decide +kernel
theorem d27 : decode yB 27 = .ok (.iload_n 3, 1) := by decide +kernel
theorem d28 : decode yB 28 = .ok (.iload 6, 2) := by decide +kernel
theorem d30 : decode yB 30 = .ok (.i2b, 1) := by decide +kernel
theorem d31 : decode yB 31 = .ok (.bastore, 1) := by decide +kernel
theorem d32 : decode yB 32 = .ok (.iinc 1 1, 3) := by decide +kernel
theorem d35 : decode yB 35 = .ok (.iinc 3 1, 3) := by decide +kernel
theorem d38 : decode yB 38 = .ok (.iinc 5 1, 3) := by decide +kernel
theorem d41 : decode yB 41 = .ok (.goto (-38), 3) := by decide +kernel
theorem d44 : decode yB 44 = .ok (.iload 4, 2) := by decide +kernel
theorem d46 : decode yB 46 = .ok (.ireturn, 1) := by decide +kernel
def site : List Cond := []
def tab : Cond := tabOf yN yB 7 (some .int) site
def P (b : Addr) (A : Cell) (d : Addr) (B : Cell) (o q len : Nat) (args : Array Value) (s : State) : Prop := args = #[.ref b, .int (Int32.ofNat o), .ref d, .int (Int32.ofNat q), .int (Int32.ofNat len)] ∧ Ch b A s ∧ Arr .byte d B s ∧ b ≠ d ∧ o + len ≤ A.slots.size ∧ q + len ≤ B.slots.size ∧ ∀ i, i < len → ¬ 255 < cv A (o + i)
def E (b : Addr) (A : Cell) (d : Addr) (B : Cell) (o q len : Nat) (r : Option Value) (s u : State) : Prop := r = some (.int (Int32.ofNat len)) ∧ ∃ B', Put d B' s u ∧ Laid B B' q (q + len) (fun j => Value.int (lo8 (cv A (o + (j - q)))))
/-- no char of the range above 255: len; the places written hold each char's low byte -/
theorem law (l : Launch) (b : Addr) (A : Cell) (d : Addr) (B : Cell) (o q len : Nat) : Law l yN 5 5 0 0 yB 7 (some .int) site (P b A d B o q len) (E b A d B o q len) (copyLocs d q len) 0 0 := by
  refine Law.of_walk (plainFor_of_name (by decide +kernel)) (by decide +kernel) (by decide +kernel) (by decide) (fun _ _ h => by rw [h.1]; rfl) (fun _ U U' hal hh h => ⟨h.1, h.2.1.mv hal hh, h.2.2.1.mv hal hh, h.2.2.2⟩) (fun r U U' V V' h1 hal h2 h => ⟨h.1, h.2.elim fun B' q => ⟨B', q.1.mv h1 h2, q.2⟩⟩) ?_
  intro p e s m args below meth c s₁ X0 hexec hbytes hml hret hlk hnm hown hh0 W hP
  obtain ⟨rfl, hA, hB, hne, l1, l2, hp⟩ := hP
  have c1 : Steps p.tables e below (s₁.setTop (entryFrame m #[.ref b, .int (Int32.ofNat o), .ref d, .int (Int32.ofNat q), .int (Int32.ofNat len)] 7)) (s₁.setTop (mkF m 0 #[.val (.ref b), .val (.int (Int32.ofNat o)), .val (.ref d), .val (.int (Int32.ofNat q)), .val (.int (Int32.ofNat len)), .unset, .unset] [])) := entry rfl
  have hA0 := hA.1.mv X0.warmed.alike hh0
  have hB0 := hB.mv X0.warmed.alike hh0
  have a31 := hA.1.2.2.2
  have c2 : Steps p.tables e below (s₁.setTop (entryFrame m #[.ref b, .int (Int32.ofNat o), .ref d, .int (Int32.ofNat q), .int (Int32.ofNat len)] 7)) (s₁.setTop (mkF m 3 #[.val (.ref b), .val (.int (Int32.ofNat o)), .val (.ref d), .val (.int (Int32.ofNat q)), .val (.int (Int32.ofNat len)), .val (.int 0), .unset] [])) := c1.trans (by
    refine iconstV X0.here hexec rfl 0 (hb hbytes d0) (by decide) ?_
    refine XS.istore X0.here hexec rfl (hb hbytes d1) rfl rfl ?_
    exact Steps.refl _)
  have loop : ∀ (r i : Nat), i + r = len → ∀ (z : Slot), (z = .unset ∨ ∃ w, z = .val w ∧ w.category = 1) → ∀ (Tl : State) (Bk : Cell), Stand p l e { frames := 0, locals := 0, cells := 0, slots := 0 } s m #[.ref b, .int (Int32.ofNat o), .ref d, .int (Int32.ofNat q), .int (Int32.ofNat len)] below meth c Tl ([] ++ copyLocs d q i) 0 0 → Put d Bk s₁ Tl → Laid B Bk q (q + i) (fun j => Value.int (lo8 (cv A (o + (j - q))))) →
      Steps p.tables e below (s₁.setTop (entryFrame m #[.ref b, .int (Int32.ofNat o), .ref d, .int (Int32.ofNat q), .int (Int32.ofNat len)] 7)) (Tl.setTop (mkF m 3 #[.val (.ref b), .val (.int (Int32.ofNat (o + i))), .val (.ref d), .val (.int (Int32.ofNat (q + i))), .val (.int (Int32.ofNat len)), .val (.int (Int32.ofNat i)), z] [])) → ∃ (T' : State) (B' : Cell) (z' : Slot), Stand p l e { frames := 0, locals := 0, cells := 0, slots := 0 } s m #[.ref b, .int (Int32.ofNat o), .ref d, .int (Int32.ofNat q), .int (Int32.ofNat len)] below meth c T' ([] ++ copyLocs d q len) 0 0 ∧ Put d B' s₁ T' ∧ Laid B B' q (q + len) (fun j => Value.int (lo8 (cv A (o + (j - q))))) ∧
      Steps p.tables e below (s₁.setTop (entryFrame m #[.ref b, .int (Int32.ofNat o), .ref d, .int (Int32.ofNat q), .int (Int32.ofNat len)] 7)) (T'.setTop (mkF m 3 #[.val (.ref b), .val (.int (Int32.ofNat (o + len))), .val (.ref d), .val (.int (Int32.ofNat (q + len))), .val (.int (Int32.ofNat len)), .val (.int (Int32.ofNat len)), z'] [])) := by
    intro r
    induction r with
    | zero =>
      intro i hi z hz Tl Bk Xl pl fl cl
      have hil : i = len := by omega
      rw [hil] at Xl fl cl
      exact ⟨Tl, Bk, z, Xl, pl, fl, cl⟩
    | succ r ih =>
      intro i hi z hz Tl Bk Xl pl fl cl
      have all := X0.warmed.alike.symm.trans Xl.warmed.alike
      have hAl := hA0.keep all (pl.other hne hA0.1)
      have hBk := hB0.like all pl.1 fl.1 fl.2.1 fl.2.2.1
      have hlt : q + i < Bk.slots.size := by rw [fl.2.2.1]; omega
      have c3 : Steps p.tables e below (s₁.setTop (entryFrame m #[.ref b, .int (Int32.ofNat o), .ref d, .int (Int32.ofNat q), .int (Int32.ofNat len)] 7)) (Tl.setTop (mkF m 12 #[.val (.ref b), .val (.int (Int32.ofNat (o + i))), .val (.ref d), .val (.int (Int32.ofNat (q + i))), .val (.int (Int32.ofNat len)), .val (.int (Int32.ofNat i)), z] [.int (Int32.ofNat (o + i)), .ref b])) := cl.trans (by
        refine XS.iload Xl.here hexec rfl (hb hbytes d3) rfl ?_
        refine XS.iload Xl.here hexec rfl (hb hbytes d5) rfl ?_
        refine XS.icmpNo Xl.here hexec rfl (hb hbytes d7) rfl (ii_ge_f (lt32 (by omega) (by omega))) ?_
        refine XS.aloadN Xl.here hexec rfl (hb hbytes d10) rfl rfl ?_
        refine XS.iloadN Xl.here hexec rfl (hb hbytes d11) rfl ?_
        exact Steps.refl _)
      have c4 : Steps p.tables e below (s₁.setTop (entryFrame m #[.ref b, .int (Int32.ofNat o), .ref d, .int (Int32.ofNat q), .int (Int32.ofNat len)] 7)) (Tl.setTop (mkF m 13 #[.val (.ref b), .val (.int (Int32.ofNat (o + i))), .val (.ref d), .val (.int (Int32.ofNat (q + i))), .val (.int (Int32.ofNat len)), .val (.int (Int32.ofNat i)), z] [.int (cv A (o + i))])) := c3.trans (by
        refine Xl.aget hexec hAl rfl (hA.get (i := o + i) (by omega)) rfl rfl (hb hbytes d12) ?_
        exact Steps.refl _)
      have c5 : Steps p.tables e below (s₁.setTop (entryFrame m #[.ref b, .int (Int32.ofNat o), .ref d, .int (Int32.ofNat q), .int (Int32.ofNat len)] 7)) (Tl.setTop (mkF m 15 #[.val (.ref b), .val (.int (Int32.ofNat (o + i))), .val (.ref d), .val (.int (Int32.ofNat (q + i))), .val (.int (Int32.ofNat len)), .val (.int (Int32.ofNat i)), .val (.int (cv A (o + i)))] [])) := c4.trans (by
        refine XS.istoreS Xl.here hexec rfl (hb hbytes d13) rfl rfl hz ?_
        exact Steps.refl _)
      have c6 : Steps p.tables e below (s₁.setTop (entryFrame m #[.ref b, .int (Int32.ofNat o), .ref d, .int (Int32.ofNat q), .int (Int32.ofNat len)] 7)) (Tl.setTop (mkF m 31 #[.val (.ref b), .val (.int (Int32.ofNat (o + i))), .val (.ref d), .val (.int (Int32.ofNat (q + i))), .val (.int (Int32.ofNat len)), .val (.int (Int32.ofNat i)), .val (.int (cv A (o + i)))] [.int (lo8 (cv A (o + i))), .int (Int32.ofNat (q + i)), .ref d])) := c5.trans (by
        refine XS.iload Xl.here hexec rfl (hb hbytes d15) rfl ?_
        refine sipushV Xl.here hexec rfl 255 (hb hbytes d17) (by decide) ?_
        refine XS.icmpYes Xl.here hexec rfl (pc0 := 20) rfl (hb hbytes d20) rfl (ii_le_t (hp i (by omega))) (by decide) rfl ?_
        refine XS.aloadN Xl.here hexec rfl (hb hbytes d26) rfl rfl ?_
        refine XS.iloadN Xl.here hexec rfl (hb hbytes d27) rfl ?_
        refine XS.iload Xl.here hexec rfl (hb hbytes d28) rfl ?_
        refine i2b Xl.here hexec rfl (hb hbytes d30) rfl ?_
        exact Steps.refl _)
      obtain ⟨T7, X7, p7, st7⟩ := Xl.aput hexec hBk rfl hlt rfl (fits_lo8 (cv A (o + i))) (g := (mkF m 31 #[.val (.ref b), .val (.int (Int32.ofNat (o + i))), .val (.ref d), .val (.int (Int32.ofNat (q + i))), .val (.int (Int32.ofNat len)), .val (.int (Int32.ofNat i)), .val (.int (cv A (o + i)))] [.int (lo8 (cv A (o + i))), .int (Int32.ofNat (q + i)), .ref d])) rfl (rest := []) rfl (hb hbytes d31)
      have c8 : Steps p.tables e below (s₁.setTop (entryFrame m #[.ref b, .int (Int32.ofNat o), .ref d, .int (Int32.ofNat q), .int (Int32.ofNat len)] 7)) (T7.setTop (mkF m 32 #[.val (.ref b), .val (.int (Int32.ofNat (o + i))), .val (.ref d), .val (.int (Int32.ofNat (q + i))), .val (.int (Int32.ofNat len)), .val (.int (Int32.ofNat i)), .val (.int (cv A (o + i)))] [])) := c6.trans (st7 _ (Steps.refl _))
      have c9 : Steps p.tables e below (s₁.setTop (entryFrame m #[.ref b, .int (Int32.ofNat o), .ref d, .int (Int32.ofNat q), .int (Int32.ofNat len)] 7)) (T7.setTop (mkF m 3 #[.val (.ref b), .val (.int (Int32.ofNat (o + i) + 1)), .val (.ref d), .val (.int (Int32.ofNat (q + i) + 1)), .val (.int (Int32.ofNat len)), .val (.int (Int32.ofNat i + 1)), .val (.int (cv A (o + i)))] [])) := c8.trans (by
        refine iincV X7.here hexec rfl 1 (hb hbytes d32) (by decide) rfl rfl ?_
        refine iincV X7.here hexec rfl 1 (hb hbytes d35) (by decide) rfl rfl ?_
        refine iincV X7.here hexec rfl 1 (hb hbytes d38) (by decide) rfl rfl ?_
        refine XS.goto X7.here hexec rfl (pc0 := 41) rfl (hb hbytes d41) (by decide) rfl ?_
        exact Steps.refl _)
      have c10 : Steps p.tables e below (s₁.setTop (entryFrame m #[.ref b, .int (Int32.ofNat o), .ref d, .int (Int32.ofNat q), .int (Int32.ofNat len)] 7)) (T7.setTop (mkF m 3 #[.val (.ref b), .val (.int (Int32.ofNat (o + (i + 1)))), .val (.ref d), .val (.int (Int32.ofNat (q + (i + 1)))), .val (.int (Int32.ofNat len)), .val (.int (Int32.ofNat (i + 1))), .val (.int (cv A (o + i)))] [])) := by
        have := c9
        rw [succ32, succ32, succ32] at this
        exact this
      exact ih (i + 1) (by omega) _ (Or.inr ⟨_, rfl, rfl⟩) T7 _ (by rw [copyLocs_step, ← List.append_assoc]; exact X7) (pl.trans p7) (fl.step (by omega) hlt (by simp)) c10
  obtain ⟨T9, B9, z9, X9, p9, f9, g9⟩ := loop len 0 (by omega) .unset (Or.inl rfl) s₁ B (by simpa [copyLocs] using X0) ⟨hB0.1, fun _ _ => rfl, rfl⟩ (Laid.zero _ _ _) c2
  have c11 : Steps p.tables e below (s₁.setTop (entryFrame m #[.ref b, .int (Int32.ofNat o), .ref d, .int (Int32.ofNat q), .int (Int32.ofNat len)] 7)) (T9.setTop (mkF m 46 #[.val (.ref b), .val (.int (Int32.ofNat (o + len))), .val (.ref d), .val (.int (Int32.ofNat (q + len))), .val (.int (Int32.ofNat len)), .val (.int (Int32.ofNat len)), z9] [.int (Int32.ofNat len)])) := g9.trans (by
    refine XS.iload X9.here hexec rfl (hb hbytes d3) rfl ?_
    refine XS.iload X9.here hexec rfl (hb hbytes d5) rfl ?_
    refine XS.icmpYes X9.here hexec rfl (pc0 := 7) rfl (hb hbytes d7) rfl (ii_ge_t (nlt32 (by omega) (Nat.le_refl _))) (by decide) rfl ?_
    refine XS.iload X9.here hexec rfl (hb hbytes d44) rfl ?_
    exact Steps.refl _)
  exact ⟨T9, some (.int (Int32.ofNat len)), _, _, _, X9, by simp, rfl, rfl, (fun h => by cases h), ⟨rfl, B9, p9.from hh0, f9⟩, fun fs hl => c11.trans (X9.ireturnOut hexec hret rfl (Or.inl rfl) (hb hbytes d46) hl)⟩
end Cmp5
namespace Cmp3
def yN : MethodName := ⟨"java/lang/StringUTF16", "compress", "([CII)[B"⟩
abbrev yB : ByteArray := jdk_52_method_16_code
theorem d0 : decode yB 0 = .ok (.iload_n 2, 1) := by decide +kernel
theorem d1 : decode yB 1 = .ok (.newarray .byte, 2) := by decide +kernel
theorem d3 : decode yB 3 = .ok (.astore_n 3, 1) := by decide +kernel
theorem d4 : decode yB 4 = .ok (.aload_n 0, 1) := by decide +kernel
theorem d5 : decode yB 5 = .ok (.iload_n 1, 1) := by decide +kernel
theorem d6 : decode yB 6 = .ok (.aload_n 3, 1) := by decide +kernel
theorem d7 : decode yB 7 = .ok (.iconst 0, 1) := by decide +kernel
theorem d8 : decode yB 8 = .ok (.iload_n 2, 1) := by decide +kernel
theorem d9 : decode yB 9 = .ok (.invokestatic 115, 3) := by decide +kernel
theorem d12 : decode yB 12 = .ok (.istore 4, 2) := by decide +kernel
theorem d14 : decode yB 14 = .ok (.iload 4, 2) := by decide +kernel
theorem d16 : decode yB 16 = .ok (.iload_n 2, 1) := by decide +kernel
theorem d17 : decode yB 17 = .ok (.if_icmp (.eq) 40, 3) := by decide +kernel
theorem d57 : decode yB 57 = .ok (.aload_n 3, 1) := by decide +kernel
theorem d58 : decode yB 58 = .ok (.areturn, 1) := by decide +kernel
def site : List Cond := [.arrayClass .byte, Cmp5.tab] ++ staticW U16 115 Cmp5.yN
def tab : Cond := tabOf yN yB 6 (some (.array .byte)) site
def P (b : Addr) (A : Cell) (o len : Nat) (args : Array Value) (s : State) : Prop := args = #[.ref b, .int (Int32.ofNat o), .int (Int32.ofNat len)] ∧ Ch b A s ∧ o + len ≤ A.slots.size ∧ len ≤ 536870912 ∧ ∀ i, i < len → ¬ 255 < cv A (o + i)
def E (b : Addr) (A : Cell) (o len : Nat) (r : Option Value) (s u : State) : Prop := NewArr .byte "[B" len (fun j => .int (lo8 (cv A (o + j)))) r s u ∧ u.heap.size = s.heap.size + 1
/-- no char of the range above 255: a new byte[] of their low bytes -/
theorem law (l : Launch) (b : Addr) (A : Cell) (o len : Nat) : Law l yN 3 3 1 18 yB 6 (some (.array .byte)) site (P b A o len) (E b A o len) [] 1 len := by
  refine Law.of_walk (plainFor_of_name (by decide +kernel)) (by decide +kernel) (by decide +kernel) (by decide) (fun _ _ h => by rw [h.1]; rfl) (fun _ U U' hal hh h => ⟨h.1, h.2.1.mv hal hh, h.2.2⟩) (fun r U U' V V' h1 hal h2 h => ⟨NewArr.mv r U U' V V' h1 hal h2 h.1, by rw [h1, h2]; exact h.2⟩) ?_
  intro p e s m args below meth c s₁ X0 hexec hbytes hml hret hlk hnm hown hh0 W hP
  obtain ⟨rfl, hA, l1, l2, hp⟩ := hP
  have a31 := hA.1.2.2.2
  have c1 : Steps p.tables e below (s₁.setTop (entryFrame m #[.ref b, .int (Int32.ofNat o), .int (Int32.ofNat len)] 6)) (s₁.setTop (mkF m 0 #[.val (.ref b), .val (.int (Int32.ofNat o)), .val (.int (Int32.ofNat len)), .unset, .unset, .unset] [])) := entry rfl
  have c2 : Steps p.tables e below (s₁.setTop (entryFrame m #[.ref b, .int (Int32.ofNat o), .int (Int32.ofNat len)] 6)) (s₁.setTop (mkF m 1 #[.val (.ref b), .val (.int (Int32.ofNat o)), .val (.int (Int32.ofNat len)), .unset, .unset, .unset] [.int (Int32.ofNat len)])) := c1.trans (by
    refine XS.iloadN X0.here hexec rfl (hb hbytes d0) rfl ?_
    exact Steps.refl _)
  obtain ⟨T3, B3, X3, ba3, bs3, bv3, bh3, bf3, st3⟩ := X0.anew hexec (atype := .byte) (wk W (.arrayClass .byte)) rfl (by show len * 1 ≤ _; omega) (by omega) (g := (mkF m 1 #[.val (.ref b), .val (.int (Int32.ofNat o)), .val (.int (Int32.ofNat len)), .unset, .unset, .unset] [.int (Int32.ofNat len)])) rfl (hb hbytes d1) (rest := []) rfl (Nat.le_refl _) (by show 0 + len ≤ len; omega)
  rw [hh0] at ba3 st3
  have kp3 : XT.Kept s T3 := (XT.Kept.of_eq hh0).push bh3
  have hA3 := hA.keep X3.warmed.alike (kp3 _ _ hA.1.1)
  have hne : b ≠ s.heap.size := hA.1.ne
  have c4 : Steps p.tables e below (s₁.setTop (entryFrame m #[.ref b, .int (Int32.ofNat o), .int (Int32.ofNat len)] 6)) (T3.setTop (mkF m 3 #[.val (.ref b), .val (.int (Int32.ofNat o)), .val (.int (Int32.ofNat len)), .unset, .unset, .unset] [.ref s.heap.size])) := c2.trans (st3 _ (Steps.refl _))
  have c5 : Steps p.tables e below (s₁.setTop (entryFrame m #[.ref b, .int (Int32.ofNat o), .int (Int32.ofNat len)] 6)) (T3.setTop (mkF m 9 #[.val (.ref b), .val (.int (Int32.ofNat o)), .val (.int (Int32.ofNat len)), .val (.ref s.heap.size), .unset, .unset] [.int (Int32.ofNat len), .int 0, .ref s.heap.size, .int (Int32.ofNat o), .ref b])) := c4.trans (by
    refine XS.astoreN X3.here hexec rfl (hb hbytes d3) rfl rfl rfl ?_
    refine XS.aloadN X3.here hexec rfl (hb hbytes d4) rfl rfl ?_
    refine XS.iloadN X3.here hexec rfl (hb hbytes d5) rfl ?_
    refine XS.aloadN X3.here hexec rfl (hb hbytes d6) rfl rfl ?_
    refine iconstV X3.here hexec rfl 0 (hb hbytes d7) (by decide) ?_
    refine XS.iloadN X3.here hexec rfl (hb hbytes d8) rfl ?_
    exact Steps.refl _)
  obtain ⟨v6, T6, X6, E6, g6⟩ := X3.callS hexec (Cmp5.law l b A s.heap.size B3 o 0 len) hown (wks W (staticW U16 115 Cmp5.yN)) (wk W Cmp5.tab) (W := 0) (Nat.le_of_ble_eq_true rfl) (Nat.le_of_ble_eq_true rfl) (Nat.le_refl _) (by show 0 + len + 0 ≤ len; omega) (g := (mkF m 9 #[.val (.ref b), .val (.int (Int32.ofNat o)), .val (.int (Int32.ofNat len)), .val (.ref s.heap.size), .unset, .unset] [.int (Int32.ofNat len), .int (Int32.ofNat 0), .ref s.heap.size, .int (Int32.ofNat o), .ref b])) rfl (by rw [hml]; rfl) c5 (argsL := [.ref b, .int (Int32.ofNat o), .ref s.heap.size, .int (Int32.ofNat 0), .int (Int32.ofNat len)]) (rest := []) rfl rfl (by show 2 * 0 + 0 ≤ _; decide) (hb hbytes d9) (⟨rfl, hA3, ba3, hne, l1, by rw [bs3]; simp, hp⟩)
  obtain ⟨rfl, B6, p6, f6⟩ := E6
  have c7 : Steps p.tables e below (s₁.setTop (entryFrame m #[.ref b, .int (Int32.ofNat o), .int (Int32.ofNat len)] 6)) (T6.setTop (mkF m 12 #[.val (.ref b), .val (.int (Int32.ofNat o)), .val (.int (Int32.ofNat len)), .val (.ref s.heap.size), .unset, .unset] [.int (Int32.ofNat len)])) := g6
  have c8 : Steps p.tables e below (s₁.setTop (entryFrame m #[.ref b, .int (Int32.ofNat o), .int (Int32.ofNat len)] 6)) (T6.setTop (mkF m 58 #[.val (.ref b), .val (.int (Int32.ofNat o)), .val (.int (Int32.ofNat len)), .val (.ref s.heap.size), .val (.int (Int32.ofNat len)), .unset] [.ref s.heap.size])) := c7.trans (by
    refine XS.istore X6.here hexec rfl (hb hbytes d12) rfl rfl ?_
    refine XS.iload X6.here hexec rfl (hb hbytes d14) rfl ?_
    refine XS.iloadN X6.here hexec rfl (hb hbytes d16) rfl ?_
    refine XS.icmpYes X6.here hexec rfl (pc0 := 17) rfl (hb hbytes d17) rfl (ii_eq_t rfl) (by decide) rfl ?_
    refine XS.aloadN X6.here hexec rfl (hb hbytes d57) rfl rfl ?_
    exact Steps.refl _)
  have X8 := X6.wide (L' := []) (cells' := 1) (slots' := len) (fun x hx hlt => by
    simp only [List.nil_append, copyLocs, List.mem_map, List.mem_range] at hx
    obtain ⟨i, -, rfl⟩ := hx
    exact absurd hlt (Nat.lt_irrefl _)) (Nat.le_refl _) (by omega)
  exact ⟨T6, some (.ref s.heap.size), _, _, _, X8, rfl, rfl, rfl, (fun h => by cases h), ⟨⟨rfl, B6, ba3.like (X3.warmed.alike.symm.trans X6.warmed.alike) p6.1 f6.1 f6.2.1 f6.2.2.1, f6.2.1.trans bv3, by rw [X6.warmed.alike.findClass, f6.1]; exact bf3, by rw [f6.2.2.1, bs3]; simp, fun j hj => by rw [f6.2.2.2 j, if_pos (by omega)]; rfl, kp3.put p6 (Nat.le_refl _)⟩, by rw [p6.2.2, bh3, hh0]; simp⟩, fun fs hl => c8.trans (X8.areturnOut hexec rfl hret rfl (hb hbytes d58) hl)⟩
end Cmp3
namespace CodL
def yN : MethodName := ⟨"java/lang/StringUTF16", "coderFromArrayLen", "([BI)B"⟩
abbrev yB : ByteArray := jdk_52_method_15_code
theorem d0 : decode yB 0 = .ok (.iload_n 1, 1) := by decide +kernel
theorem d1 : decode yB 1 = .ok (.aload_n 0, 1) := by decide +kernel
theorem d2 : decode yB 2 = .ok (.arraylength, 1) := by decide +kernel
theorem d3 : decode yB 3 = .ok (.isub, 1) := by decide +kernel
theorem d4 : decode yB 4 = .ok (.bipush 31, 2) := by decide +kernel
theorem d6 : decode yB 6 = .ok (.iushr, 1) := by decide +kernel
theorem d7 : decode yB 7 = .ok (.i2b, 1) := by decide +kernel
theorem d8 : decode yB 8 = .ok (.ireturn, 1) := by decide +kernel
def site : List Cond := []
def tab : Cond := tabOf yN yB 2 (some .byte) site
def P (d : Addr) (B : Cell) (args : Array Value) (s : State) : Prop := args = #[.ref d, .int (Int32.ofNat B.slots.size)] ∧ Arr .byte d B s
def E (r : Option Value) (s u : State) : Prop := XT.PureE (some (.int 0)) r s u
/-- an array as long as the number of chars: LATIN1 -/
theorem law (l : Launch) (d : Addr) (B : Cell) : Law l yN 2 2 0 0 yB 2 (some .byte) site (P d B) E [] 0 0 := by
  refine Law.of_walk (plainFor_of_name (by decide +kernel)) (by decide +kernel) (by decide +kernel) (by decide) (fun _ _ h => by rw [h.1]; rfl) (fun _ U U' hal hh h => ⟨h.1, h.2.mv hal hh⟩) (fun r U U' V V' h1 hal h2 h => XT.PureE.mv r U U' V V' h1 hal h2 h) ?_
  intro p e s m args below meth c s₁ X0 hexec hbytes hml hret hlk hnm hown hh0 W hP
  obtain ⟨rfl, hB⟩ := hP
  have hB0 := hB.mv X0.warmed.alike hh0
  have c1 : Steps p.tables e below (s₁.setTop (entryFrame m #[.ref d, .int (Int32.ofNat B.slots.size)] 2)) (s₁.setTop (mkF m 0 #[.val (.ref d), .val (.int (Int32.ofNat B.slots.size))] [])) := entry rfl
  have c2 : Steps p.tables e below (s₁.setTop (entryFrame m #[.ref d, .int (Int32.ofNat B.slots.size)] 2)) (s₁.setTop (mkF m 2 #[.val (.ref d), .val (.int (Int32.ofNat B.slots.size))] [.ref d, .int (Int32.ofNat B.slots.size)])) := c1.trans (by
    refine XS.iloadN X0.here hexec rfl (hb hbytes d0) rfl ?_
    refine XS.aloadN X0.here hexec rfl (hb hbytes d1) rfl rfl ?_
    exact Steps.refl _)
  have c3 : Steps p.tables e below (s₁.setTop (entryFrame m #[.ref d, .int (Int32.ofNat B.slots.size)] 2)) (s₁.setTop (mkF m 8 #[.val (.ref d), .val (.int (Int32.ofNat B.slots.size))] [.int (lo8 (ushr (Int32.ofNat B.slots.size - Int32.ofNat B.slots.size) 31))])) := c2.trans (by
    refine X0.alen hexec hB0 rfl rfl (hb hbytes d2) ?_
    refine XS.isub X0.here hexec rfl (hb hbytes d3) rfl ?_
    refine bipushV X0.here hexec rfl 31 (hb hbytes d4) (by decide) ?_
    refine iushr X0.here hexec rfl (hb hbytes d6) rfl ?_
    refine i2b X0.here hexec rfl (hb hbytes d7) rfl ?_
    exact Steps.refl _)
  have e0 : lo8 (ushr (Int32.ofNat B.slots.size - Int32.ofNat B.slots.size) 31) = 0 := by rw [Int32.sub_self]; decide
  rw [e0] at c3
  exact ⟨s₁, some (.int 0), _, _, _, X0, rfl, rfl, rfl, (fun h => by cases h), ⟨rfl, hh0⟩, fun fs hl => c3.trans (X0.ireturnOut hexec hret rfl (Or.inr (Or.inr (Or.inl rfl))) (hb hbytes d8) hl)⟩
end CodL
/-- the String at a is Latin-1 over a new byte[] (the heap's one new cell): the low bytes of the len chars of A from o on; every cell but a is kept -/
def Got (a : Addr) (D : Cell) (fV fC : Field) (A : Cell) (o len : Nat) (r : Option Value) (s u : State) : Prop := r = none ∧ ∃ D' V : Cell, Blank "java/lang/String" a D' u ∧ Same D D' [fV.slot, fC.slot] ∧ D'.slots[fV.slot]? = some (.ref s.heap.size) ∧ D'.slots[fC.slot]? = some (.int 0) ∧ Arr .byte s.heap.size V u ∧ V.vm = .none ∧ u.vm.findClass "[B" = some V.cls ∧ V.slots.size = len ∧ (∀ j, j < len → V.slots[j]? = some (.int (lo8 (cv A (o + j))))) ∧ (∀ (y : Addr) (c : Cell), y ≠ a → s.heap[y]? = some c → u.heap[y]? = some c) ∧ u.heap.size = s.heap.size + 1
theorem Got.mv {a : Addr} {D A : Cell} {fV fC : Field} {o len : Nat} : ∀ r (U U' V V' : State), U'.heap = U.heap → V.vm.Alike V'.vm → V'.heap = V.heap → Got a D fV fC A o len r U V → Got a D fV fC A o len r U' V' :=
  fun r U U' V V' h1 hal h2 ⟨e0, D', X, a1, a2, a3, a4, a5, a6, a7, a8, a9, a10, a11⟩ => ⟨e0, D', X, a1.mv hal h2, a2, by rw [h1]; exact a3, a4, by rw [h1]; exact a5.mv hal h2, a6, by rw [hal.findClass]; exact a7, a8, a9, by rw [h1, h2]; exact a10, by rw [h1, h2]; exact a11⟩
namespace New4
def yN : MethodName := ⟨"java/lang/String", "<init>", "([CIILjava/lang/Void;)V"⟩
abbrev yB : ByteArray := jdk_42_method_149_code
theorem d0 : decode yB 0 = .ok (.aload_n 0, 1) := by decide +kernel
theorem d1 : decode yB 1 = .ok (.invokespecial 1, 3) := by decide +kernel
theorem d4 : decode yB 4 = .ok (.iload_n 3, 1) := by decide +kernel
theorem d5 : decode yB 5 = .ok (.ifCond (.ne) 22, 3) := by decide +kernel
theorem d27 : decode yB 27 = .ok (.getstatic 38, 3) := by decide +kernel
theorem d30 : decode yB 30 = .ok (.ifCond (.eq) 28, 3) := by decide +kernel
theorem d33 : decode yB 33 = .ok (.aload_n 1, 1) := by decide +kernel
theorem d34 : decode yB 34 = .ok (.iload_n 2, 1) := by decide +kernel
theorem d35 : decode yB 35 = .ok (.iload_n 3, 1) := by decide +kernel
theorem d36 : decode yB 36 = .ok (.invokestatic 177, 3) := by decide +kernel
theorem d39 : decode yB 39 = .ok (.astore 5, 2) := by decide +kernel
theorem d41 : decode yB 41 = .ok (.aload_n 0, 1) := by decide +kernel
theorem d42 : decode yB 42 = .ok (.aload 5, 2) := by decide +kernel
theorem d44 : decode yB 44 = .ok (.iload_n 3, 1) := by decide +kernel
theorem d45 : decode yB 45 = .ok (.invokestatic 47, 3) := by decide +kernel
theorem d48 : decode yB 48 = .ok (.putfield 15, 3) := by decide +kernel
theorem d51 : decode yB 51 = .ok (.aload_n 0, 1) := by decide +kernel
theorem d52 : decode yB 52 = .ok (.aload 5, 2) := by decide +kernel
theorem d54 : decode yB 54 = .ok (.putfield 9, 3) := by decide +kernel
theorem d57 : decode yB 57 = .ok (.return_, 1) := by decide +kernel
def site : List Cond := [.fieldLink "java/lang/String" 38 "java/lang/String" "COMPACT_STRINGS" "Z", Cmp3.tab, CodL.tab, .laysFinal "java/lang/String" "java/lang/String" "value" "[B", .fieldLink "java/lang/String" 9 "java/lang/String" "value" "[B", .laysFinal "java/lang/String" "java/lang/String" "coder" "B", .fieldLink "java/lang/String" 15 "java/lang/String" "coder" "B"] ++ objW "java/lang/String" 1 ++ staticW "java/lang/String" 177 Cmp3.yN ++ staticW "java/lang/String" 47 CodL.yN
def tab : Cond := tabOf yN yB 6 none site
def P (a : Addr) (D : Cell) (fV fC : Field) (b : Addr) (A : Cell) (z : Int32) (o len : Nat) (args : Array Value) (s : State) : Prop := args = #[.ref a, .ref b, .int (Int32.ofNat o), .int (Int32.ofNat len), .null] ∧ Blank "java/lang/String" a D s ∧ Found "java/lang/String" "value" "[B" fV s ∧ Found "java/lang/String" "coder" "B" fC s ∧ Ch b A s ∧ StaticIs s "java/lang/String" "COMPACT_STRINGS" "Z" (.int z) ∧ ¬ z = 0 ∧ 0 < len ∧ o + len ≤ A.slots.size ∧ len ≤ 536870912 ∧ ∀ i, i < len → ¬ 255 < cv A (o + i)
def E (a : Addr) (D : Cell) (fV fC : Field) (A : Cell) (o len : Nat) (r : Option Value) (s u : State) : Prop := Got a D fV fC A o len r s u
/-- len > 0, no char of the range above 255: a Latin-1 String of their low bytes -/
theorem law (l : Launch) (a : Addr) (D : Cell) (fV fC : Field) (b : Addr) (A : Cell) (z : Int32) (o len : Nat) : Law l yN 5 4 2 35 yB 6 none site (P a D fV fC b A z o len) (E a D fV fC A o len) [⟨a, fC.slot⟩, ⟨a, fV.slot⟩] 1 len := by
  refine Law.of_walk (plainFor_of_name (by decide +kernel)) (by decide +kernel) (by decide +kernel) (by decide) (fun _ _ h => by rw [h.1]; rfl) (fun _ U U' hal hh h => ⟨h.1, h.2.1.mv hal hh, h.2.2.1.al hal, h.2.2.2.1.al hal, h.2.2.2.2.1.mv hal hh, h.2.2.2.2.2.1.there hal hh, h.2.2.2.2.2.2⟩) (fun r U U' V V' h1 hal h2 h => Got.mv r U U' V V' h1 hal h2 h) ?_
  intro p e s m args below meth c s₁ X0 hexec hbytes hml hret hlk hnm hown hh0 W hP
  obtain ⟨rfl, hB, f1, f2, hA, s1, hz, l0, l1, l2, hp⟩ := hP
  have a31 := hA.1.2.2.2
  have c1 : Steps p.tables e below (s₁.setTop (entryFrame m #[.ref a, .ref b, .int (Int32.ofNat o), .int (Int32.ofNat len), .null] 6)) (s₁.setTop (mkF m 0 #[.val (.ref a), .val (.ref b), .val (.int (Int32.ofNat o)), .val (.int (Int32.ofNat len)), .val .null, .unset] [])) := entry rfl
  have c2 : Steps p.tables e below (s₁.setTop (entryFrame m #[.ref a, .ref b, .int (Int32.ofNat o), .int (Int32.ofNat len), .null] 6)) (s₁.setTop (mkF m 1 #[.val (.ref a), .val (.ref b), .val (.int (Int32.ofNat o)), .val (.int (Int32.ofNat len)), .val .null, .unset] [.ref a])) := c1.trans (by
    refine XS.aloadN X0.here hexec rfl (hb hbytes d0) rfl rfl ?_
    exact Steps.refl _)
  obtain ⟨T3, X3, q3, st3⟩ := X0.oinit hexec hown (wks W (objW "java/lang/String" 1)) (g := (mkF m 1 #[.val (.ref a), .val (.ref b), .val (.int (Int32.ofNat o)), .val (.int (Int32.ofNat len)), .val .null, .unset] [.ref a])) rfl (by rw [hml]; rfl) (rest := []) rfl (hb hbytes d1) (W := 0) (by show 2 * 0 + 0 ≤ _; decide) (Nat.le_of_ble_eq_true rfl) (Nat.le_of_ble_eq_true rfl)
  have hh3 := q3.trans hh0
  have c4 : Steps p.tables e below (s₁.setTop (entryFrame m #[.ref a, .ref b, .int (Int32.ofNat o), .int (Int32.ofNat len), .null] 6)) (T3.setTop (mkF m 27 #[.val (.ref a), .val (.ref b), .val (.int (Int32.ofNat o)), .val (.int (Int32.ofNat len)), .val .null, .unset] [])) := (c2.trans (st3 _ (Steps.refl _))).trans (by
    refine XS.iloadN X3.here hexec rfl (hb hbytes d4) rfl ?_
    refine XS.ifYes X3.here hexec rfl (pc0 := 5) rfl (hb hbytes d5) rfl (i0_ne_t (nz32 (by omega) l0)) (by decide) rfl ?_
    exact Steps.refl _)
  obtain ⟨T5, X5, q5, st5⟩ := X3.sget hexec hown (wk W (.fieldLink "java/lang/String" 38 "java/lang/String" "COMPACT_STRINGS" "Z")) s1 (fun _ _ h => by rw [hh3]; exact h) (g := (mkF m 27 #[.val (.ref a), .val (.ref b), .val (.int (Int32.ofNat o)), .val (.int (Int32.ofNat len)), .val .null, .unset] [])) rfl (hb hbytes d27)
  have hh5 := q5.trans hh3
  have c6 : Steps p.tables e below (s₁.setTop (entryFrame m #[.ref a, .ref b, .int (Int32.ofNat o), .int (Int32.ofNat len), .null] 6)) (T5.setTop (mkF m 30 #[.val (.ref a), .val (.ref b), .val (.int (Int32.ofNat o)), .val (.int (Int32.ofNat len)), .val .null, .unset] [.int z])) := c4.trans (st5 _ (Steps.refl _))
  have c7 : Steps p.tables e below (s₁.setTop (entryFrame m #[.ref a, .ref b, .int (Int32.ofNat o), .int (Int32.ofNat len), .null] 6)) (T5.setTop (mkF m 36 #[.val (.ref a), .val (.ref b), .val (.int (Int32.ofNat o)), .val (.int (Int32.ofNat len)), .val .null, .unset] [.int (Int32.ofNat len), .int (Int32.ofNat o), .ref b])) := c6.trans (by
    refine XS.ifNo X5.here hexec rfl (hb hbytes d30) rfl (i0_eq_f hz) ?_
    refine XS.aloadN X5.here hexec rfl (hb hbytes d33) rfl rfl ?_
    refine XS.iloadN X5.here hexec rfl (hb hbytes d34) rfl ?_
    refine XS.iloadN X5.here hexec rfl (hb hbytes d35) rfl ?_
    exact Steps.refl _)
  obtain ⟨v8, T8, X8, E8, g8⟩ := X5.callS hexec (Cmp3.law l b A o len) hown (wks W (staticW "java/lang/String" 177 Cmp3.yN)) (wk W Cmp3.tab) (W := 0) (Nat.le_of_ble_eq_true rfl) (Nat.le_of_ble_eq_true rfl) (Nat.le_refl _) (by show 0 + len ≤ len; omega) (g := (mkF m 36 #[.val (.ref a), .val (.ref b), .val (.int (Int32.ofNat o)), .val (.int (Int32.ofNat len)), .val .null, .unset] [.int (Int32.ofNat len), .int (Int32.ofNat o), .ref b])) rfl (by rw [hml]; rfl) c7 (argsL := [.ref b, .int (Int32.ofNat o), .int (Int32.ofNat len)]) (rest := []) rfl rfl (by show 2 * 0 + 0 ≤ _; decide) (hb hbytes d36) (⟨rfl, hA.mv X5.warmed.alike hh5, l1, l2, hp⟩)
  obtain ⟨e8, z8⟩ := E8
  obtain ⟨rfl, N, n1, n2, n3, n4, n5, n6⟩ := NewArr.mv _ T5 s _ _ hh5.symm (Vm.Alike.refl _) rfl e8
  rw [hh5] at z8
  have hB1 := hB.keep X8.warmed.alike (n6 _ _ hB.1)
  have hne : s.heap.size ≠ a := (Nat.ne_of_lt (Array.getElem?_eq_some_iff.mp hB.1).1).symm
  have c9 : Steps p.tables e below (s₁.setTop (entryFrame m #[.ref a, .ref b, .int (Int32.ofNat o), .int (Int32.ofNat len), .null] 6)) (T8.setTop (mkF m 39 #[.val (.ref a), .val (.ref b), .val (.int (Int32.ofNat o)), .val (.int (Int32.ofNat len)), .val .null, .unset] [.ref s.heap.size])) := g8
  have c10 : Steps p.tables e below (s₁.setTop (entryFrame m #[.ref a, .ref b, .int (Int32.ofNat o), .int (Int32.ofNat len), .null] 6)) (T8.setTop (mkF m 45 #[.val (.ref a), .val (.ref b), .val (.int (Int32.ofNat o)), .val (.int (Int32.ofNat len)), .val .null, .val (.ref s.heap.size)] [.int (Int32.ofNat N.slots.size), .ref s.heap.size, .ref a])) := by
    have hc : Steps p.tables e below (s₁.setTop (entryFrame m #[.ref a, .ref b, .int (Int32.ofNat o), .int (Int32.ofNat len), .null] 6)) (T8.setTop (mkF m 45 #[.val (.ref a), .val (.ref b), .val (.int (Int32.ofNat o)), .val (.int (Int32.ofNat len)), .val .null, .val (.ref s.heap.size)] [.int (Int32.ofNat len), .ref s.heap.size, .ref a])) := c9.trans (by
      refine XS.astore X8.here hexec rfl (hb hbytes d39) rfl rfl rfl ?_
      refine XS.aloadN X8.here hexec rfl (hb hbytes d41) rfl rfl ?_
      refine XS.aload X8.here hexec rfl (hb hbytes d42) rfl rfl ?_
      refine XS.iloadN X8.here hexec rfl (hb hbytes d44) rfl ?_
      exact Steps.refl _)
    rw [n4]; exact hc
  obtain ⟨v11, T11, X11, E11, g11⟩ := X8.callS hexec (CodL.law l s.heap.size N) hown (wks W (staticW "java/lang/String" 47 CodL.yN)) (wk W CodL.tab) (W := 1) (Nat.le_of_ble_eq_true rfl) (Nat.le_of_ble_eq_true rfl) (Nat.le_refl _) (by show 0 + len + 0 ≤ len; omega) (g := (mkF m 45 #[.val (.ref a), .val (.ref b), .val (.int (Int32.ofNat o)), .val (.int (Int32.ofNat len)), .val .null, .val (.ref s.heap.size)] [.int (Int32.ofNat N.slots.size), .ref s.heap.size, .ref a])) rfl (by rw [hml]; rfl) c10 (argsL := [.ref s.heap.size, .int (Int32.ofNat N.slots.size)]) (rest := [.ref a]) rfl rfl (by show 2 * 0 + (1 + 0) ≤ _; decide) (hb hbytes d45) (⟨rfl, n1⟩)
  obtain ⟨rfl, q11⟩ := E11
  have hB11 := hB1.mv (X8.warmed.alike.symm.trans X11.warmed.alike) q11
  have c12 : Steps p.tables e below (s₁.setTop (entryFrame m #[.ref a, .ref b, .int (Int32.ofNat o), .int (Int32.ofNat len), .null] 6)) (T11.setTop (mkF m 48 #[.val (.ref a), .val (.ref b), .val (.int (Int32.ofNat o)), .val (.int (Int32.ofNat len)), .val .null, .val (.ref s.heap.size)] [.int 0, .ref a])) := g11
  obtain ⟨T13, X13, p13, bl13, sl13, st13⟩ := X11.finit hexec hown (wk W (.fieldLink "java/lang/String" 15 "java/lang/String" "coder" "B")) (Or.inr ⟨_, (wk W (.laysFinal "java/lang/String" "java/lang/String" "coder" "B"))⟩) (Or.inl ⟨rfl, hnm⟩) f2 (Or.inl rfl) hB11 (t := .byte) (by decide +kernel) rfl (g := (mkF m 48 #[.val (.ref a), .val (.ref b), .val (.int (Int32.ofNat o)), .val (.int (Int32.ofNat len)), .val .null, .val (.ref s.heap.size)] [.int 0, .ref a])) rfl (rest := []) rfl (hb hbytes d48)
  have c14 : Steps p.tables e below (s₁.setTop (entryFrame m #[.ref a, .ref b, .int (Int32.ofNat o), .int (Int32.ofNat len), .null] 6)) (T13.setTop (mkF m 54 #[.val (.ref a), .val (.ref b), .val (.int (Int32.ofNat o)), .val (.int (Int32.ofNat len)), .val .null, .val (.ref s.heap.size)] [.ref s.heap.size, .ref a])) := (c12.trans (st13 _ (Steps.refl _))).trans (by
    refine XS.aloadN X13.here hexec rfl (hb hbytes d51) rfl rfl ?_
    refine XS.aload X13.here hexec rfl (hb hbytes d52) rfl rfl ?_
    exact Steps.refl _)
  obtain ⟨T15, X15, p15, bl15, sl15, st15⟩ := X13.finit hexec hown (wk W (.fieldLink "java/lang/String" 9 "java/lang/String" "value" "[B")) (Or.inr ⟨_, (wk W (.laysFinal "java/lang/String" "java/lang/String" "value" "[B"))⟩) (Or.inl ⟨rfl, hnm⟩) f1 (Or.inl rfl) bl13 (t := (.array .byte)) (by decide +kernel) rfl (g := (mkF m 54 #[.val (.ref a), .val (.ref b), .val (.int (Int32.ofNat o)), .val (.int (Int32.ofNat len)), .val .null, .val (.ref s.heap.size)] [.ref s.heap.size, .ref a])) rfl (rest := []) rfl (hb hbytes d54)
  have c16 : Steps p.tables e below (s₁.setTop (entryFrame m #[.ref a, .ref b, .int (Int32.ofNat o), .int (Int32.ofNat len), .null] 6)) (T15.setTop (mkF m 57 #[.val (.ref a), .val (.ref b), .val (.int (Int32.ofNat o)), .val (.int (Int32.ofNat len)), .val .null, .val (.ref s.heap.size)] [])) := c14.trans (st15 _ (Steps.refl _))
  have ap := apart (Or.inr ⟨_, (wk W (.laysFinal "java/lang/String" "java/lang/String" "value" "[B"))⟩) (Or.inr ⟨_, (wk W (.laysFinal "java/lang/String" "java/lang/String" "coder" "B"))⟩) f1 f2 (t₁ := .array .byte) (t₂ := .byte) (by decide +kernel) (by decide +kernel) (by decide)
  have al := X8.warmed.alike.symm.trans X15.warmed.alike
  have n7 : T11.heap[s.heap.size]? = some N := by rw [q11]; exact n1.1
  exact ⟨T15, none, _, _, _, X15, by simp, rfl, by omega, (fun _ => rfl), ⟨rfl, _, N, bl15, ((Same.refl D _).set _ (by simp)).set _ (by simp), sl15, (Cell.slots_setSlot_ne _ ap).trans sl13, n1.keep al (p15.other hne (p13.other hne n7)), n2, by rw [al.findClass]; exact n3, n4, n5, fun y c h1 h2 => p15.other h1 (p13.other h1 (by rw [q11]; exact n6 y c h2)), by rw [p15.2.2, p13.2.2, q11]; exact z8⟩, fun fs hl => c16.trans (X15.returnOut hexec hret (hb hbytes d57) hl)⟩
end New4
namespace New1
def yN : MethodName := ⟨"java/lang/String", "<init>", "([C)V"⟩
abbrev yB : ByteArray := jdk_42_method_3_code
theorem d0 : decode yB 0 = .ok (.aload_n 0, 1) := by decide +kernel
theorem d1 : decode yB 1 = .ok (.aload_n 1, 1) := by decide +kernel
theorem d2 : decode yB 2 = .ok (.iconst 0, 1) := by decide +kernel
theorem d3 : decode yB 3 = .ok (.aload_n 1, 1) := by decide +kernel
theorem d4 : decode yB 4 = .ok (.arraylength, 1) := by decide +kernel
theorem d5 : decode yB 5 = .ok (.aconst_null, 1) := by decide +kernel
theorem d6 : decode yB 6 = .ok (.invokespecial 27, 3) := by decide +kernel
theorem d9 : decode yB 9 = .ok (.return_, 1) := by decide +kernel
def site : List Cond := [New4.tab] ++ initW "java/lang/String" 27 New4.yN
def tab : Cond := tabOf yN yB 2 none site
def P (a : Addr) (D : Cell) (fV fC : Field) (b : Addr) (A : Cell) (z : Int32) (args : Array Value) (s : State) : Prop := args = #[.ref a, .ref b] ∧ Blank "java/lang/String" a D s ∧ Found "java/lang/String" "value" "[B" fV s ∧ Found "java/lang/String" "coder" "B" fC s ∧ Ch b A s ∧ StaticIs s "java/lang/String" "COMPACT_STRINGS" "Z" (.int z) ∧ ¬ z = 0 ∧ 0 < A.slots.size ∧ A.slots.size ≤ 536870912 ∧ ∀ i, i < A.slots.size → ¬ 255 < cv A i
def E (a : Addr) (D : Cell) (fV fC : Field) (A : Cell) (r : Option Value) (s u : State) : Prop := Got a D fV fC A 0 A.slots.size r s u
/-- new String(chars), not empty, no char above 255: a Latin-1 String of their low bytes -/
theorem law (l : Launch) (a : Addr) (D : Cell) (fV fC : Field) (b : Addr) (A : Cell) (z : Int32) : Law l yN 2 1 3 52 yB 2 none site (P a D fV fC b A z) (E a D fV fC A) [⟨a, fC.slot⟩, ⟨a, fV.slot⟩] 1 A.slots.size := by
  refine Law.of_walk (plainFor_of_name (by decide +kernel)) (by decide +kernel) (by decide +kernel) (by decide) (fun _ _ h => by rw [h.1]; rfl) (fun _ U U' hal hh h => ⟨h.1, h.2.1.mv hal hh, h.2.2.1.al hal, h.2.2.2.1.al hal, h.2.2.2.2.1.mv hal hh, h.2.2.2.2.2.1.there hal hh, h.2.2.2.2.2.2⟩) (fun r U U' V V' h1 hal h2 h => Got.mv r U U' V V' h1 hal h2 h) ?_
  intro p e s m args below meth c s₁ X0 hexec hbytes hml hret hlk hnm hown hh0 W hP
  obtain ⟨rfl, hB, f1, f2, hA, s1, hz, l0, l2, hp⟩ := hP
  have c1 : Steps p.tables e below (s₁.setTop (entryFrame m #[.ref a, .ref b] 2)) (s₁.setTop (mkF m 0 #[.val (.ref a), .val (.ref b)] [])) := entry rfl
  have c2 : Steps p.tables e below (s₁.setTop (entryFrame m #[.ref a, .ref b] 2)) (s₁.setTop (mkF m 6 #[.val (.ref a), .val (.ref b)] [.null, .int (Int32.ofNat A.slots.size), .int 0, .ref b, .ref a])) := c1.trans (by
    refine XS.aloadN X0.here hexec rfl (hb hbytes d0) rfl rfl ?_
    refine XS.aloadN X0.here hexec rfl (hb hbytes d1) rfl rfl ?_
    refine iconstV X0.here hexec rfl 0 (hb hbytes d2) (by decide) ?_
    refine XS.aloadN X0.here hexec rfl (hb hbytes d3) rfl rfl ?_
    refine X0.alen hexec (hA.1.mv X0.warmed.alike hh0) rfl rfl (hb hbytes d4) ?_
    refine XS.aconstNull X0.here hexec rfl (hb hbytes d5) ?_
    exact Steps.refl _)
  obtain ⟨v3, T3, X3, E3, g3⟩ := X0.callN hexec (New4.law l a D fV fC b A z 0 A.slots.size) rfl hown (wks W (initW "java/lang/String" 27 New4.yN)) (W New4.tab (by simp only [site, List.mem_cons, List.mem_append, true_or, or_true])) (W := 0) (Nat.le_of_ble_eq_true rfl) (Nat.le_of_ble_eq_true rfl) (Nat.le_refl _) (by show 0 + A.slots.size ≤ A.slots.size; omega) (g := (mkF m 6 #[.val (.ref a), .val (.ref b)] [.null, .int (Int32.ofNat A.slots.size), .int (Int32.ofNat 0), .ref b, .ref a])) rfl (by rw [hml]; rfl) c2 (argsL := [.ref b, .int (Int32.ofNat 0), .int (Int32.ofNat A.slots.size), .null]) (rest := []) rfl rfl (by show 2 * 0 + 0 ≤ _; decide) (hb hbytes d6) (⟨rfl, hB.mv X0.warmed.alike hh0, f1.al X0.warmed.alike, f2.al X0.warmed.alike, hA.mv X0.warmed.alike hh0, s1.there X0.warmed.alike hh0, hz, l0, by omega, l2, fun i hi => by rw [Nat.zero_add]; exact hp i hi⟩)
  have e0 := Got.mv _ s₁ s _ _ hh0.symm (Vm.Alike.refl _) rfl E3
  obtain rfl := e0.1
  have c4 : Steps p.tables e below (s₁.setTop (entryFrame m #[.ref a, .ref b] 2)) (T3.setTop (mkF m 9 #[.val (.ref a), .val (.ref b)] [])) := g3
  exact ⟨T3, none, _, _, _, X3, by simp, rfl, by omega, (fun _ => rfl), e0, fun fs hl => c4.trans (X3.returnOut hexec hret (hb hbytes d9) hl)⟩
theorem pays {l : Launch} {R : Room} {p : Program} {e : Env} {below : List Frame} {s : State} {sargs : Array Value} {len W : Nat} (a : Addr) (D : Cell) (fV fC : Field) (b : Addr) (A : Cell) (z : Int32) (htab : tab.before sargs s = true) (hfr : 4 ≤ R.frames) (hlo : W + 65 ≤ R.locals) :
    Back l R p e below s sargs yN len W (fun A₁ a₁ => A₁.cells + 1 ≤ R.cells ∧ A₁.slots + A.slots.size ≤ R.slots ∧ P a D fV fC b A z a₁ A₁.U) (fun A₁ _ v₁ B₁ => E a D fV fC A v₁ A₁.U B₁.U ∧ B₁.locs = A₁.locs ++ [⟨a, fC.slot⟩, ⟨a, fV.slot⟩] ∧ B₁.cells = A₁.cells + 1 ∧ B₁.slots = A₁.slots + A.slots.size) :=
  (law l a D fV fC b A z).pays htab hfr (by omega)
end New1
end StrChars
namespace StrChars.Road
open Jvm Sem ClassFile Op Lib Jvm.Stand Jvm.Free Jvm.Free.XT
open Jvm.Lib.Cold (StaticIs)
abbrev ST : String := "java/lang/String"
/-- every table word that New1's law asks, flat -/
abbrev words : List Jvm.Cond := [.code New1.yN New1.yB 2 none, .initialized ST, .methodLink ST 27 New4.yN, .instanceMethod New4.yN,
  .code New4.yN New4.yB 6 none, .fieldLink ST 38 ST "COMPACT_STRINGS" "Z", .laysFinal ST ST "value" "[B", .fieldLink ST 9 ST "value" "[B", .laysFinal ST ST "coder" "B", .fieldLink ST 15 ST "coder" "B",
  .methodLink ST 1 Lib.objectInit, .instanceMethod Lib.objectInit, .code Lib.objectInit ⟨#[0xb1]⟩ 1 none, .methodLink ST 177 Cmp3.yN, .static Cmp3.yN, .methodLink ST 47 CodL.yN, .static CodL.yN,
  .code Cmp3.yN Cmp3.yB 6 (some (.array .byte)), .initialized U16, .arrayClass .byte, .methodLink U16 115 Cmp5.yN, .static Cmp5.yN, .code Cmp5.yN Cmp5.yB 7 (some .int), .code CodL.yN CodL.yB 2 (some .byte)]
theorem tab_of {a : Array Value} {s : State} (h : ∀ w ∈ words, w.before a s = true) : New1.tab.before a s = true := by
  have h5 : Cmp5.tab.before a s = true := unparts (wk h (.code Cmp5.yN Cmp5.yB 7 (some .int))) (wks h (.initialized Cmp5.yN.cls :: Cmp5.site))
  have hc : CodL.tab.before a s = true := unparts (wk h (.code CodL.yN CodL.yB 2 (some .byte))) (wks h (.initialized CodL.yN.cls :: CodL.site))
  have q5 : ∀ w ∈ Cmp5.tab :: words, w.before a s = true := fun w hw => (List.mem_cons.mp hw).elim (fun e => e ▸ h5) (h w)
  have h3 : Cmp3.tab.before a s = true := unparts (wk q5 (.code Cmp3.yN Cmp3.yB 6 (some (.array .byte)))) (wks q5 (.initialized Cmp3.yN.cls :: Cmp3.site))
  have q3 : ∀ w ∈ Cmp3.tab :: CodL.tab :: words, w.before a s = true := fun w hw => (List.mem_cons.mp hw).elim (fun e => e ▸ h3) fun hw => (List.mem_cons.mp hw).elim (fun e => e ▸ hc) (h w)
  have h4 : New4.tab.before a s = true := unparts (wk q3 (.code New4.yN New4.yB 6 none)) (wks q3 (.initialized New4.yN.cls :: New4.site))
  have q4 : ∀ w ∈ New4.tab :: words, w.before a s = true := fun w hw => (List.mem_cons.mp hw).elim (fun e => e ▸ h4) (h w)
  exact unparts (wk q4 (.code New1.yN New1.yB 2 none)) (wks q4 (.initialized New1.yN.cls :: New1.site))
/-- the words ride from the start Z to the walk's own state -/
theorem moved {Z s : State} {a0 args : Array Value} (hZ : Z.Warmed39 s.vm) (hw : ∀ d ∈ words, d.before a0 Z = true) : ∀ d ∈ words, d.before args s = true := fun d hd => by
  have q := hw d hd
  have t : ∀ d ∈ words, d = .arrayClass .byte ∨ (d.onTables && d.keepsFace) = true := by decide +kernel
  rcases t d hd with rfl | t
  · exact RoadKit.mvA hZ q
  · exact RoadKit.mv hZ q t
/-- WHAT COMES BACK, over the tables of the start Z: h the heap at the call, h' behind it -/
def Q (Z : State) (x : Addr) (A : Cell) (h : Heap) (v : Option Value) (h' : Heap) (L : List Loc) : Prop := v = none ∧ (∀ y ∈ L, y.base = x) ∧ RoadKit.Keep h h' [x] ∧ h'.size = h.size + 1 ∧ RoadKit.Exa Z h' x ST ∧ RoadKit.Fld Z h' x ST "value" "[B" (.ref h.size) ∧ RoadKit.Fld Z h' x ST "coder" "B" (.int 0) ∧
  (∃ V : Cell, RoadKit.Arr Z h' h.size V .byte ∧ V.vm = .none ∧ Z.vm.findClass "[B" = some V.cls ∧ V.slots.size = A.slots.size ∧ ∀ j, j < A.slots.size → V.slots[j]? = some (.int (lo8 (cv A j)))) ∧
  ∀ (O n d : String) (w : Value), RoadKit.Fld Z h x O n d w → RoadKit.slotOf Z O n d ≠ RoadKit.slotOf Z ST "value" "[B" → RoadKit.slotOf Z O n d ≠ RoadKit.slotOf Z ST "coder" "B" → RoadKit.Fld Z h' x O n d w
/-- **new String(chars) AT A CALL, IN THE ROAD'S FORM**: for specialBack behind newO: x the fresh String, b the char[] with the cell A -/
theorem back {p : Program} {l : Launch} {e : Env} {R : Room} {s : State} {args : Array Value} {below : List Frame} {len W : Nat} {Z : State} {a0 : Array Value} {h : Heap} (hZ : Z.Warmed39 s.vm) (hw : ∀ d ∈ words, d.before a0 Z = true) {kI : Nat} (wi : (Jvm.Cond.instantiable ST kI).before a0 Z = true)
    {x b : Addr} {A : Cell} {z : Int32} {v0 c0 : Value} (E : RoadKit.Exa Z h x ST) (V : RoadKit.Fld Z h x ST "value" "[B" v0) (C : RoadKit.Fld Z h x ST "coder" "B" c0) (K : RoadKit.Arr Z h b A .char) (hty : Typed .char A) (S : RoadKit.Sta Z h ST "COMPACT_STRINGS" "Z" (.int z)) (hz : ¬ z = 0)
    (l0 : 0 < A.slots.size) (l2 : A.slots.size ≤ 536870912) (hp : ∀ i, i < A.slots.size → ¬ 255 < cv A i) (hfr : 4 ≤ R.frames) (hlo : W + 65 ≤ R.locals) :
    Back l R p e below s args New1.yN len W (fun P a => a = #[.ref x, .ref b] ∧ P.U.heap = h ∧ P.cells + 1 ≤ R.cells ∧ P.slots + A.slots.size ≤ R.slots)
      (fun P _ v B => ∃ L, Q Z x A h v B.U.heap L ∧ B.locs = P.locs ++ L ∧ B.cells = P.cells + 1 ∧ B.slots = P.slots + A.slots.size) := by
  intro m meth c P g ig mk a X hg hsize hdg hW hn hp'
  obtain ⟨rfl, rfl, r1, r2⟩ := hp'
  have al : Z.vm.Alike P.U.vm := hZ.alike.trans X.warmed.alike
  obtain ⟨D, cfV, kV, iV, fV, hD, gV, stV, knV, obV, asV, slV⟩ := id V
  obtain ⟨D', cfC, kC, iC, fC, hD', gC, stC, -, -, asC, slC⟩ := id C
  cases hD.symm.trans hD'
  obtain ⟨D2, kD, e1, e2, e3, e4, e5⟩ := id E
  cases hD.symm.trans e1
  obtain ⟨c2, k2, i1, i2, i3, -⟩ := Cond.instantiable_spec wi
  cases e2.symm.trans i1
  cases e3.symm.trans i2
  obtain ⟨kU, u1, u2⟩ := al.2.2 _ _ e3
  have hB : Blank ST x D P.U := ⟨hD, ⟨knV, fun q hq => by rw [hq] at obV; cases obV⟩, by rw [al.findClass]; exact e2, kU, u1, by rw [u2]; exact i3, by rw [u2]; exact e5 i3⟩
  have F1 : Found ST "value" "[B" fV P.U := ⟨SBG.found_only al ⟨cfV, kV, iV, gV⟩, stV⟩
  have F2 : Found ST "coder" "B" fC P.U := ⟨SBG.found_only al ⟨cfC, kC, iC, gC⟩, stC⟩
  have hA : Ch b A P.U := ⟨⟨K.1, State.isArrayOf_alike al K.2.1, K.2.2, by omega⟩, hty⟩
  have hS : StaticIs P.U ST "COMPACT_STRINGS" "Z" (.int z) := by
    obtain ⟨cfS, iS, kS, fS, st, cS, t1, t2, t3, t4, t5, t6, t7⟩ := S
    exact StaticIs.there (s := { Z with heap := P.U.heap }) ⟨cfS, iS, kS, fS, st, cS, t1, t2, t3, t4, t5, (fun q => by rw [q] at t6; cases t6), t7⟩ al rfl
  obtain ⟨v, B, X', ⟨⟨hv, E', V', q1, q2, q3, q4, q5, q6, q7, q8, q9, q10, q11⟩, hl, hc, hs⟩, st⟩ := New1.pays x D fV fC b A z (tab_of (moved hZ hw)) hfr hlo m meth c P g ig mk _ X hg hsize hdg hW hn ⟨r1, r2, rfl, hB, F1, F2, hA, hS, hz, l0, l2, hp⟩
  have al' : Z.vm.Alike B.U.vm := hZ.alike.trans X'.warmed.alike
  have hsz : E'.slots.size = D.slots.size := by
    obtain ⟨-, -, -, kB, w1, w2, w3⟩ := q1
    obtain ⟨kB', y1, y2⟩ := al'.2.2 _ _ e3
    rw [q2.2.1] at w1
    cases w1.symm.trans y1
    rw [w3, e5 i3, y2]
  refine ⟨v, B, X', ⟨_, ⟨hv, ?_, ⟨by omega, fun y cy hy hn' => q10 y cy (by simpa using hn') hy, fun y cy hy => ?_⟩, q11, ⟨E', _, q1.1, by rw [q2.2.1]; exact e2, by rw [q2.2.1]; exact e3, by rw [q2.1]; exact obV, fun _ => by rw [hsz]; exact e5 i3⟩,
    ⟨E', cfV, kV, iV, fV, q1.1, gV, stV, by rw [q2.1]; exact knV, by rw [q2.1]; exact obV, by rw [q2.2.1]; exact asV, q3⟩, ⟨E', cfC, kC, iC, fC, q1.1, gC, stC, by rw [q2.1]; exact knV, by rw [q2.1]; exact obV, by rw [q2.2.1]; exact asC, q4⟩,
    ⟨V', ⟨q5.1, State.isArrayOf_alike al'.symm q5.2.1, q5.2.2.1⟩, q6, by rw [← al'.findClass]; exact q7, q8, fun j hj => by have := q9 j hj; rwa [Nat.zero_add] at this⟩, fun O n d w F n1 n2 => ?_⟩, hl, hc, hs⟩, st⟩
  · intro y hy
    simp only [List.mem_cons, List.not_mem_nil, or_false] at hy
    rcases hy with rfl | rfl <;> rfl
  · by_cases q : y = x
    · subst q
      cases hD.symm.trans hy
      exact ⟨E', q1.1, q2.2.1, q2.1, hsz⟩
    · exact ⟨cy, q10 y cy q hy, rfl, rfl, rfl⟩
  · obtain ⟨D3, cf, k, i, f, g1, g2, g3, g4, g5, g6, g7⟩ := F
    cases hD.symm.trans g1
    simp only [RoadKit.slotOf, g2, gV, gC, Option.map_some, Option.getD_some] at n1 n2
    exact ⟨E', cf, k, i, f, q1.1, g2, g3, by rw [q2.1]; exact g4, by rw [q2.1]; exact g5, by rw [q2.2.1]; exact g6, by rw [q2.2.2 f.slot (by simp [n1, n2])]; exact g7⟩
end StrChars.Road
namespace StrChars.Road
open Jvm Sem ClassFile Op Lib Jvm.Stand Jvm.Free Jvm.Free.XT
/-- WHAT COMES BACK, the byte[] as a list of values -/
def QA (Z : State) (x : Addr) (zn : Int32) (cs : List Int32) (h : Heap) (v : Option Value) (h' : Heap) (L : List Loc) : Prop := v = none ∧ (∀ y ∈ L, y.base = x) ∧ RoadKit.Keep h h' [x] ∧ h'.size = h.size + 1 ∧ RoadKit.Exa Z h' x ST ∧ RoadKit.Fld Z h' x ST "value" "[B" (.ref h.size) ∧ RoadKit.Fld Z h' x ST "coder" "B" (.int 0) ∧
  (∃ kb, Z.vm.findClass "[B" = some kb ∧ RoadKit.Arv Z h' h.size kb .byte zn (cs.map fun c => .int (lo8 c)) (.int 0)) ∧
  ∀ (O n d : String) (w : Value), RoadKit.Fld Z h x O n d w → RoadKit.slotOf Z O n d ≠ RoadKit.slotOf Z ST "value" "[B" → RoadKit.slotOf Z O n d ≠ RoadKit.slotOf Z ST "coder" "B" → RoadKit.Fld Z h' x O n d w
/-- **new String(chars) AT A CALL, THE ARRAYS AS LISTS**: the char[] at b holds cs, not empty, no char above 255 -/
theorem backArv {p : Program} {l : Launch} {e : Env} {R : Room} {s : State} {args : Array Value} {below : List Frame} {len W : Nat} {Z : State} {a0 : Array Value} {h : Heap} (hZ : Z.Warmed39 s.vm) (hw : ∀ d ∈ words, d.before a0 Z = true) {kI : Nat} (wi : (Jvm.Cond.instantiable ST kI).before a0 Z = true)
    {x b : Addr} {k : ClassId} {zn z : Int32} {cs : List Int32} {dv v0 c0 : Value} (E : RoadKit.Exa Z h x ST) (V : RoadKit.Fld Z h x ST "value" "[B" v0) (C : RoadKit.Fld Z h x ST "coder" "B" c0) (K : RoadKit.Arv Z h b k .char zn (cs.map Value.int) dv) (S : RoadKit.Sta Z h ST "COMPACT_STRINGS" "Z" (.int z)) (hz : ¬ z = 0)
    (hlen : zn.toNatClampNeg = cs.length) (h0 : 0 < cs.length) (hbig : cs.length ≤ 536870912) (hall : ∀ c ∈ cs, ¬ 255 < c) (hfr : 4 ≤ R.frames) (hlo : W + 65 ≤ R.locals) :
    Back l R p e below s args New1.yN len W (fun P a => a = #[.ref x, .ref b] ∧ P.U.heap = h ∧ P.cells + 1 ≤ R.cells ∧ P.slots + cs.length ≤ R.slots)
      (fun P _ v B => ∃ L, QA Z x zn cs h v B.U.heap L ∧ B.locs = P.locs ++ L ∧ B.cells = P.cells + 1 ∧ B.slots = P.slots + cs.length) := by
  obtain ⟨A, K1, K2, K3, K4, K5, K6⟩ := K
  have e : A.slots.size = cs.length := K3.trans hlen
  have hat : ∀ (i : Nat) (hi : i < cs.length), A.slots[i]? = some (.int cs[i]) := fun i hi => by rw [K5 i (by omega)]; simp [List.getD_eq_getElem?_getD, hi]
  have hcv : ∀ (i : Nat) (hi : i < cs.length), cv A i = cs[i] := fun i hi => by unfold cv; rw [hat i hi]
  have hty : Typed .char A := fun i v hv => by
    have hi : i < A.slots.size := (Array.getElem?_eq_some_iff.mp hv).1
    have q := K5 i hi
    rw [hv] at q
    rw [Option.some.inj q]
    exact K6 i hi
  refine Back.mono (back hZ hw wi E V C K1 hty S hz (by omega) (by omega) (fun i hi => by rw [hcv i (by omega)]; exact hall _ (List.getElem_mem _)) hfr hlo) (fun P a hp => ⟨hp.1, hp.2.1, hp.2.2.1, by rw [e]; exact hp.2.2.2⟩) (fun P a v B hp hq => ?_)
  obtain ⟨L, ⟨q1, q2, q3, q4, q5, q6, q7, ⟨V', v1, v2, v3, v4, v5⟩, q9⟩, hl, hc, hs⟩ := hq
  refine ⟨L, ⟨q1, q2, q3, q4, q5, q6, q7, ⟨V'.cls, v3, V', v1, rfl, by rw [v4, e, hlen], K4, fun i hi => ?_, fun i hi => ?_⟩, q9⟩, hl, hc, by rw [hs, e]⟩
  · have hi' : i < cs.length := by omega
    rw [v5 i (by omega), hcv i hi']; simp [List.getD_eq_getElem?_getD, hi']
  · have hi' : i < cs.length := by omega
    simp only [List.getD_eq_getElem?_getD, List.getElem?_map, List.getElem?_eq_getElem hi', Option.map_some, Option.getD_some]
    exact fits_lo8 _
end StrChars.Road
namespace StrChars.Road
open Jvm Sem ClassFile Op Lib Jvm.Stand Jvm.Free Jvm.Free.XT
/-- WHAT COMES BACK, in the writer's own shape -/
def QV (Z : State) (x : Addr) (N : Int32) (bs : List Int32) (h : Heap) (n0 : Nat) (v : Option Value) (h' : Heap) (L : List Loc) : Prop := v = none ∧ RoadKit.Fr n0 L ∧ RoadKit.Keep h h' [x] ∧ RoadKit.Exa Z h' x ST ∧ RoadKit.Fld Z h' x ST "coder" "B" (.int 0) ∧
  ∃ (t : Addr) (kb : ClassId), n0 ≤ t ∧ h.size ≤ t ∧ ¬ t = x ∧ RoadKit.Fld Z h' x ST "value" "[B" (.ref t) ∧ RoadKit.Arv Z h' t kb .byte N (bs.map Value.int) (.int 0)
/-- **new String(chars) AT A CALL, FOR THE WRITER**: a char[] of n known ints, each 0 to 255 -/
theorem backV {p : Program} {l : Launch} {e : Env} {R : Room} {s : State} {args : Array Value} {below : List Frame} {len W : Nat} {Z : State} {a0 : Array Value} {h : Heap} (hZ : Z.Warmed39 s.vm) (hw : ∀ d ∈ words, d.before a0 Z = true) {kI : Nat} (wi : (Jvm.Cond.instantiable ST kI).before a0 Z = true)
    {x b : Addr} {kC : ClassId} {cs bs : List Int32} {d v0 c0 : Value} {z N : Int32} {n n0 : Nat} (hx0 : n0 ≤ x) (hh0 : n0 ≤ h.size) (E : RoadKit.Exa Z h x ST) (V : RoadKit.Fld Z h x ST "value" "[B" v0) (C : RoadKit.Fld Z h x ST "coder" "B" c0) (K : RoadKit.Arv Z h b kC .char N (cs.map Value.int) d) (S : RoadKit.Sta Z h ST "COMPACT_STRINGS" "Z" (.int z)) (hz : ¬ z = 0)
    (hn : cs.length = n) (hN : N = Int32.ofNat n) (l0 : 0 < n) (l2 : n ≤ 4000) (hp : ∀ c ∈ cs, ¬ c < 0 ∧ ¬ (255 : Int32) < c) (hb : bs = cs.map (fun c => c.toInt8.toInt32)) (hfr : 4 ≤ R.frames) (hlo : W + 65 ≤ R.locals) :
    Back l R p e below s args (⟨"java/lang/String", "<init>", "([C)V"⟩ : MethodName) len W (fun P a => a = #[.ref x, .ref b] ∧ P.U.heap = h ∧ P.cells + 1 ≤ R.cells ∧ P.slots + n ≤ R.slots)
      (fun P _ v B => ∃ L, QV Z x N bs h n0 v B.U.heap L ∧ B.locs = P.locs ++ L ∧ B.cells = P.cells + 1 ∧ B.slots = P.slots + n) := by
  subst hn hN hb
  refine Back.mono (backArv hZ hw wi E V C K S hz (n32 (by omega)) l0 (by omega) (fun c hc => (hp c hc).2) hfr hlo) (fun P a hp => hp) (fun P a v B hp hq => ?_)
  obtain ⟨L, ⟨q1, q2, q3, q4, q5, q6, q7, ⟨kb, v1, v2⟩, q9⟩, hl, hc, hs⟩ := hq
  exact ⟨L, ⟨q1, fun y hy => by rw [q2 y hy]; exact hx0, q3, q5, q7, h.size, kb, hh0, Nat.le_refl _, Nat.ne_of_gt E.lt, q6, by rw [List.map_map]; exact v2⟩, hl, hc, hs⟩
end StrChars.Road
namespace StrChars
open Jvm Sem ClassFile Op Lib Jvm.Stand Jvm.Free.XT Jvm.Free.ALB Jvm.Free.JM Jvm.Free
open Jvm.Lib.Cold (StaticIs)
def hi8 (x : Int32) : Int32 := lo8 (x >>> ((8 : Int32) &&& 31))
end StrChars
namespace StrChars.Road
open Jvm Sem ClassFile Op Lib Jvm.Stand Jvm.Free Jvm.Free.XT
open Jvm.Lib.Cold (StaticIs)
/-- the bytes of the chars cs, low before high -/
def wideBytes : List Int32 → List Value
  | [] => []
  | c :: cs => .int (lo8 c) :: .int (hi8 c) :: wideBytes cs
/-- an array of N2 bytes vs codes the chars cs by the coder cd -/
def CodA (cs : List Int32) (cd N2 : Int32) (vs : List Value) : Prop := (cd = 0 ∧ N2 = Int32.ofNat cs.length ∧ vs = (cs.map fun c => Value.int (lo8 c)) ∧ ∀ c ∈ cs, ¬ 255 < c) ∨ (cd = 1 ∧ N2 = Int32.ofNat (2 * cs.length) ∧ vs = wideBytes cs ∧ ∃ c ∈ cs, 255 < c)
end StrChars.Road
namespace StrChars.Road
open Jvm Sem ClassFile Op Lib Jvm.Stand Jvm.Free Jvm.Free.XT
open Jvm.Lib.Cold (StaticIs)
/-- what backV says of its String, as the contracts of this text ask it: cs's low bytes, coder 0 -/
theorem codOf {cs : List Int32} {n : Nat} (hn : cs.length = n) (hb : ∀ c ∈ cs, ¬ 255 < c) : CodA cs 0 (Int32.ofNat n) ((cs.map lo8).map Value.int) := Or.inl ⟨rfl, by rw [hn], by simp [List.map_map, Function.comp_def], hb⟩
end StrChars.Road
end Jvm.Pilot.@@N@@
namespace Jvm.Pilot.@@N@@
open Jvm Jvm.ClassFile Sem Op Lib Jvm.Free Jvm.Stand Jvm.LawKit Jvm.RoadKit Bundle Jvm.Pilot.@@N@@.Jvm.D
set_option maxRecDepth 65536
set_option maxHeartbeats 40000000
section OwnKit
variable {p : Program} {l : Launch} {e : Env} {R : Room} {s : State} {m : MethodId} {args : Array Value} {below : List Frame} {meth : Method} {c : Code} {T : State} {locs : List Loc} {cells slots : Nat} {Z : State} {a0 : Array Value} {h : Heap} {own : String} {cd : ByteArray} {maxL : Nat} {ret : Option FieldType} {nm : String} {n0 : Nat} {F : Option Value → Heap → Prop} {kc ks : Nat} {En : Outcome → State → Prop} {pc : Nat} {ls : Array Slot} {st : List Value}
/-- from the frame g over T the method runs to its end, returns v, leaves a heap, F holds of both; only new cells are written -/
def own_Go (p : Program) (e : Env) (below : List Frame) (En : Outcome → State → Prop) (T : State) (g : JFrame) : Prop :=
  ∃ s₂ o, Steps p.tables e below (T.setTop g) s₂ ∧ s₂.status = .running ∧ Ended s₂ below o ∧ En o s₂
def own_En (s : State) (n0 : Nat) (F : Option Value → Heap → Prop) (kc ks : Nat) (o : Outcome) (s₂ : State) : Prop := ∃ v L, o = .returned v ∧ (F v s₂.heap ∧ Fr n0 L) ∧ FrameEnd s o s₂ L kc ks
theorem own_step {T' : State} {g g' : JFrame} (st : ∀ t, Steps p.tables e below (T'.setTop g') t → Steps p.tables e below (T.setTop g) t) (k : own_Go p e below En T' g') : own_Go p e below En T g := by
  obtain ⟨s₂, o, h1, h2⟩ := k
  exact ⟨s₂, o, st _ h1, h2⟩
/-- what stays the same in one body -/
def own_Cx (p : Program) (s : State) (m : MethodId) (meth : Method) (c : Code) (Z : State) (own : String) (cd : ByteArray) (maxL : Nat) (ret : Option FieldType) (nm : String) : Prop :=
  p.tables.exec = Jvm.exec ∧ c.code = cd ∧ c.maxLocals = maxL ∧ s.vm.findClass own = some m.cls ∧ meth.name = nm ∧ meth.sig.returnType = ret ∧ meth.locks = false ∧ Z.Warmed39 s.vm
/-- where the walk stands: the heap is h, at most so many cells and slots have been made, nothing old was written -/
def own_S (p : Program) (l : Launch) (e : Env) (R : Room) (s : State) (m : MethodId) (args : Array Value) (below : List Frame) (meth : Method) (c : Code) (n0 : Nat) (T : State) (h : Heap) (cells slots : Nat) : Prop :=
  ∃ locs k n, Stand p l e R s m args below meth c T locs k n ∧ T.heap = h ∧ Fr n0 locs ∧ k ≤ cells ∧ n ≤ slots
theorem own_S.mono {c' s' : Nat} (S : own_S p l e R s m args below meth c n0 T h cells slots) (h1 : cells ≤ c') (h2 : slots ≤ s') : own_S p l e R s m args below meth c n0 T h c' s' := by
  obtain ⟨locs, k, n, X, e1, N, q1, q2⟩ := S
  exact ⟨locs, k, n, X, e1, N, Nat.le_trans q1 h1, Nat.le_trans q2 h2⟩
theorem own_hd (C : own_Cx p s m meth c Z own cd maxL ret nm) {i : Instr} {len : Nat} (hd : decode cd pc = .ok (i, len)) : decode c.code pc = .ok (i, len) := by rw [C.2.1]; exact hd
theorem own_hsz (C : own_Cx p s m meth c Z own cd maxL ret nm) (hsz : ls.size = maxL) : ls.size = c.maxLocals := by rw [C.2.2.1]; exact hsz
/-- the k-th table word -/
theorem own_wd {L : List Jvm.Cond} (hw : ∀ d ∈ L, d.before a0 Z = true) (i : Nat) {d : Jvm.Cond} (hi : L[i]? = some d) : d.before a0 Z = true := hw d (List.mem_of_getElem? hi)
/-- one plain instruction -/
def own_st (i : Instr) (len pc : Nat) (ls : Array Slot) (st : List Value) : Option (Nat × Array Slot × List Value) :=
  match i with
  | .iload_n k => match len, ls[k.val]? with | 1, some (.val (.int v)) => some (pc + 1, ls, .int v :: st) | _, _ => none
  | .iload k => match len, ls[k]? with | 2, some (.val (.int v)) => some (pc + 2, ls, .int v :: st) | _, _ => none
  | .lload_n k => match len, ls[k.val]? with | 1, some (.val (.long v)) => some (pc + 1, ls, .long v :: st) | _, _ => none
  | .lload k => match len, ls[k]? with | 2, some (.val (.long v)) => some (pc + 2, ls, .long v :: st) | _, _ => none
  | .dload_n k => match len, ls[k.val]? with | 1, some (.val (.double v)) => some (pc + 1, ls, .double v :: st) | _, _ => none
  | .dload k => match len, ls[k]? with | 2, some (.val (.double v)) => some (pc + 2, ls, .double v :: st) | _, _ => none
  | .aload_n k => match len, ls[k.val]? with | 1, some (.val (.ref v)) => some (pc + 1, ls, .ref v :: st) | 1, some (.val .null) => some (pc + 1, ls, .null :: st) | _, _ => none
  | .aload k => match len, ls[k]? with | 2, some (.val (.ref v)) => some (pc + 2, ls, .ref v :: st) | 2, some (.val .null) => some (pc + 2, ls, .null :: st) | _, _ => none
  | .istore_n k => match len, st with | 1, .int x :: r => (match storeLocals ls k.val (.int x) with | some l' => some (pc + 1, l', r) | none => none) | _, _ => none
  | .istore k => match len, st with | 2, .int x :: r => (match storeLocals ls k (.int x) with | some l' => some (pc + 2, l', r) | none => none) | _, _ => none
  | .lstore_n k => match len, st with | 1, .long x :: r => (match storeLocals ls k.val (.long x) with | some l' => some (pc + 1, l', r) | none => none) | _, _ => none
  | .lstore k => match len, st with | 2, .long x :: r => (match storeLocals ls k (.long x) with | some l' => some (pc + 2, l', r) | none => none) | _, _ => none
  | .dstore_n k => match len, st with | 1, .double x :: r => (match storeLocals ls k.val (.double x) with | some l' => some (pc + 1, l', r) | none => none) | _, _ => none
  | .dstore k => match len, st with | 2, .double x :: r => (match storeLocals ls k (.double x) with | some l' => some (pc + 2, l', r) | none => none) | _, _ => none
  | .astore_n k => match len, st with
    | 1, .ref x :: r => (match storeLocals ls k.val (.ref x) with | some l' => some (pc + 1, l', r) | none => none)
    | 1, .null :: r => (match storeLocals ls k.val .null with | some l' => some (pc + 1, l', r) | none => none)
    | _, _ => none
  | .astore k => match len, st with
    | 2, .ref x :: r => (match storeLocals ls k (.ref x) with | some l' => some (pc + 2, l', r) | none => none)
    | 2, .null :: r => (match storeLocals ls k .null with | some l' => some (pc + 2, l', r) | none => none)
    | _, _ => none
  | .iinc k d => match len, ls[k]? with | 3, some (.val (.int x)) => (match storeLocals ls k (.int (x + Int32.ofInt d)) with | some l' => some (pc + 3, l', st) | none => none) | _, _ => none
  | .iconst i => match len with | 1 => some (pc + 1, ls, .int (Int32.ofInt i) :: st) | _ => none
  | .bipush i => match len with | 2 => some (pc + 2, ls, .int (Int8.ofInt i).toInt32 :: st) | _ => none
  | .sipush i => match len with | 3 => some (pc + 3, ls, .int (Int16.ofInt i).toInt32 :: st) | _ => none
  | .lconst k => match len with | 1 => some (pc + 1, ls, .long (Int64.ofNat k) :: st) | _ => none
  | .aconst_null => match len with | 1 => some (pc + 1, ls, .null :: st) | _ => none
  | .iadd => match len, st with | 1, .int y :: .int x :: r => some (pc + 1, ls, .int (x + y) :: r) | _, _ => none
  | .isub => match len, st with | 1, .int y :: .int x :: r => some (pc + 1, ls, .int (x - y) :: r) | _, _ => none
  | .imul => match len, st with | 1, .int y :: .int x :: r => some (pc + 1, ls, .int (x * y) :: r) | _, _ => none
  | .iand => match len, st with | 1, .int y :: .int x :: r => some (pc + 1, ls, .int (x &&& y) :: r) | _, _ => none
  | .ior => match len, st with | 1, .int y :: .int x :: r => some (pc + 1, ls, .int (x ||| y) :: r) | _, _ => none
  | .ixor => match len, st with | 1, .int y :: .int x :: r => some (pc + 1, ls, .int (x ^^^ y) :: r) | _, _ => none
  | .ishl => match len, st with | 1, .int y :: .int x :: r => some (pc + 1, ls, .int (x <<< (y &&& 31)) :: r) | _, _ => none
  | .ishr => match len, st with | 1, .int y :: .int x :: r => some (pc + 1, ls, .int (x >>> (y &&& 31)) :: r) | _, _ => none
  | .iushr => match len, st with | 1, .int y :: .int x :: r => some (pc + 1, ls, .int (Jvm.Free.XT.ushr x y) :: r) | _, _ => none
  | .ineg => match len, st with | 1, .int x :: r => some (pc + 1, ls, .int (-x) :: r) | _, _ => none
  | .ladd => match len, st with | 1, .long y :: .long x :: r => some (pc + 1, ls, .long (x + y) :: r) | _, _ => none
  | .lsub => match len, st with | 1, .long y :: .long x :: r => some (pc + 1, ls, .long (x - y) :: r) | _, _ => none
  | .lmul => match len, st with | 1, .long y :: .long x :: r => some (pc + 1, ls, .long (x * y) :: r) | _, _ => none
  | .land => match len, st with | 1, .long y :: .long x :: r => some (pc + 1, ls, .long (x &&& y) :: r) | _, _ => none
  | .lor => match len, st with | 1, .long y :: .long x :: r => some (pc + 1, ls, .long (x ||| y) :: r) | _, _ => none
  | .lshl => match len, st with | 1, .int y :: .long x :: r => some (pc + 1, ls, .long (x <<< (y.toInt64 &&& 63)) :: r) | _, _ => none
  | .lshr => match len, st with | 1, .int y :: .long x :: r => some (pc + 1, ls, .long (x >>> (y.toInt64 &&& 63)) :: r) | _, _ => none
  | .lushr => match len, st with | 1, .int y :: .long x :: r => some (pc + 1, ls, .long (Jvm.Free.XT.ushrL x y) :: r) | _, _ => none
  | .lcmp => match len, st with | 1, .long y :: .long x :: r => some (pc + 1, ls, .int (Jvm.Free.XT.cmpL x y) :: r) | _, _ => none
  | .i2l => match len, st with | 1, .int x :: r => some (pc + 1, ls, .long x.toInt64 :: r) | _, _ => none
  | .l2i => match len, st with | 1, .long x :: r => some (pc + 1, ls, .int x.toInt32 :: r) | _, _ => none
  | .i2b => match len, st with | 1, .int x :: r => some (pc + 1, ls, .int x.toInt8.toInt32 :: r) | _, _ => none
  | .i2c => match len, st with | 1, .int x :: r => some (pc + 1, ls, .int x.toUInt32.toUInt16.toUInt32.toInt32 :: r) | _, _ => none
  | .i2s => match len, st with | 1, .int x :: r => some (pc + 1, ls, .int x.toInt16.toInt32 :: r) | _, _ => none
  | .i2d => match len, st with | 1, .int x :: r => some (pc + 1, ls, .double (FP.i2d x) :: r) | _, _ => none
  | .dup => match len, st with | 1, .int x :: r => some (pc + 1, ls, .int x :: .int x :: r) | 1, .ref x :: r => some (pc + 1, ls, .ref x :: .ref x :: r) | 1, .null :: r => some (pc + 1, ls, .null :: .null :: r) | _, _ => none
  | .pop => match len, st with | 1, .int x :: r => some (pc + 1, ls, r) | 1, .ref x :: r => some (pc + 1, ls, r) | 1, .null :: r => some (pc + 1, ls, r) | _, _ => none
  | .dup_x1 => match len, st with | 1, .int x :: .ref y :: r => some (pc + 1, ls, .int x :: .ref y :: .int x :: r) | 1, .int x :: .int y :: r => some (pc + 1, ls, .int x :: .int y :: .int x :: r) | 1, .ref x :: .ref y :: r => some (pc + 1, ls, .ref x :: .ref y :: .ref x :: r) | _, _ => none
  | .dup2 => match len, st with | 1, .int x :: .ref y :: r => some (pc + 1, ls, .int x :: .ref y :: .int x :: .ref y :: r) | 1, .int x :: .int y :: r => some (pc + 1, ls, .int x :: .int y :: .int x :: .int y :: r) | 1, .long x :: r => some (pc + 1, ls, .long x :: .long x :: r) | _, _ => none
  | .goto o => match len, decide (0 ≤ (pc : Int) + o) with | 3, true => some (((pc : Int) + o).toNat, ls, st) | _, _ => none
  | .ifnull o => match len, st, decide (0 ≤ (pc : Int) + o) with | 3, .null :: r, true => some (((pc : Int) + o).toNat, ls, r) | 3, .ref _ :: r, _ => some (pc + 3, ls, r) | _, _, _ => none
  | .ifnonnull o => match len, st, decide (0 ≤ (pc : Int) + o) with | 3, .ref _ :: r, true => some (((pc : Int) + o).toNat, ls, r) | 3, .null :: r, _ => some (pc + 3, ls, r) | _, _, _ => none
  | _ => none
theorem own_st_ok (X : Stand p l e R s m args below meth c T locs cells slots) (hx : p.tables.exec = Jvm.exec) {i : Instr} {len pc' : Nat} {ls' : Array Slot} {st' : List Value} (hd : decode c.code pc = .ok (i, len)) (hs : own_st i len pc ls st = some (pc', ls', st')) (t : State)
    (k : Steps p.tables e below (T.setTop (mkF m pc' ls' st')) t) : Steps p.tables e below (T.setTop (mkF m pc ls st)) t := by
  unfold own_st at hs
  split at hs
  · split at hs <;> first | cases hs | skip
    rename_i q; exact XS.iloadN X.here hx rfl hd q k
  · split at hs <;> first | cases hs | skip
    rename_i q; exact XS.iload X.here hx rfl hd q k
  · split at hs <;> first | cases hs | skip
    rename_i q; exact Jvm.Free.XT.lloadN X.here hx rfl hd q k
  · split at hs <;> first | cases hs | skip
    rename_i q; exact Jvm.Free.XT.lload X.here hx rfl hd q k
  · split at hs <;> first | cases hs | skip
    rename_i q; exact XS.dloadN X.here hx rfl hd q k
  · split at hs <;> first | cases hs | skip
    rename_i q; exact XS.dload X.here hx rfl hd q k
  · split at hs <;> first | cases hs | skip
    · rename_i q; exact XS.aloadN X.here hx rfl hd q rfl k
    · rename_i q; exact XS.aloadN X.here hx rfl hd q rfl k
  · split at hs <;> first | cases hs | skip
    · rename_i q; exact XS.aload X.here hx rfl hd q rfl k
    · rename_i q; exact XS.aload X.here hx rfl hd q rfl k
  · split at hs <;> first | cases hs | skip
    split at hs <;> first | cases hs | skip
    rename_i q; exact XS.istoreN X.here hx rfl hd rfl q k
  · split at hs <;> first | cases hs | skip
    split at hs <;> first | cases hs | skip
    rename_i q; exact XS.istore X.here hx rfl hd rfl q k
  · split at hs <;> first | cases hs | skip
    split at hs <;> first | cases hs | skip
    rename_i q; exact Jvm.Free.XT.lstoreN X.here hx rfl hd rfl q k
  · split at hs <;> first | cases hs | skip
    split at hs <;> first | cases hs | skip
    rename_i q; exact Jvm.Free.XT.lstore X.here hx rfl hd rfl q k
  · split at hs <;> first | cases hs | skip
    split at hs <;> first | cases hs | skip
    rename_i q; exact XS.dstoreN X.here hx rfl hd rfl q k
  · split at hs <;> first | cases hs | skip
    split at hs <;> first | cases hs | skip
    rename_i q; exact XS.dstore X.here hx rfl hd rfl q k
  · split at hs <;> first | cases hs | skip
    all_goals
      split at hs <;> first | cases hs | skip
      rename_i q; exact XS.astoreN X.here hx rfl hd rfl rfl q k
  · split at hs <;> first | cases hs | skip
    all_goals
      split at hs <;> first | cases hs | skip
      rename_i q; exact XS.astore X.here hx rfl hd rfl rfl q k
  · split at hs <;> first | cases hs | skip
    rename_i q0
    split at hs <;> first | cases hs | skip
    rename_i q; exact XS.iinc X.here hx rfl hd q0 q k
  · split at hs <;> first | cases hs | skip
    exact XS.iconst X.here hx rfl hd k
  · split at hs <;> first | cases hs | skip
    exact XS.bipush X.here hx rfl hd k
  · split at hs <;> first | cases hs | skip
    exact XS.sipush X.here hx rfl hd k
  · split at hs <;> first | cases hs | skip
    exact Jvm.Free.XT.lconst X.here hx rfl hd k
  · split at hs <;> first | cases hs | skip
    exact XS.aconstNull X.here hx rfl hd k
  · split at hs <;> first | cases hs | skip
    exact XS.iadd X.here hx rfl hd rfl k
  · split at hs <;> first | cases hs | skip
    exact XS.isub X.here hx rfl hd rfl k
  · split at hs <;> first | cases hs | skip
    exact XS.imul X.here hx rfl hd rfl k
  · split at hs <;> first | cases hs | skip
    exact XS.iand X.here hx rfl hd rfl k
  · split at hs <;> first | cases hs | skip
    exact Jvm.Free.XT.ior X.here hx rfl hd rfl k
  · split at hs <;> first | cases hs | skip
    exact Jvm.Free.XT.ixor X.here hx rfl hd rfl k
  · split at hs <;> first | cases hs | skip
    exact Jvm.Free.XT.ishl X.here hx rfl hd rfl k
  · split at hs <;> first | cases hs | skip
    exact Jvm.Free.XT.ishr X.here hx rfl hd rfl k
  · split at hs <;> first | cases hs | skip
    exact Jvm.Free.XT.iushr X.here hx rfl hd rfl k
  · split at hs <;> first | cases hs | skip
    exact XS.ineg X.here hx rfl hd rfl k
  · split at hs <;> first | cases hs | skip
    exact Jvm.Free.XT.ladd X.here hx rfl hd rfl k
  · split at hs <;> first | cases hs | skip
    exact Jvm.Free.XT.lsub X.here hx rfl hd rfl k
  · split at hs <;> first | cases hs | skip
    exact Jvm.Free.XT.lmul X.here hx rfl hd rfl k
  · split at hs <;> first | cases hs | skip
    exact Jvm.Free.XT.land X.here hx rfl hd rfl k
  · split at hs <;> first | cases hs | skip
    exact Jvm.Free.XT.lor X.here hx rfl hd rfl k
  · split at hs <;> first | cases hs | skip
    exact Jvm.Free.XT.lshl X.here hx rfl hd rfl k
  · split at hs <;> first | cases hs | skip
    exact Jvm.Free.XT.lshr X.here hx rfl hd rfl k
  · split at hs <;> first | cases hs | skip
    exact Jvm.Free.XT.lushr X.here hx rfl hd rfl k
  · split at hs <;> first | cases hs | skip
    exact Jvm.Free.XT.lcmp X.here hx rfl hd rfl k
  · split at hs <;> first | cases hs | skip
    exact Jvm.Free.XT.i2l X.here hx rfl hd rfl k
  · split at hs <;> first | cases hs | skip
    exact Jvm.Free.XT.l2i X.here hx rfl hd rfl k
  · split at hs <;> first | cases hs | skip
    exact Jvm.Free.XT.i2b X.here hx rfl hd rfl k
  · split at hs <;> first | cases hs | skip
    exact Jvm.Free.XT.i2c X.here hx rfl hd rfl k
  · split at hs <;> first | cases hs | skip
    exact Jvm.Free.XT.i2s X.here hx rfl hd rfl k
  · split at hs <;> first | cases hs | skip
    exact XS.i2dS X.here hx rfl hd rfl rfl k
  · split at hs <;> first | cases hs | skip
    all_goals exact XS.dup X.here hx rfl hd rfl rfl k
  · split at hs <;> first | cases hs | skip
    all_goals exact Jvm.Free.XT.pop X.here hx rfl hd rfl rfl k
  · split at hs <;> first | cases hs | skip
    all_goals exact Jvm.Free.XT.dupX1 X.here hx rfl hd rfl rfl rfl k
  · split at hs <;> first | cases hs | skip
    · exact Jvm.Free.XT.dup2 X.here hx rfl hd rfl rfl rfl k
    · exact Jvm.Free.XT.dup2 X.here hx rfl hd rfl rfl rfl k
    · exact Jvm.Free.XT.dup2L X.here hx rfl hd rfl k
  · split at hs <;> first | cases hs | skip
    rename_i q; exact XS.goto X.here hx rfl rfl hd (of_decide_eq_true q) rfl k
  · split at hs <;> first | cases hs | skip
    · rename_i q; exact XS.ifnullYes X.here hx rfl rfl hd rfl (of_decide_eq_true q) rfl k
    · exact XS.ifnullNo X.here hx rfl hd rfl k
  · split at hs <;> first | cases hs | skip
    · rename_i q; exact Jvm.Free.XT.ifnonnullYes X.here hx rfl rfl hd rfl (of_decide_eq_true q) rfl k
    · exact Jvm.Free.XT.ifnonnullNo X.here hx rfl hd rfl k
  · cases hs
/-- a row of plain instructions -/
def own_run : List (Nat × Instr × Nat) → Nat → Array Slot → List Value → Option (Nat × Array Slot × List Value)
  | [], pc, ls, st => some (pc, ls, st)
  | x :: seg, pc, ls, st => match decide (pc = x.1) with
    | true => (match own_st x.2.1 x.2.2 x.1 ls st with | some (pc', ls', st') => own_run seg pc' ls' st' | none => none)
    | false => none
def own_dec (cd : ByteArray) (seg : List (Nat × Instr × Nat)) : Bool := seg.all fun x => decide (decode cd x.1 = .ok x.2)
theorem own_run_ok (X : Stand p l e R s m args below meth c T locs cells slots) (hx : p.tables.exec = Jvm.exec) (hby : c.code = cd) : ∀ (seg : List (Nat × Instr × Nat)) {pc pc' : Nat} {ls ls' : Array Slot} {st st' : List Value}, own_dec cd seg = true → own_run seg pc ls st = some (pc', ls', st') → ∀ t,
    Steps p.tables e below (T.setTop (mkF m pc' ls' st')) t → Steps p.tables e below (T.setTop (mkF m pc ls st)) t := by
  intro seg
  induction seg with
  | nil =>
    intro pc pc' ls ls' st st' _ hr t k
    simp only [own_run, Option.some.injEq, Prod.mk.injEq] at hr
    obtain ⟨rfl, rfl, rfl⟩ := hr
    exact k
  | cons x seg ih =>
    intro pc pc' ls ls' st st' hd hr t k
    simp only [own_dec, List.all_cons, Bool.and_eq_true, decide_eq_true_eq] at hd
    simp only [own_run] at hr
    split at hr
    · rename_i q
      have q' : pc = x.1 := of_decide_eq_true q
      subst q'
      split at hr
      · rename_i a1 b1 c1 q2
        exact own_st_ok X hx (by rw [hby]; exact hd.1) q2 t (ih hd.2 hr t k)
      · cases hr
    · cases hr
theorem own_seg (C : own_Cx p s m meth c Z own cd maxL ret nm) (S : own_S p l e R s m args below meth c n0 T h cells slots) (seg : List (Nat × Instr × Nat)) (hd : own_dec cd seg = true) (pc' : Nat) (ls' : Array Slot) (st' : List Value)
    (hr : own_run seg pc ls st = some (pc', ls', st')) (k : own_Go p e below En T (mkF m pc' ls' st')) : own_Go p e below En T (mkF m pc ls st) := by
  obtain ⟨locs, kk, n, X, -⟩ := S
  exact own_step (own_run_ok X C.1 C.2.1 seg hd hr) k
def own_P : ClassFile.Cond → Int32 → Int32 → Prop
  | .eq, x, y => x = y | .ne, x, y => ¬ x = y | .lt, x, y => x < y | .ge, x, y => ¬ x < y | .gt, x, y => y < x | .le, x, y => ¬ y < x
def own_N : ClassFile.Cond → Int32 → Int32 → Prop
  | .eq, x, y => ¬ x = y | .ne, x, y => x = y | .lt, x, y => ¬ x < y | .ge, x, y => x < y | .gt, x, y => ¬ y < x | .le, x, y => y < x
theorem own_holds (q : ClassFile.Cond) (x y : Int32) : (own_P q x y ∧ if_icmp.holds q x y = true) ∨ (own_N q x y ∧ if_icmp.holds q x y = false) := by
  cases q
  · by_cases g : x = y
    · exact Or.inl ⟨g, (teq g).1⟩
    · exact Or.inr ⟨g, (feq g).1⟩
  · by_cases g : x = y
    · exact Or.inr ⟨g, (teq g).2⟩
    · exact Or.inl ⟨g, (feq g).2⟩
  · by_cases g : x < y
    · exact Or.inl ⟨g, (tlt g).1⟩
    · exact Or.inr ⟨g, (flt g).1⟩
  · by_cases g : x < y
    · exact Or.inr ⟨g, (tlt g).2.1⟩
    · exact Or.inl ⟨g, (flt g).2.1⟩
  · by_cases g : y < x
    · exact Or.inl ⟨g, (tlt g).2.2.1⟩
    · exact Or.inr ⟨g, (flt g).2.2.1⟩
  · by_cases g : y < x
    · exact Or.inr ⟨g, (tlt g).2.2.2⟩
    · exact Or.inl ⟨g, (flt g).2.2.2⟩
theorem own_icmp (C : own_Cx p s m meth c Z own cd maxL ret nm) (S : own_S p l e R s m args below meth c n0 T h cells slots) {q : ClassFile.Cond} {o : Int} {x y : Int32} (hd : decode cd pc = .ok (.if_icmp q o, 3)) (pc' : Nat) (ho : 0 ≤ (pc : Int) + o) (hp : ((pc : Int) + o).toNat = pc')
    (k1 : own_P q x y → own_Go p e below En T (mkF m pc' ls st)) (k2 : own_N q x y → own_Go p e below En T (mkF m (pc + 3) ls st)) : own_Go p e below En T (mkF m pc ls (.int y :: .int x :: st)) := by
  obtain ⟨locs, kk, n, X, -⟩ := S
  rcases own_holds q x y with ⟨g, hc⟩ | ⟨g, hc⟩
  · exact own_step (fun t k => XS.icmpYes X.here C.1 rfl rfl (own_hd C hd) rfl hc ho hp k) (k1 g)
  · exact own_step (fun t k => XS.icmpNo X.here C.1 rfl (own_hd C hd) rfl hc k) (k2 g)
theorem own_if (C : own_Cx p s m meth c Z own cd maxL ret nm) (S : own_S p l e R s m args below meth c n0 T h cells slots) {q : ClassFile.Cond} {o : Int} {x : Int32} (hd : decode cd pc = .ok (.ifCond q o, 3)) (pc' : Nat) (ho : 0 ≤ (pc : Int) + o) (hp : ((pc : Int) + o).toNat = pc')
    (k1 : own_P q x 0 → own_Go p e below En T (mkF m pc' ls st)) (k2 : own_N q x 0 → own_Go p e below En T (mkF m (pc + 3) ls st)) : own_Go p e below En T (mkF m pc ls (.int x :: st)) := by
  obtain ⟨locs, kk, n, X, -⟩ := S
  rcases own_holds q x 0 with ⟨g, hc⟩ | ⟨g, hc⟩ <;> rw [← if0] at hc
  · exact own_step (fun t k => XS.ifYes X.here C.1 rfl rfl (own_hd C hd) rfl hc ho hp k) (k1 g)
  · exact own_step (fun t k => XS.ifNo X.here C.1 rfl (own_hd C hd) rfl hc k) (k2 g)
def own_A : ClassFile.ACond → Value → Value → Prop
  | .eq, x, y => x = y | .ne, x, y => ¬ x = y
def own_B : ClassFile.ACond → Value → Value → Prop
  | .eq, x, y => ¬ x = y | .ne, x, y => x = y
theorem own_acmp (C : own_Cx p s m meth c Z own cd maxL ret nm) (S : own_S p l e R s m args below meth c n0 T h cells slots) {q : ClassFile.ACond} {o : Int} {x y : Value} (hx' : x.isRef = true) (hy' : y.isRef = true) (hd : decode cd pc = .ok (.if_acmp q o, 3)) (pc' : Nat) (ho : 0 ≤ (pc : Int) + o) (hp : ((pc : Int) + o).toNat = pc')
    (k1 : own_A q x y → own_Go p e below En T (mkF m pc' ls st)) (k2 : own_B q x y → own_Go p e below En T (mkF m (pc + 3) ls st)) : own_Go p e below En T (mkF m pc ls (y :: x :: st)) := by
  obtain ⟨locs, kk, n, X, -⟩ := S
  cases q <;> by_cases g : x = y
  · exact own_step (fun t k => Jvm.Free.XT.acmpYes X.here C.1 rfl rfl (own_hd C hd) rfl hx' hy' (Jvm.Free.XT.aa_eq_t g) ho hp k) (k1 g)
  · exact own_step (fun t k => Jvm.Free.XT.acmpNo X.here C.1 rfl (own_hd C hd) rfl hx' hy' (Jvm.Free.XT.aa_eq_f g) k) (k2 g)
  · exact own_step (fun t k => Jvm.Free.XT.acmpNo X.here C.1 rfl (own_hd C hd) rfl hx' hy' (Jvm.Free.XT.aa_ne_f g) k) (k2 g)
  · exact own_step (fun t k => Jvm.Free.XT.acmpYes X.here C.1 rfl rfl (own_hd C hd) rfl hx' hy' (Jvm.Free.XT.aa_ne_t g) ho hp k) (k1 g)
theorem own_idiv (C : own_Cx p s m meth c Z own cd maxL ret nm) (S : own_S p l e R s m args below meth c n0 T h cells slots) {x y : Int32} (hd : decode cd pc = .ok (.idiv, 1)) (hy : y ≠ 0) (k : own_Go p e below En T (mkF m (pc + 1) ls (.int (x / y) :: st))) : own_Go p e below En T (mkF m pc ls (.int y :: .int x :: st)) := by
  obtain ⟨locs, kk, n, X, -⟩ := S
  exact own_step (fun t k => XS.idiv X.here C.1 rfl (own_hd C hd) rfl hy k) k
theorem own_irem (C : own_Cx p s m meth c Z own cd maxL ret nm) (S : own_S p l e R s m args below meth c n0 T h cells slots) {x y : Int32} (hd : decode cd pc = .ok (.irem, 1)) (hy : y ≠ 0) (k : own_Go p e below En T (mkF m (pc + 1) ls (.int (x % y) :: st))) : own_Go p e below En T (mkF m pc ls (.int y :: .int x :: st)) := by
  obtain ⟨locs, kk, n, X, -⟩ := S
  exact own_step (fun t k => iremM X C.1 rfl (own_hd C hd) rfl hy k) k
theorem own_ldc (C : own_Cx p s m meth c Z own cd maxL ret nm) (S : own_S p l e R s m args below meth c n0 T h cells slots) {index : Nat} {v : Int32} (w : (Jvm.Cond.constant own index v).before a0 Z = true) (hd : decode cd pc = .ok (.ldc index, 2)) (k : own_Go p e below En T (mkF m (pc + 2) ls (.int v :: st))) : own_Go p e below En T (mkF m pc ls st) := by
  obtain ⟨locs, kk, n, X, -⟩ := S
  exact own_step (fun t k => X.ldcInt C.1 C.2.2.2.1 (mv C.2.2.2.2.2.2.2 w) (g := mkF m pc ls st) rfl (own_hd C hd) t k) k
theorem own_getF (C : own_Cx p s m meth c Z own cd maxL ret nm) (S : own_S p l e R s m args below meth c n0 T h cells slots) {index : Nat} {R0 O n d host : String} {a : Addr} {v : Value} (w : (Jvm.Cond.fieldLink own index R0 n d).before a0 Z = true ∨ (Jvm.Cond.fieldLinkNest own index R0 n d host).before a0 Z = true) (via : Via Z R0 O n d) (FF : Fld Z h a O n d v) (hd : decode cd pc = .ok (.getfield index, 3))
    (k : ∀ T', own_S p l e R s m args below meth c n0 T' h cells slots → own_Go p e below En T' (mkF m (pc + 3) ls (v :: st))) : own_Go p e below En T (mkF m pc ls (.ref a :: st)) := by
  obtain ⟨locs, kk, nn, X, eT, N, q1, q2⟩ := S
  obtain ⟨T', X', e', stp⟩ := getF X C.1 C.2.2.2.2.2.2.2 C.2.2.2.1 w via eT FF (g := mkF m pc ls (.ref a :: st)) rfl rfl (own_hd C hd)
  exact own_step stp (k T' ⟨_, _, _, X', e', N, q1, q2⟩)
theorem own_getS (C : own_Cx p s m meth c Z own cd maxL ret nm) (S : own_S p l e R s m args below meth c n0 T h cells slots) {index : Nat} {R0 O n d : String} {v : Value} (w : (Jvm.Cond.fieldLink own index R0 n d).before a0 Z = true) (via : Via Z R0 O n d) (FF : Sta Z h O n d v) (hd : decode cd pc = .ok (.getstatic index, 3))
    (k : ∀ T', own_S p l e R s m args below meth c n0 T' h cells slots → own_Go p e below En T' (mkF m (pc + 3) ls (v :: st))) : own_Go p e below En T (mkF m pc ls st) := by
  obtain ⟨locs, kk, nn, X, eT, N, q1, q2⟩ := S
  obtain ⟨T', X', e', stp⟩ := getS X C.1 C.2.2.2.2.2.2.2 (host := "") C.2.2.2.1 w via eT FF (g := mkF m pc ls st) rfl (own_hd C hd)
  exact own_step stp (k T' ⟨_, _, _, X', e', N, q1, q2⟩)
theorem own_putF (C : own_Cx p s m meth c Z own cd maxL ret nm) (S : own_S p l e R s m args below meth c n0 T h cells slots) {index ki : Nat} {R0 O n d host Cl : String} {a : Addr} {v old : Value} {ty : FieldType} (w : (Jvm.Cond.fieldLink own index R0 n d).before a0 Z = true ∨ (Jvm.Cond.fieldLinkNest own index R0 n d host).before a0 Z = true) (via : Via Z R0 O n d) (FF : Fld Z h a O n d old) (E : Exa Z h a Cl)
    (L : (Jvm.Cond.lays Cl O n d).before a0 Z = true ∨ ((Jvm.Cond.laysFinal Cl O n d).before a0 Z = true ∧ own = O ∧ nm = "<init>")) (wi : (Jvm.Cond.instantiable Cl ki).before a0 Z = true) (hty : parseFieldDescriptor d = some ty) (hn : narrow ty v = v) (hf : fits ty v = true) (hge : n0 ≤ a) (hd : decode cd pc = .ok (.putfield index, 3))
    (k : ∀ T' h', own_S p l e R s m args below meth c n0 T' h' cells slots → Wr h h' a (Jvm.RoadKit.slotOf Z O n d) v → own_Go p e below En T' (mkF m (pc + 3) ls st)) : own_Go p e below En T (mkF m pc ls (v :: .ref a :: st)) := by
  obtain ⟨locs, kk, nn, X, eT, N, q1, q2⟩ := S
  obtain ⟨T', h', X', e', W, stp⟩ := putF X C.1 C.2.2.2.2.2.2.2 C.2.2.2.1 w via eT FF E (L.imp id (fun q => ⟨q.1, q.2.1, C.2.2.2.2.1.trans q.2.2⟩)) wi hty hn hf (g := mkF m pc ls (v :: .ref a :: st)) rfl rfl (own_hd C hd)
  exact own_step stp (k T' h' ⟨_, _, _, X', e', Fr.snoc X' N hge, q1, q2⟩ W)
theorem own_new (C : own_Cx p s m meth c Z own cd maxL ret nm) (S : own_S p l e R s m args below meth c n0 T h cells slots) {index ki : Nat} {Cl : String} (w : (Jvm.Cond.classLink own index Cl).before a0 Z = true) (wi : (Jvm.Cond.instantiable Cl ki).before a0 Z = true) (wz : (Jvm.Cond.initialized Cl).before a0 Z = true) (hd : decode cd pc = .ok (.new index, 3)) (hc : cells + 1 ≤ R.cells) (hl : slots + ki ≤ R.slots)
    (k : ∀ T' h' a, own_S p l e R s m args below meth c n0 T' h' (cells + 1) (slots + ki) → a = h.size → Ext h h' → Exa Z h' a Cl → (∀ {O nm d : String} {ty : FieldType}, Laid Z a0 Cl O nm d → parseFieldDescriptor d = some ty → Fld Z h' a O nm d (defaultValue ty)) → own_Go p e below En T' (mkF m (pc + 3) ls (.ref a :: st))) : own_Go p e below En T (mkF m pc ls st) := by
  obtain ⟨locs, kk, nn, X, eT, N, q1, q2⟩ := S
  obtain ⟨T', h', X', e', E, A, D, -, stp⟩ := newO X C.1 C.2.2.2.2.2.2.2 C.2.2.2.1 w wi wz eT (g := mkF m pc ls st) rfl (own_hd C hd) (by omega) (by omega)
  exact own_step stp (k T' h' _ ⟨_, _, _, X', e', N, by omega, by omega⟩ rfl E A D)
theorem own_initO (C : own_Cx p s m meth c Z own cd maxL ret nm) (S : own_S p l e R s m args below meth c n0 T h cells slots) {index : Nat} (w1 : (Jvm.Cond.methodLink own index Lib.objectInit).before a0 Z = true) (w2 : (Jvm.Cond.instanceMethod Lib.objectInit).before a0 Z = true) (w3 : (Jvm.Cond.code Lib.objectInit ⟨#[0xb1]⟩ 1 none).before a0 Z = true) {a : Addr} (hsz : ls.size = maxL) (hd : decode cd pc = .ok (.invokespecial index, 3)) (hf : 1 ≤ R.frames) (W : Nat) (hW : (st.map fun v => v.category).sum ≤ W) (hl : W + 12 ≤ R.locals)
    (k : ∀ T', own_S p l e R s m args below meth c n0 T' h cells slots → own_Go p e below En T' (mkF m (pc + 3) ls st)) : own_Go p e below En T (mkF m pc ls (.ref a :: st)) := by
  obtain ⟨locs, kk, nn, X, eT, N, q1, q2⟩ := S
  obtain ⟨T', X', e', stp⟩ := initO X C.1 C.2.2.2.2.2.2.2 C.2.2.2.1 w1 w2 w3 eT (g := mkF m pc ls (.ref a :: st)) rfl (own_hsz C hsz) rfl (own_hd C hd) hf (W := W) (by show 2 * 0 + _ ≤ W; omega) hl
  exact own_step stp (k T' ⟨_, _, _, X', e', N, q1, q2⟩)
theorem own_newP (C : own_Cx p s m meth c Z own cd maxL ret nm) (S : own_S p l e R s m args below meth c n0 T h cells slots) {aty : ArrayType} (w : (Jvm.Cond.arrayClass (newarray.typeOf aty)).before a0 Z = true) (hd : decode cd pc = .ok (.newarray aty, 2)) {n : Int32} (hn : ¬ n < 0) (cap : Nat) (hcap : n.toNatClampNeg ≤ cap) (hb : cap * 8 ≤ 536870912) (hc : cells + 1 ≤ R.cells) (hl : slots + cap ≤ R.slots)
    (k : ∀ T' h' a cA, own_S p l e R s m args below meth c n0 T' h' (cells + 1) (slots + cap) → a = h.size → Ext h h' → Arv Z h' a cA (newarray.typeOf aty) n [] (defaultValue (newarray.typeOf aty)) → own_Go p e below En T' (mkF m (pc + 2) ls (.ref a :: st))) : own_Go p e below En T (mkF m pc ls (.int n :: st)) := by
  obtain ⟨locs, kk, nn, X, eT, N, q1, q2⟩ := S
  obtain ⟨T', h', cA, X', e', E, A, stp⟩ := newP X C.1 C.2.2.2.2.2.2.2 w eT (g := mkF m pc ls (.int n :: st)) rfl (own_hd C hd) rfl hn hcap hb (by omega) (by omega)
  exact own_step stp (k T' h' _ cA ⟨_, _, _, X', e', N, by omega, by omega⟩ rfl E (Arv.new A hn))
theorem own_alen (C : own_Cx p s m meth c Z own cd maxL ret nm) (S : own_S p l e R s m args below meth c n0 T h cells slots) {a : Addr} {ka : ClassId} {ty : FieldType} {N : Int32} {vs : List Value} {dv : Value} (FF : Arv Z h a ka ty N vs dv) (hd : decode cd pc = .ok (.arraylength, 1)) (k : own_Go p e below En T (mkF m (pc + 1) ls (.int N :: st))) : own_Go p e below En T (mkF m pc ls (.ref a :: st)) := by
  obtain ⟨locs, kk, nn, X, eT, -⟩ := S
  obtain ⟨cl, A, -, sz, hN, -⟩ := FF
  rw [← len_of sz hN] at k
  exact own_step (fun t k => X.arraylength C.1 (by rw [eT]; exact A.1) (State.isArrayOf_alike C.2.2.2.2.2.2.2.alike A.2.1) (g := mkF m pc ls (.ref a :: st)) rfl rfl (own_hd C hd) t k) k
theorem own_caload (C : own_Cx p s m meth c Z own cd maxL ret nm) (S : own_S p l e R s m args below meth c n0 T h cells slots) {a : Addr} {ka : ClassId} {N j : Int32} {vs : List Value} {dv : Value} (FF : Arv Z h a ka .char N vs dv) (hin : ¬ j < 0 ∧ j < N) (v : Value) (hv : vs.getD j.toNatClampNeg dv = v) (hd : decode cd pc = .ok (.caload, 1)) (k : own_Go p e below En T (mkF m (pc + 1) ls (v :: st))) : own_Go p e below En T (mkF m pc ls (.int j :: .ref a :: st)) := by
  obtain ⟨locs, kk, nn, X, eT, -⟩ := S
  obtain ⟨cl, A, -, sz, hN, H, -⟩ := FF
  exact own_step (fun t k => X.caload C.1 (by rw [eT]; exact A.1) (State.isArrayOf_alike C.2.2.2.2.2.2.2.alike A.2.1) A.2.2 (inb_of sz hin) (Has.at H (inb_of sz hin) hv) (g := mkF m pc ls (.int j :: .ref a :: st)) rfl rfl (own_hd C hd) t k) k
theorem own_iaload (C : own_Cx p s m meth c Z own cd maxL ret nm) (S : own_S p l e R s m args below meth c n0 T h cells slots) {a : Addr} {ka : ClassId} {N j : Int32} {vs : List Value} {dv : Value} (FF : Arv Z h a ka .int N vs dv) (hin : ¬ j < 0 ∧ j < N) (v : Value) (hv : vs.getD j.toNatClampNeg dv = v) (hd : decode cd pc = .ok (.iaload, 1)) (k : own_Go p e below En T (mkF m (pc + 1) ls (v :: st))) : own_Go p e below En T (mkF m pc ls (.int j :: .ref a :: st)) := by
  obtain ⟨locs, kk, nn, X, eT, -⟩ := S
  obtain ⟨cl, A, -, sz, hN, H, -⟩ := FF
  exact own_step (fun t k => X.iaload C.1 (by rw [eT]; exact A.1) (State.isArrayOf_alike C.2.2.2.2.2.2.2.alike A.2.1) A.2.2 (inb_of sz hin) (Has.at H (inb_of sz hin) hv) (g := mkF m pc ls (.int j :: .ref a :: st)) rfl rfl (own_hd C hd) t k) k
theorem own_baload (C : own_Cx p s m meth c Z own cd maxL ret nm) (S : own_S p l e R s m args below meth c n0 T h cells slots) {a : Addr} {ka : ClassId} {N j : Int32} {vs : List Value} {dv : Value} (FF : Arv Z h a ka .byte N vs dv) (hin : ¬ j < 0 ∧ j < N) (v : Value) (hv : vs.getD j.toNatClampNeg dv = v) (hd : decode cd pc = .ok (.baload, 1)) (k : own_Go p e below En T (mkF m (pc + 1) ls (v :: st))) : own_Go p e below En T (mkF m pc ls (.int j :: .ref a :: st)) := by
  obtain ⟨locs, kk, nn, X, eT, -⟩ := S
  obtain ⟨cl, A, -, sz, hN, H, -⟩ := FF
  exact own_step (fun t k => X.baloadBytes C.1 (by rw [eT]; exact A.1) (State.isArrayOf_alike C.2.2.2.2.2.2.2.alike A.2.1) A.2.2 (inb_of sz hin) (Has.at H (inb_of sz hin) hv) (g := mkF m pc ls (.int j :: .ref a :: st)) rfl rfl (own_hd C hd) t k) k
theorem own_castore (C : own_Cx p s m meth c Z own cd maxL ret nm) (S : own_S p l e R s m args below meth c n0 T h cells slots) {a : Addr} {ka : ClassId} {N j x : Int32} {vs : List Value} {dv : Value} (FF : Arv Z h a ka .char N vs dv) (hin : ¬ j < 0 ∧ j < N) (i : Nat) (hj : j.toNatClampNeg = i) (hi : i < vs.length) (x' : Int32) (hx' : nar .char x = x') (hge : n0 ≤ a) (hd : decode cd pc = .ok (.castore, 1))
    (k : ∀ T' h', own_S p l e R s m args below meth c n0 T' h' cells slots → Wr h h' a j.toNatClampNeg (.int x') → Arv Z h' a ka .char N (vs.set i (.int x')) dv → own_Go p e below En T' (mkF m (pc + 1) ls st)) : own_Go p e below En T (mkF m pc ls (.int x :: .int j :: .ref a :: st)) := by
  subst hx'
  obtain ⟨locs, kk, nn, X, eT, N, q1, q2⟩ := S
  obtain ⟨cl, A, ck, sz, hN, H, G⟩ := FF
  obtain ⟨T', h', X', e', W, stp⟩ := stC X C.1 C.2.2.2.2.2.2.2 eT A (inb_of sz hin) (g := mkF m pc ls (.int x :: .int j :: .ref a :: st)) rfl rfl (own_hd C hd)
  exact own_step stp (k T' h' ⟨_, _, _, X', e', Fr.snoc X' N hge, q1, q2⟩ W (Arv.set A ck sz hN H G (fits_nar_char x) W i hj hi))
theorem own_bastore (C : own_Cx p s m meth c Z own cd maxL ret nm) (S : own_S p l e R s m args below meth c n0 T h cells slots) {a : Addr} {ka : ClassId} {N j x : Int32} {vs : List Value} {dv : Value} (FF : Arv Z h a ka .byte N vs dv) (hin : ¬ j < 0 ∧ j < N) (i : Nat) (hj : j.toNatClampNeg = i) (hi : i < vs.length) (x' : Int32) (hx' : nar .byte x = x') (hge : n0 ≤ a) (hd : decode cd pc = .ok (.bastore, 1))
    (k : ∀ T' h', own_S p l e R s m args below meth c n0 T' h' cells slots → Wr h h' a j.toNatClampNeg (.int x') → Arv Z h' a ka .byte N (vs.set i (.int x')) dv → own_Go p e below En T' (mkF m (pc + 1) ls st)) : own_Go p e below En T (mkF m pc ls (.int x :: .int j :: .ref a :: st)) := by
  subst hx'
  obtain ⟨locs, kk, nn, X, eT, N, q1, q2⟩ := S
  obtain ⟨cl, A, ck, sz, hN, H, G⟩ := FF
  obtain ⟨T', h', X', e', W, stp⟩ := stB X C.1 C.2.2.2.2.2.2.2 eT A (inb_of sz hin) (g := mkF m pc ls (.int x :: .int j :: .ref a :: st)) rfl rfl (own_hd C hd)
  exact own_step stp (k T' h' ⟨_, _, _, X', e', Fr.snoc X' N hge, q1, q2⟩ W (Arv.set A ck sz hN H G (fits_nar_byte x) W i hj hi))
theorem own_iastore (C : own_Cx p s m meth c Z own cd maxL ret nm) (S : own_S p l e R s m args below meth c n0 T h cells slots) {a : Addr} {ka : ClassId} {N j x : Int32} {vs : List Value} {dv : Value} (FF : Arv Z h a ka .int N vs dv) (hin : ¬ j < 0 ∧ j < N) (i : Nat) (hj : j.toNatClampNeg = i) (hi : i < vs.length) (hge : n0 ≤ a) (hd : decode cd pc = .ok (.iastore, 1))
    (k : ∀ T' h', own_S p l e R s m args below meth c n0 T' h' cells slots → Wr h h' a j.toNatClampNeg (.int x) → Arv Z h' a ka .int N (vs.set i (.int x)) dv → own_Go p e below En T' (mkF m (pc + 1) ls st)) : own_Go p e below En T (mkF m pc ls (.int x :: .int j :: .ref a :: st)) := by
  obtain ⟨locs, kk, nn, X, eT, N, q1, q2⟩ := S
  obtain ⟨cl, A, ck, sz, hN, H, G⟩ := FF
  obtain ⟨T', h', X', e', W, stp⟩ := stI X C.1 C.2.2.2.2.2.2.2 eT A (inb_of sz hin) (g := mkF m pc ls (.int x :: .int j :: .ref a :: st)) rfl rfl (own_hd C hd)
  exact own_step stp (k T' h' ⟨_, _, _, X', e', Fr.snoc X' N hge, q1, q2⟩ W (Arv.set A ck sz hN H G rfl W i hj hi))
theorem own_cast (C : own_Cx p s m meth c Z own cd maxL ret nm) (S : own_S p l e R s m args below meth c n0 T h cells slots) {index : Nat} {K : String} {a : Addr} (w : (Jvm.Cond.classLink own index K).before a0 Z = true) (FF : Ins Z h a K true) (hd : decode cd pc = .ok (.checkcast index, 3))
    (k : ∀ T', own_S p l e R s m args below meth c n0 T' h cells slots → own_Go p e below En T' (mkF m (pc + 3) ls (.ref a :: st))) : own_Go p e below En T (mkF m pc ls (.ref a :: st)) := by
  obtain ⟨locs, kk, nn, X, eT, N, q1, q2⟩ := S
  obtain ⟨T', X', e', stp⟩ := castY X C.1 C.2.2.2.2.2.2.2 C.2.2.2.1 w eT FF (g := mkF m pc ls (.ref a :: st)) rfl rfl (own_hd C hd)
  exact own_step stp (k T' ⟨_, _, _, X', e', N, q1, q2⟩)
theorem own_ret {t : FieldType} (C : own_Cx p s m meth c Z own cd maxL (some t) nm) (S : own_S p l e R s m args below meth c n0 T h cells slots) {i : Instr} {w : Value} (hd : decode cd pc = .ok (i, 1)) (hn : narrow t w = w)
    (hi : (i = .ireturn ∧ (t = .int ∨ t = .boolean ∨ t = .byte ∨ t = .char ∨ t = .short) ∧ ∃ z, w = .int z) ∨ (i = .lreturn ∧ t = .long ∧ ∃ z, w = .long z) ∨ (i = .dreturn ∧ t = .double ∧ ∃ z, w = .double z) ∨ (i = .freturn ∧ t = .float ∧ ∃ z, w = .float z) ∨ (i = .areturn ∧ t.isReference = true ∧ w.isRef = true))
    (hc : cells ≤ kc) (hs : slots ≤ ks) (hF : F (some w) h) : own_Go p e below (own_En s n0 F kc ks) T (mkF m pc ls (w :: st)) := by
  obtain ⟨locs, kk, nn, X, eT, N, q1, q2⟩ := S
  obtain ⟨fs, hr, hrun, hended, hW, hsame⟩ := X.leave (v := some w) (fun q => by rw [C.2.2.2.2.2.1] at q; cases q) C.2.2.2.2.2.2.1
  refine ⟨_, _, retOut X C.1 C.2.2.2.2.2.1 hn hi (own_hd C hd) hr, hrun, hended, _, _, rfl, ⟨?_, N⟩, ⟨_, rfl⟩, hW, hsame.mono (Nat.le_trans q1 hc) (Nat.le_trans q2 hs)⟩
  show F (some w) T.heap
  rw [eT]; exact hF
theorem own_retI (C : own_Cx p s m meth c Z own cd maxL (some .int) nm) (S : own_S p l e R s m args below meth c n0 T h cells slots) {z : Int32} (hd : decode cd pc = .ok (.ireturn, 1)) (hc : cells ≤ kc) (hs : slots ≤ ks) (hF : F (some (.int z)) h) : own_Go p e below (own_En s n0 F kc ks) T (mkF m pc ls (.int z :: st)) :=
  own_ret C S hd rfl (Or.inl ⟨rfl, Or.inl rfl, z, rfl⟩) hc hs hF
theorem own_retZ (C : own_Cx p s m meth c Z own cd maxL (some .boolean) nm) (S : own_S p l e R s m args below meth c n0 T h cells slots) {z : Int32} (hd : decode cd pc = .ok (.ireturn, 1)) (hz : z &&& 1 = z) (hc : cells ≤ kc) (hs : slots ≤ ks) (hF : F (some (.int z)) h) : own_Go p e below (own_En s n0 F kc ks) T (mkF m pc ls (.int z :: st)) :=
  own_ret C S hd (by show Value.int (z &&& 1) = _; rw [hz]) (Or.inl ⟨rfl, Or.inr (Or.inl rfl), z, rfl⟩) hc hs hF
theorem own_retC (C : own_Cx p s m meth c Z own cd maxL (some .char) nm) (S : own_S p l e R s m args below meth c n0 T h cells slots) {z : Int32} (hd : decode cd pc = .ok (.ireturn, 1)) (hz : z.toUInt32.toUInt16.toUInt32.toInt32 = z) (hc : cells ≤ kc) (hs : slots ≤ ks) (hF : F (some (.int z)) h) : own_Go p e below (own_En s n0 F kc ks) T (mkF m pc ls (.int z :: st)) :=
  own_ret C S hd (by show Value.int (z.toUInt32.toUInt16.toUInt32.toInt32) = _; rw [hz]) (Or.inl ⟨rfl, by simp, z, rfl⟩) hc hs hF
theorem own_retA {t : FieldType} (C : own_Cx p s m meth c Z own cd maxL (some t) nm) (S : own_S p l e R s m args below meth c n0 T h cells slots) {w : Value} (ht : t.isReference = true) (hr : w.isRef = true) (hd : decode cd pc = .ok (.areturn, 1)) (hc : cells ≤ kc) (hs : slots ≤ ks) (hF : F (some w) h) : own_Go p e below (own_En s n0 F kc ks) T (mkF m pc ls (w :: st)) :=
  own_ret C S hd (by cases w <;> simp [Value.isRef] at hr <;> cases t <;> first | rfl | (simp [FieldType.isReference] at ht)) (by simp [ht, hr]) hc hs hF
theorem own_retV (C : own_Cx p s m meth c Z own cd maxL none nm) (S : own_S p l e R s m args below meth c n0 T h cells slots) (hd : decode cd pc = .ok (.return_, 1)) (hc : cells ≤ kc) (hs : slots ≤ ks) (hF : F none h) : own_Go p e below (own_En s n0 F kc ks) T (mkF m pc ls []) := by
  obtain ⟨locs, kk, nn, X, eT, N, q1, q2⟩ := S
  obtain ⟨fs, hr, hrun, hended, hW, hsame⟩ := X.leave (v := none) (fun _ => rfl) C.2.2.2.2.2.2.1
  refine ⟨_, _, X.returnOut C.1 C.2.2.2.2.2.1 (own_hd C hd) hr, hrun, hended, _, _, rfl, ⟨?_, N⟩, ⟨_, rfl⟩, hW, hsame.mono (Nat.le_trans q1 hc) (Nat.le_trans q2 hs)⟩
  show F none T.heap
  rw [eT]; exact hF
def own_Met (l : Launch) (Z : State) (y : MethodName) (cd : ByteArray) (maxL : Nat) (ret : Option FieldType) (rm : Room) (n0 : Nat) (as' : Array Value) (h0 : Heap) (Q : Option Value → Heap → Prop) : Prop :=
  ∀ ws, MetFree l y (head1 (Jvm.Cond.code y cd maxL ret :: ws) rm) (fun a U => a = as' ∧ Z.Warmed39 U.vm ∧ U.heap = h0) (fun _ _ _ _ _ => True) (fun _ U o U' => ∃ v L, o = .returned v ∧ (Q v U'.heap ∧ Fr n0 L) ∧ FrameEnd U o U' L rm.cells rm.slots)
theorem own_met {y : MethodName} {rm : Room} {as' : Array Value} {h0 : Heap} {Q : Option Value → Heap → Prop} (hp : plainFor y = true) (ls : Array Slot) (hef : ∀ m, entryFrame m as' maxL = mkF m 0 ls [])
    (H : ∀ (p : Program) (e : Env) (s : State) (m : MethodId) (below : List Frame) (meth : Method) (c : Code) (T : State), own_Cx p s m meth c Z y.cls cd maxL ret y.name → own_S p l e rm s m as' below meth c n0 T h0 0 0 → own_Go p e below (own_En s n0 Q rm.cells rm.slots) T (mkF m 0 ls [])) : own_Met l Z y cd maxL ret rm n0 as' h0 Q := by
  intro ws
  refine MetFree.of_bodySF hp hisR ?_
  intro p e s m args below meth c s₁ Bd hml hP hK
  obtain ⟨rfl, hZ, hh⟩ := hP
  have e0 : s₁.heap = h0 := by rw [← hh, Bd.state]; rfl
  have G := H p e s m below meth c s₁ ⟨Bd.exec, Bd.bytes, hml, findClass_of_methodNamed Bd.named, (name_of_methodNamed Bd.named Bd.method).1, Bd.returns, BodyLoose.notSynchronized Bd, hZ⟩ ⟨_, _, _, Stand.of_body Bd, e0, Fr.nil n0, Nat.le_refl _, Nat.le_refl _⟩
  rw [← hef m] at G
  exact G
/-- who pays a call -/
abbrev own_Pay (l : Launch) (R : Room) (p : Program) (e : Env) (below : List Frame) (s : State) (args : Array Value) (y : MethodName) (len W : Nat) (as' : Array Value) (h : Heap) (k1 k2 : Nat) (Q : Option Value → Heap → List Loc → Prop) : Prop :=
  Back l R p e below s args y len W (fun P a => a = as' ∧ P.U.heap = h ∧ P.cells + k1 ≤ R.cells ∧ P.slots + k2 ≤ R.slots) (fun P _ v B => ∃ L, Q v B.U.heap L ∧ B.locs = P.locs ++ L ∧ B.cells = P.cells + k1 ∧ B.slots = P.slots + k2)
theorem own_Met.pay {y : MethodName} {cdy : ByteArray} {maxy : Nat} {rety : Option FieldType} {rm : Room} {as' : Array Value} {Q : Option Value → Heap → Prop} (M : own_Met l Z y cdy maxy rety rm n0 as' h Q) (C : own_Cx p s m meth c Z own cd maxL ret nm) {len : Nat} (W : Nat) (wc : (Jvm.Cond.code y cdy maxy rety).before a0 Z = true) (wz : (Jvm.Cond.initialized y.cls).before a0 Z = true) (hf : rm.frames + 1 ≤ R.frames) (hl : W + (maxy + 11) + rm.locals ≤ R.locals) :
    own_Pay l R p e below s args y len W as' h rm.cells rm.slots (fun v h' L => Q v h' ∧ Fr n0 L) := backOf (Q := fun v h' L => Q v h' ∧ Fr n0 L) (M []) C.2.2.2.2.2.2.2 wc wz hf hl
theorem own_callS (C : own_Cx p s m meth c Z own cd maxL ret nm) (S : own_S p l e R s m args below meth c n0 T h cells slots) {y : MethodName} {index : Nat} {cdy : ByteArray} {maxy : Nat} {rety : Option FieldType} {W k1 k2 : Nat} {as' : Array Value} {Q : Option Value → Heap → List Loc → Prop}
    (w1 : (Jvm.Cond.methodLink own index y).before a0 Z = true) (w2 : (Jvm.Cond.static y).before a0 Z = true) (w3 : (Jvm.Cond.initialized y.cls).before a0 Z = true) (w4 : (Jvm.Cond.code y cdy maxy rety).before a0 Z = true) (hy : y.cls ≠ "java/lang/invoke/MethodHandle" ∧ y.cls ≠ "java/lang/invoke/VarHandle")
    (hK : own_Pay l R p e below s args y 3 W as' h k1 k2 Q) (hfr : ∀ v h' L, Q v h' L → Fr n0 L) (argsL rest : List Value) {ps : List FieldType} {rr : Option FieldType} (has : argsL.toArray = as') (hpd : parseMethodDescriptor y.desc = some ⟨ps, rr⟩) (hlen : argsL.length = ps.length) (hstk : st = argsL.reverse ++ rest) (hsz : ls.size = maxL) (hW : (rest.map fun v => v.category).sum ≤ W)
    (hc : cells + k1 ≤ R.cells) (hs : slots + k2 ≤ R.slots) (hd : decode cd pc = .ok (.invokestatic index, 3))
    (k : ∀ T' h' v L, own_S p l e R s m args below meth c n0 T' h' (cells + k1) (slots + k2) → Q v h' L → own_Go p e below En T' (mkF m (pc + 3) ls (v.toList ++ rest))) : own_Go p e below En T (mkF m pc ls st) := by
  obtain ⟨locs, kk, nn, X, eT, N, q1, q2⟩ := S
  have hZ := C.2.2.2.2.2.2.2
  obtain ⟨v, vm1, B, -, X', ⟨L, hQ, l1, l2, l3⟩, stp⟩ := Jvm.LawKit.callS X C.1 C.2.2.2.1 (mvT hZ w1) (mvT hZ w2) (mvT hZ w3) (mvT hZ w4) hy hK (g := mkF m pc ls st) rfl (own_hsz C hsz) (argsL := argsL) (rest := rest) (lenOf hpd hlen) hstk (by show 2 * 0 + _ ≤ W; omega) (own_hd C hd) (fun _ _ => ⟨has, eT, by show kk + k1 ≤ _; omega, by show nn + k2 ≤ _; omega⟩)
  refine own_step stp (k B.U _ v L ⟨B.locs, B.cells, B.slots, X', rfl, ?_, ?_, ?_⟩ hQ)
  · rw [l1]; exact Fr.app N (hfr _ _ _ hQ)
  · rw [l2]; show kk + k1 ≤ _; omega
  · rw [l3]; show nn + k2 ≤ _; omega
theorem own_callI (C : own_Cx p s m meth c Z own cd maxL ret nm) (S : own_S p l e R s m args below meth c n0 T h cells slots) {y : MethodName} {index : Nat} {cdy : ByteArray} {maxy : Nat} {W k1 k2 : Nat} {as' : Array Value} {Q : Option Value → Heap → List Loc → Prop}
    (hy1 : y.name = "<init>") (w1 : (Jvm.Cond.methodLink own index y).before a0 Z = true) (w2 : (Jvm.Cond.instanceMethod y).before a0 Z = true) (w4 : (Jvm.Cond.code y cdy maxy none).before a0 Z = true) (hy : y.cls ≠ "java/lang/invoke/MethodHandle" ∧ y.cls ≠ "java/lang/invoke/VarHandle")
    (hK : own_Pay l R p e below s args y 3 W as' h k1 k2 Q) (hfr : ∀ v h' L, Q v h' L → Fr n0 L) {a : Addr} (argsL rest : List Value) {ps : List FieldType} {rr : Option FieldType} (has : (.ref a :: argsL).toArray = as') (hpd : parseMethodDescriptor y.desc = some ⟨ps, rr⟩) (hlen : argsL.length = ps.length) (hstk : st = argsL.reverse ++ .ref a :: rest) (hsz : ls.size = maxL) (hW : (rest.map fun v => v.category).sum ≤ W)
    (hc : cells + k1 ≤ R.cells) (hs : slots + k2 ≤ R.slots) (hd : decode cd pc = .ok (.invokespecial index, 3))
    (k : ∀ T' h' v L, own_S p l e R s m args below meth c n0 T' h' (cells + k1) (slots + k2) → Q v h' L → own_Go p e below En T' (mkF m (pc + 3) ls (v.toList ++ rest))) : own_Go p e below En T (mkF m pc ls st) := by
  obtain ⟨locs, kk, nn, X, eT, N, q1, q2⟩ := S
  have hZ := C.2.2.2.2.2.2.2
  obtain ⟨v, vm1, B, -, X', ⟨L, hQ, l1, l2, l3⟩, stp⟩ := X.specialBack C.1 hy1 C.2.2.2.1 (mvT hZ w1) (mvT hZ w2) (mvT hZ w4) hy hK (g := mkF m pc ls st) rfl (own_hsz C hsz) (Steps.refl _) (a := a) (argsL := argsL) (rest := rest) (lenOf hpd hlen) hstk (by show 2 * 0 + _ ≤ W; omega) (own_hd C hd) (fun _ _ => ⟨has, eT, by show kk + k1 ≤ _; omega, by show nn + k2 ≤ _; omega⟩)
  refine own_step (fun t k => stp.trans k) (k B.U _ v L ⟨B.locs, B.cells, B.slots, X', rfl, ?_, ?_, ?_⟩ hQ)
  · rw [l1]; exact Fr.app N (hfr _ _ _ hQ)
  · rw [l2]; show kk + k1 ≤ _; omega
  · rw [l3]; show nn + k2 ≤ _; omega
theorem own_nf {args : Array Value} {s : State} {C : String} {y y' : MethodName} (hyc : y'.cls = y.cls) (hsel : (Jvm.Cond.selects C y' y').before args s = true) : NotFace s y := fun r0 h0 => by
  obtain ⟨c2, r2, m2, q1, q2, q3, q4, kP, hkP, hkPi⟩ := Cond.selects_spec hsel
  have e1 := findClass_of_methodNamed h0
  have e2 := findClass_of_methodNamed q3
  rw [hyc, e1] at e2
  rw [Option.some.inj e2]
  exact ⟨kP, hkP, hkPi⟩
theorem own_selfP {C : String} {y : MethodName} (w1 : (Jvm.Cond.instanceMethod y).before a0 Z = true) (w2 : (Jvm.Cond.privateMethod y).before a0 Z = true) (w3 : (Jvm.Cond.selects C y y).before a0 Z = true) (hy : y.cls ≠ "java/lang/invoke/MethodHandle" ∧ y.cls ≠ "java/lang/invoke/VarHandle") : (Jvm.Cond.selects y.cls y y).before a0 Z = true := by
  obtain ⟨mk, methM, hnamed, hmethM, -, -⟩ := Cond.instanceMethod_spec w1
  obtain ⟨k, hk, hki⟩ := notFace_of_selects w3 mk hnamed
  exact selects_self_of_private (findClass_of_methodNamed hnamed) hk hki (Cond.privateMethod_at w2) w1 hy
theorem own_same {C : String} {y y' : MethodName} (w1 : (Jvm.Cond.instanceMethod y).before a0 Z = true) (w3 : (Jvm.Cond.selects C y' y').before a0 Z = true) (hyc : y'.cls = y.cls) (hy : y.cls ≠ "java/lang/invoke/MethodHandle" ∧ y.cls ≠ "java/lang/invoke/VarHandle") : (Jvm.Cond.sameMethod y.cls y.cls y.name y.desc).before a0 Z = true := by
  obtain ⟨mk, methM, hnamed, hmethM, -, -⟩ := Cond.instanceMethod_spec w1
  obtain ⟨k, hk, hki⟩ := own_nf hyc w3 mk hnamed
  have hf : Z.methodFound? y.cls y.name y.desc = some mk := State.methodFound?_of_named hnamed hy
  have hc := findClass_of_methodNamed hnamed
  have hn' : Z.methodNamed? ⟨y.cls, y.name, y.desc⟩ = some mk := hnamed
  simp only [Cond.before, Cond.holds, Cond.value, hc, hf, hn', hk]
  simp [hki]
theorem own_callV (C : own_Cx p s m meth c Z own cd maxL ret nm) (S : own_S p l e R s m args below meth c n0 T h cells slots) {y z : MethodName} {Cl : String} {index : Nat} {W k1 k2 : Nat} {as' : Array Value} {Q : Option Value → Heap → List Loc → Prop}
    (w1 : (Jvm.Cond.methodLink own index y).before a0 Z = true) (w2 : (Jvm.Cond.declares y).before a0 Z = true) (w3 : (Jvm.Cond.selects Cl y z).before a0 Z = true) {Cl' : String} {y' : MethodName} (w3' : (Jvm.Cond.selects Cl' y' y').before a0 Z = true) (hyc : y'.cls = y.cls) (w4 : (Jvm.Cond.instanceMethod z).before a0 Z = true) (hy : y.cls ≠ "java/lang/invoke/MethodHandle" ∧ y.cls ≠ "java/lang/invoke/VarHandle")
    (hK : own_Pay l R p e below s args z 3 W as' h k1 k2 Q) (hfr : ∀ v h' L, Q v h' L → Fr n0 L) {a : Addr} (E : Exa Z h a Cl) (argsL rest : List Value) {ps : List FieldType} {rr : Option FieldType} (has : (.ref a :: argsL).toArray = as') (hpd : parseMethodDescriptor y.desc = some ⟨ps, rr⟩) (hlen : argsL.length = ps.length) (hstk : st = argsL.reverse ++ .ref a :: rest) (hsz : ls.size = maxL) (hW : (rest.map fun v => v.category).sum ≤ W)
    (hc : cells + k1 ≤ R.cells) (hs : slots + k2 ≤ R.slots) (hd : decode cd pc = .ok (.invokevirtual index, 3))
    (k : ∀ T' h' v L, own_S p l e R s m args below meth c n0 T' h' (cells + k1) (slots + k2) → Q v h' L → own_Go p e below En T' (mkF m (pc + 3) ls (v.toList ++ rest))) : own_Go p e below En T (mkF m pc ls st) := by
  obtain ⟨locs, kk, nn, X, eT, N, q1, q2⟩ := S
  have hZ := C.2.2.2.2.2.2.2
  obtain ⟨cq, kq, qa, qb, qc⟩ := isOf (T := T) hZ eT E
  obtain ⟨v, vm1, B, -, X', ⟨L, hQ, l1, l2, l3⟩, stp⟩ := X.virtualBack C.1 C.2.2.2.1 (mvT hZ w1) (mvT hZ w2) (own_nf (args := #[]) hyc (mvT hZ w3')) (mvT hZ w3) (mvT hZ w4) hy hK qa qc (g := mkF m pc ls st) rfl (own_hsz C hsz) (Steps.refl _) (argsL := argsL) (rest := rest) (lenOf hpd hlen) hstk (by show 2 * 0 + _ ≤ W; omega) (own_hd C hd) (fun _ _ => ⟨has, eT, by show kk + k1 ≤ _; omega, by show nn + k2 ≤ _; omega⟩)
  refine own_step (fun t k => stp.trans k) (k B.U _ v L ⟨B.locs, B.cells, B.slots, X', rfl, ?_, ?_, ?_⟩ hQ)
  · rw [l1]; exact Fr.app N (hfr _ _ _ hQ)
  · rw [l2]; show kk + k1 ≤ _; omega
  · rw [l3]; show nn + k2 ≤ _; omega
theorem own_callP (C : own_Cx p s m meth c Z own cd maxL ret nm) (S : own_S p l e R s m args below meth c n0 T h cells slots) {y : MethodName} {index : Nat} {cdy : ByteArray} {maxy : Nat} {rety : Option FieldType} {W k1 k2 : Nat} {as' : Array Value} {Q : Option Value → Heap → List Loc → Prop}
    (w1 : (Jvm.Cond.methodLink own index y).before a0 Z = true) (w2 : (Jvm.Cond.instanceMethod y).before a0 Z = true) (w3 : (Jvm.Cond.selects y.cls y y).before a0 Z = true) (w4 : (Jvm.Cond.privateMethod y).before a0 Z = true) (w5 : (Jvm.Cond.code y cdy maxy rety).before a0 Z = true) (hy : y.cls ≠ "java/lang/invoke/MethodHandle" ∧ y.cls ≠ "java/lang/invoke/VarHandle")
    (hK : own_Pay l R p e below s args y 3 W as' h k1 k2 Q) (hfr : ∀ v h' L, Q v h' L → Fr n0 L) {a : Addr} {Cl : String} (E : Exa Z h a Cl) (argsL rest : List Value) {ps : List FieldType} {rr : Option FieldType} (has : (.ref a :: argsL).toArray = as') (hpd : parseMethodDescriptor y.desc = some ⟨ps, rr⟩) (hlen : argsL.length = ps.length) (hstk : st = argsL.reverse ++ .ref a :: rest) (hsz : ls.size = maxL) (hW : (rest.map fun v => v.category).sum ≤ W)
    (hc : cells + k1 ≤ R.cells) (hs : slots + k2 ≤ R.slots) (hd : decode cd pc = .ok (.invokevirtual index, 3))
    (k : ∀ T' h' v L, own_S p l e R s m args below meth c n0 T' h' (cells + k1) (slots + k2) → Q v h' L → own_Go p e below En T' (mkF m (pc + 3) ls (v.toList ++ rest))) : own_Go p e below En T (mkF m pc ls st) := by
  obtain ⟨locs, kk, nn, X, eT, N, q1, q2⟩ := S
  have hZ := C.2.2.2.2.2.2.2
  obtain ⟨cl, hcl, hns⟩ := E.cell
  obtain ⟨v, vm1, B, -, X', ⟨L, hQ, l1, l2, l3⟩, stp⟩ := X.privateBack C.1 C.2.2.2.1 (mvT hZ w1) (mvT hZ w2) (mvT hZ w3) (Cond.privateMethod_at (mvP (args := args) hZ w4)) (mvT hZ w5) hy hK (g := mkF m pc ls st) rfl (own_hsz C hsz) (Steps.refl _) (a := a) (cell := cl) (by rw [eT]; exact hcl) hns (argsL := argsL) (rest := rest) (lenOf hpd hlen) hstk (by show 2 * 0 + _ ≤ W; omega) (own_hd C hd) (fun _ _ => ⟨has, eT, by show kk + k1 ≤ _; omega, by show nn + k2 ≤ _; omega⟩)
  refine own_step (fun t k => stp.trans k) (k B.U _ v L ⟨B.locs, B.cells, B.slots, X', rfl, ?_, ?_, ?_⟩ hQ)
  · rw [l1]; exact Fr.app N (hfr _ _ _ hQ)
  · rw [l2]; show kk + k1 ≤ _; omega
  · rw [l3]; show nn + k2 ≤ _; omega
theorem own_callX (C : own_Cx p s m meth c Z own cd maxL ret nm) (S : own_S p l e R s m args below meth c n0 T h cells slots) {y : MethodName} {K : String} {index : Nat} {cdy : ByteArray} {maxy : Nat} {rety : Option FieldType} {W k1 k2 : Nat} {as' : Array Value} {Q : Option Value → Heap → List Loc → Prop}
    (w1 : (Jvm.Cond.methodLink own index y).before a0 Z = true) (w2 : (Jvm.Cond.sameMethod y.cls y.cls y.name y.desc).before a0 Z = true) (w3 : (Jvm.Cond.instanceMethod y).before a0 Z = true) (w4 : (Jvm.Cond.superclass own y.cls).before a0 Z = true) (hn : y.name ≠ "<init>") (w5 : (Jvm.Cond.code y cdy maxy rety).before a0 Z = true)
    (hK : own_Pay l R p e below s args y 3 W as' h k1 k2 Q) (hfr : ∀ v h' L, Q v h' L → Fr n0 L) {a : Addr} (E : Ins Z h a K true) (argsL rest : List Value) {ps : List FieldType} {rr : Option FieldType} (has : (.ref a :: argsL).toArray = as') (hpd : parseMethodDescriptor y.desc = some ⟨ps, rr⟩) (hlen : argsL.length = ps.length) (hstk : st = argsL.reverse ++ .ref a :: rest) (hsz : ls.size = maxL) (hW : (rest.map fun v => v.category).sum ≤ W)
    (hc : cells + k1 ≤ R.cells) (hs : slots + k2 ≤ R.slots) (hd : decode cd pc = .ok (.invokespecial index, 3))
    (k : ∀ T' h' v L, own_S p l e R s m args below meth c n0 T' h' (cells + k1) (slots + k2) → Q v h' L → own_Go p e below En T' (mkF m (pc + 3) ls (v.toList ++ rest))) : own_Go p e below En T (mkF m pc ls st) := by
  obtain ⟨locs, kk, nn, X, eT, N, q1, q2⟩ := S
  obtain ⟨v, vm1, B, -, X', ⟨L, hQ, l1, l2, l3⟩, stp⟩ := superBack X C.1 C.2.2.2.2.2.2.2 C.2.2.2.1 w1 w2 w3 w4 hn hK eT E (g := mkF m pc ls st) rfl (own_hsz C hsz) w5 (argsL := argsL) (rest := rest) (lenOf hpd hlen) hstk (by show 2 * 0 + _ ≤ W; omega) (own_hd C hd) (fun _ _ => ⟨has, eT, by show kk + k1 ≤ _; omega, by show nn + k2 ≤ _; omega⟩)
  refine own_step (fun t k => stp.trans k) (k B.U _ v L ⟨B.locs, B.cells, B.slots, X', rfl, ?_, ?_, ?_⟩ hQ)
  · rw [l1]; exact Fr.app N (hfr _ _ _ hQ)
  · rw [l2]; show kk + k1 ≤ _; omega
  · rw [l3]; show nn + k2 ≤ _; omega
/-- System.arraycopy over arrays of one plain kind -/
theorem own_copy (C : own_Cx p s m meth c Z own cd maxL ret nm) (S : own_S p l e R s m args below meth c n0 T h cells slots) {index : Nat} (w1 : (Jvm.Cond.methodLink own index Jvm.Stand.acN).before a0 Z = true) (w2 : (Jvm.Cond.native Jvm.Stand.acN).before a0 Z = true) (w3 : (Jvm.Cond.static Jvm.Stand.acN).before a0 Z = true) (w4 : (Jvm.Cond.initialized "java/lang/System").before a0 Z = true)
    {a b : Addr} {ka kb : ClassId} {ty : FieldType} {z z' sp dp nn : Int32} {vs vd : List Value} {dv dd : Value} (A : Arv Z h a ka ty z vs dv) (B : Arv Z h b kb ty z' vd dd) (hty : refKind ty = false) (h1 : ¬ sp < 0) (h2 : ¬ dp < 0) (h3 : ¬ nn < 0) (h4 : sp.toNatClampNeg + nn.toNatClampNeg ≤ z.toNatClampNeg) (h5 : dp.toNatClampNeg + nn.toNatClampNeg ≤ z'.toNatClampNeg) (hl : dp.toNatClampNeg + nn.toNatClampNeg ≤ vd.length) (ge : n0 ≤ b)
    (us : List Value) (hus : vd.take dp.toNatClampNeg ++ ((List.range nn.toNatClampNeg).map fun i => vs.getD (sp.toNatClampNeg + i) dv) ++ vd.drop (dp.toNatClampNeg + nn.toNatClampNeg) = us) (hsz : ls.size = maxL) (hd : decode cd pc = .ok (.invokestatic index, 3)) (hf : 1 ≤ R.frames) (W : Nat) (hW : (st.map fun v => v.category).sum ≤ W) (hlo : W + (nativeFrameWords "java/lang/System" "arraycopy" 5 + 11) ≤ R.locals)
    (k : ∀ T' h', own_S p l e R s m args below meth c n0 T' h' cells slots → Keep h h' [b] → Arv Z h' b kb ty z' us dd → own_Go p e below En T' (mkF m (pc + 3) ls st)) : own_Go p e below En T (mkF m pc ls (.int nn :: .int dp :: .ref b :: .int sp :: .ref a :: st)) := by
  obtain ⟨locs, kk, nn', X, eT, N, q1, q2⟩ := S
  obtain ⟨T', h', L, X', e', N', K, B', stp⟩ := cpA X C.1 C.2.2.2.2.2.2.2 C.2.2.2.1 w1 w2 w3 w4 eT A B (Or.inl ⟨rfl, hty⟩) h1 h2 h3 h4 h5 rfl hl N ge (g := mkF m pc ls (.int nn :: .int dp :: .ref b :: .int sp :: .ref a :: st)) rfl (own_hsz C hsz) rfl (own_hd C hd) hf (W := W) (by show 2 * 0 + _ ≤ W; omega) hlo
  rw [hus] at B'
  exact own_step stp (k T' h' ⟨_, _, _, X', e', N', q1, q2⟩ K B')
/-- ireturn of a byte -/
theorem own_retB (C : own_Cx p s m meth c Z own cd maxL (some .byte) nm) (S : own_S p l e R s m args below meth c n0 T h cells slots) {z : Int32} (hd : decode cd pc = .ok (.ireturn, 1)) (hz : z.toInt8.toInt32 = z) (hc : cells ≤ kc) (hs : slots ≤ ks) (hF : F (some (.int z)) h) : own_Go p e below (own_En s n0 F kc ks) T (mkF m pc ls (.int z :: st)) :=
  own_ret C S hd (by show Value.int (z.toInt8.toInt32) = _; rw [hz]) (Or.inl ⟨rfl, by simp, z, rfl⟩) hc hs hF
/-- newarray, with the array's class by name -/
theorem own_newPE (C : own_Cx p s m meth c Z own cd maxL ret nm) (S : own_S p l e R s m args below meth c n0 T h cells slots) {aty : ArrayType} {ad : String} (had : "[" ++ (newarray.typeOf aty).toString = ad) (w : (Jvm.Cond.arrayClass (newarray.typeOf aty)).before a0 Z = true) (hd : decode cd pc = .ok (.newarray aty, 2)) {n : Int32} (hn : ¬ n < 0) (cap : Nat) (hcap : n.toNatClampNeg ≤ cap) (hb : cap * 8 ≤ 536870912) (hc : cells + 1 ≤ R.cells) (hl : slots + cap ≤ R.slots)
    (k : ∀ T' h' a cA, own_S p l e R s m args below meth c n0 T' h' (cells + 1) (slots + cap) → a = h.size → Ext h h' → Arv Z h' a cA (newarray.typeOf aty) n [] (defaultValue (newarray.typeOf aty)) → Exa Z h' a ad → own_Go p e below En T' (mkF m (pc + 2) ls (.ref a :: st))) : own_Go p e below En T (mkF m pc ls (.int n :: st)) := by
  obtain ⟨locs, kk, nn, X, eT, N, q1, q2⟩ := S
  obtain ⟨T', h', cA, X', e', E, A, B, stp⟩ := newPE X C.1 C.2.2.2.2.2.2.2 w eT (g := mkF m pc ls (.int n :: st)) rfl (own_hd C hd) rfl hn hcap hb (by omega) (by omega) had
  exact own_step stp (k T' h' _ cA ⟨_, _, _, X', e', N, by omega, by omega⟩ rfl E (Arv.new A hn) B)
/-- clone() of an array -/
theorem own_clone (C : own_Cx p s m meth c Z own cd maxL ret nm) (S : own_S p l e R s m args below meth c n0 T h cells slots) {index : Nat} {ad : String} (w1 : (Jvm.Cond.methodLink own index ⟨ad, "clone", "()Ljava/lang/Object;"⟩).before a0 Z = true) (w2 : (Jvm.Cond.sameMethod ad "java/lang/Object" "clone" "()Ljava/lang/Object;").before a0 Z = true) (w3 : (Jvm.Cond.native ⟨"java/lang/Object", "clone", "()Ljava/lang/Object;"⟩).before a0 Z = true)
    (w4 : (Jvm.Cond.instanceMethod ⟨"java/lang/Object", "clone", "()Ljava/lang/Object;"⟩).before a0 Z = true) (w5 : (Jvm.Cond.selects ad ⟨ad, "clone", "()Ljava/lang/Object;"⟩ ⟨"java/lang/Object", "clone", "()Ljava/lang/Object;"⟩).before a0 Z = true) (w6 : (Jvm.Cond.castable ad "java/lang/Cloneable").before a0 Z = true)
    {a : Addr} {ka : ClassId} {ty : FieldType} {z : Int32} {vs : List Value} {dv : Value} (A : Arv Z h a ka ty z vs dv) (E : Exa Z h a ad) (hsz : ls.size = maxL) (hd : decode cd pc = .ok (.invokevirtual index, 3)) (hf : 1 ≤ R.frames) (W cap : Nat) (hW : (st.map fun v => v.category).sum ≤ W) (hl : W + 14 ≤ R.locals) (hcap : z.toNatClampNeg ≤ cap) (hc : cells + 1 ≤ R.cells) (hsl : slots + cap ≤ R.slots)
    (k : ∀ T' h' b, own_S p l e R s m args below meth c n0 T' h' (cells + 1) (slots + cap) → b = h.size → Ext h h' → Arv Z h' b ka ty z vs dv → Exa Z h' b ad → own_Go p e below En T' (mkF m (pc + 3) ls (.ref b :: st))) : own_Go p e below En T (mkF m pc ls (.ref a :: st)) := by
  obtain ⟨locs, kk, nn, X, eT, N, q1, q2⟩ := S
  obtain ⟨T', h', X', e', Ex, A', E', stp⟩ := cloneH X C.1 C.2.2.2.2.2.2.2 C.2.2.2.1 w1 w2 w3 w4 w5 w6 eT A.arh E (g := mkF m pc ls (.ref a :: st)) rfl (own_hsz C hsz) rfl (own_hd C hd) hf (W := W) (cap := cap) (by show 2 * 0 + _ ≤ W; omega) hl hcap (by omega) (by omega)
  exact own_step stp (k T' h' _ ⟨_, _, _, X', e', N, by omega, by omega⟩ rfl Ex A' E')
end OwnKit

section OwnKitW
open Jvm.Free.SB Jvm.Free.SBG
variable {p : Program} {l : Launch} {e : Env} {R : Room} {s : State} {m : MethodId} {args : Array Value} {below : List Frame} {meth : Method} {c : Code} {T : State} {locs : List Loc} {cells slots : Nat} {Z : State} {a0 : Array Value} {h : Heap} {own : String} {cd : ByteArray} {maxL : Nat} {ret : Option FieldType} {nm : String} {n0 : Nat} {F : Option Value → Heap → Prop} {kc ks : Nat} {En : Outcome → State → Prop} {pc : Nat} {ls : Array Slot} {st : List Value} {EL : List (String × Nat)} {G : List Addr}
def own_EnW (s : State) (n0 : Nat) (Z : State) (EL : List (String × Nat)) (F : Option Value → Heap → Prop) (kc ks : Nat) (o : Outcome) (s₂ : State) : Prop :=
  ∃ v L, o = .returned v ∧ (F v s₂.heap ∧ Fr n0 L) ∧ CHr Z EL s.vm s.heap s₂.vm s₂.heap ∧ ReturnedEndW s o s₂ L kc ks
def own_CxW (p : Program) (meth : Method) (c : Code) (Z : State) (a0 : Array Value) (EL : List (String × Nat)) (cd : ByteArray) (maxL : Nat) (ret : Option FieldType) (nm : String) : Prop :=
  p.tables.exec = Jvm.exec ∧ c.code = cd ∧ c.maxLocals = maxL ∧ meth.name = nm ∧ meth.sig.returnType = ret ∧ meth.locks = false ∧ EW Z a0 EL ∧ ∀ a ∈ Bundle.stringAtoms, a.before a0 Z = true
def own_SW (p : Program) (l : Launch) (e : Env) (R : Room) (s : State) (m : MethodId) (args : Array Value) (below : List Frame) (meth : Method) (c : Code) (n0 : Nat) (Z : State) (EL : List (String × Nat)) (own : String) (T : State) (h : Heap) (G : List Addr) (cells slots : Nat) : Prop :=
  ∃ vm0 k0, own_S p l e R (s.setVm vm0) m args below meth c n0 T h cells slots ∧ s.Since vm0 k0 ∧ k0 ≤ h.size ∧ Z.Warmed39 vm0 ∧ vm0.findClass own = some m.cls ∧ CHr Z EL s.vm s.heap vm0 h ∧ ∀ x ∈ G, x < h.size ∧ Safe Z EL vm0 h x
/-- between two loads the walk is a narrow one, over the start with the tables at hand; 'rb' leads back -/
theorem own_lift (C : own_CxW p meth c Z a0 EL cd maxL ret nm) (S : own_SW p l e R s m args below meth c n0 Z EL own T h G cells slots) {g : JFrame}
    (k : ∀ vm0, own_Cx p (s.setVm vm0) m meth c Z own cd maxL ret nm → own_S p l e R (s.setVm vm0) m args below meth c n0 T h cells slots →
      (∀ T' h' c' s' ws N, own_S p l e R (s.setVm vm0) m args below meth c n0 T' h' c' s' → Keep h h' ws → (∀ x ∈ ws, x ∈ G) → (∀ x ∈ N, h.size ≤ x ∧ x < h'.size) → own_SW p l e R s m args below meth c n0 Z EL own T' h' (N ++ G) c' s') → own_Go p e below En T g) : own_Go p e below En T g := by
  obtain ⟨vm0, k0, S0, hS, hk, hZ, ho, hC, hG⟩ := S
  refine k vm0 ⟨C.1, C.2.1, C.2.2.1, ho, C.2.2.2.1, C.2.2.2.2.1, C.2.2.2.2.2.1, hZ⟩ S0 fun T' h' c' s' ws N S' K hws hN => ?_
  have hs : ∀ x ∈ ws, Safe Z EL vm0 h x := fun x hx => (hG x (hws x hx)).2
  refine ⟨vm0, k0, S', hS, Nat.le_trans hk K.1, hZ, ho, hC.trans (CHr.keep K hs hC.1), fun x hx => ?_⟩
  rcases List.mem_append.mp hx with hx | hx
  · exact ⟨(hN x hx).2, Safe.keep K hs hC.1 (Safe.new (hN x hx).1)⟩
  · exact ⟨Nat.lt_of_lt_of_le (hG x hx).1 K.1, Safe.keep K hs hC.1 (hG x hx).2⟩
/-- the array of a String constant is a byte[] -/
theorem own_litB {vm : Vm} {own : String} {index : Nat} {u : Array UInt16} {a b : Addr} {kb : ClassId} {z : Int32} {vs : List Value} {dv : Value} (hal : Z.vm.Alike vm) (H : CHv Z EL vm h) (hmem : (own, index) ∈ EL) (hB : Booksv vm own index u a) (V : Fld Z h a "java/lang/String" "value" "[B" (.ref b)) (A : Arv Z h b kb .byte z vs dv) : Exa Z h b "[B" := by
  obtain ⟨q, rfl, F⟩ := SlB.of (H _ hmem u a hB)
  have hd := F.hd
  have ha := F.ha
  obtain ⟨cS, ⟨⟨-, -, -, ⟨c1, k1, i1, f1, -⟩, -, -, -, v1, -⟩, -⟩, -, hb, -⟩ := F
  obtain ⟨cell, cf, k, i, f, e1, e2, -, -, -, -, e3⟩ := V
  have ec : cell = q.sC := Option.some.inj (e1.symm.trans ha)
  obtain ⟨k', z4⟩ := ff_back (U := Wst Z vm h) hal f1
  have e4 := e2.symm.trans z4
  simp only [Option.some.injEq, Prod.mk.injEq] at e4
  rw [ec, e4.2.2.2, v1] at e3
  have eb : q.sd = b := by simpa using e3
  subst eb
  obtain ⟨cl, A0, -⟩ := A
  have ecl : cl = q.SA := Option.some.inj (A0.1.symm.trans hd)
  have hst := A0.plain
  obtain ⟨-, k9, hk9, comp, hkind⟩ := A0.2.1
  refine ⟨cl, k9, A0.1, ?_, hk9, hst, fun q => by rw [hkind] at q; cases q⟩
  rw [ecl, ← hal.findClass]; exact hb
theorem own_books {vm : Vm} {own text : String} {index : Nat} {a : Addr} {mc : ClassId} (hW : Z.Warmed39 vm) (ho : vm.findClass own = some mc) (w : (Jvm.Cond.stringLink own index text).before a0 Z = true) (L : Lit (s.setVm vm) own index a) : ∃ u, Booksv vm own index u a := by
  obtain ⟨k0, cf, i, u, h1, h2, h3, h4, -⟩ := Cond.stringLink_spec (args := a0) (s := Wst Z vm Z.heap) ho (mvS (s := Wst Z vm Z.heap) (args := a0) hW w)
  have h1' : vm.classes[mc]? = some k0 := h1
  have q : (s.setVm vm).resolvedAt? own index = some (.string a) := L
  simp only [State.resolvedAt?, Option.bind_eq_bind] at q
  rw [show (s.setVm vm).vm.findClass own = some mc from ho] at q
  simp only [Option.bind_some] at q
  rw [show (s.setVm vm).vm.classes[mc]? = some k0 from h1'] at q
  simp only [Option.bind_some] at q
  refine ⟨u, mc, k0, cf, i, ho, h1', h2, h3, h4, Or.inl ?_⟩
  cases hr : k0.resolved[index]? with
  | none => rw [hr] at q; cases q
  | some o => rw [hr] at q; cases o with
    | none => cases q
    | some r => simpa using q
theorem own_ldcWE (C : own_CxW p meth c Z a0 EL cd maxL ret nm) (S : own_SW p l e R s m args below meth c n0 Z EL own T h G cells slots) {index : Nat} {text : String} (w : (Jvm.Cond.stringLink own index text).before a0 Z = true) (hmem : (own, index) ∈ EL) {vs : List Value} {z : Int32} (ht : (∀ c ∈ text.toList, c.toNat < 256) ∧ text.toList.map (fun c => Value.int (Jvm.Lit.byteI c.toNat.toUInt16)) = vs) (hz : ¬ z < 0) (hl : z.toNatClampNeg = vs.length)
    (hd : decode cd pc = .ok (.ldc index, 2)) (n : Nat) (hn : 4 * text.toList.length ≤ n) (hbig : n ≤ 536870912) (hc : cells + 2 ≤ R.cells) (hl' : slots + (n + 4) ≤ R.slots)
    (k : ∀ T' h' a b kb, own_SW p l e R s m args below meth c n0 Z EL own T' h' G (cells + 2) (slots + (n + 4)) → Ext h h' → Exa Z h' a "java/lang/String" → Fld Z h' a "java/lang/String" "coder" "B" (.int 0) → Fld Z h' a "java/lang/String" "value" "[B" (.ref b) → Arv Z h' b kb .byte z vs (.int 0) → (∀ x ∈ G, x ≠ a ∧ x ≠ b) → Exa Z h' b "[B" → own_Go p e below En T' (mkF m (pc + 2) ls (.ref a :: st))) : own_Go p e below En T (mkF m pc ls st) := by
  obtain ⟨vm0, k0, ⟨locs, kk, nn, X, eT, N, q1, q2⟩, hS, hk, hZ, ho, hC, hG⟩ := S
  obtain ⟨a, T', h', k1, b, kb, X', e', E, hS', hk', hZ', ho', x1, x2, x3, x4, x5, x6, hC', hL, hne, stp⟩ := ldcCH X C.1 hZ ho w C.2.2.2.2.2.2.2 eT hS hk C.2.2.2.2.2.2.1 hmem hC.1 ht hz hl (g := mkF m pc ls st) rfl (by rw [C.2.1]; exact hd) hn hbig (by omega) (by omega)
  have hG' : ∀ x ∈ G, x < h'.size ∧ Safe Z EL T'.vm h' x := fun x hx => ⟨Nat.lt_of_lt_of_le (hG x hx).1 E.1, hC'.safe (hG x hx).1 (hG x hx).2⟩
  exact own_step stp (k T' h' a b kb ⟨T'.vm, k1, ⟨locs, _, _, X', e', N, by omega, by omega⟩, hS', hk', hZ', ho', hC.trans hC', hG'⟩ E x1 x2 x3 x4 (fun x hx => hne x (hG' x hx).2) (by obtain ⟨u, hB⟩ := own_books (s := s) hZ' ho' w hL; exact own_litB hZ'.alike hC'.1 hmem hB x3 x4))
theorem own_endW (C : own_CxW p meth c Z a0 EL cd maxL ret nm) (S : own_SW p l e R s m args below meth c n0 Z EL own T h G cells slots) {v : Option Value} (hv : meth.sig.returnType = none → v = none) {g : JFrame}
    (hst : ∀ locs kk nn vm0 fs, Stand p l e R (s.setVm vm0) m args below meth c T locs kk nn → (∀ (f : JFrame) (acts : List Action), f.method = m → f.locked = none → f.entered = [] → (doReturn e (T.setTop f) acts v).1 = T.setFrames fs) → Steps p.tables e below (T.setTop g) (T.setFrames fs)) (hc : cells ≤ kc) (hs : slots ≤ ks) (hF : F v h) : own_Go p e below (own_EnW s n0 Z EL F kc ks) T g := by
  obtain ⟨vm0, k0, ⟨locs, kk, nn, X, eT, N, q1, q2⟩, hS, hk, hZ, ho, hC, hG⟩ := S
  obtain ⟨fs, hr, hrun, hended, hret⟩ := X.leaveW hS (by rw [eT]; exact hk) hv C.2.2.2.2.2.1
  refine ⟨_, _, hst locs kk nn vm0 fs X hr, hrun, hended, v, locs, rfl, ⟨?_, N⟩, ?_, ?_⟩
  · show F v T.heap
    rw [eT]; exact hF
  · show CHr Z EL s.vm s.heap T.vm T.heap
    rw [eT]
    exact hC.trans (CHv.at X hZ C.2.2.2.2.2.2.1 hC.1)
  · exact ⟨hret.1, hret.2.1, hret.2.2.1, hret.2.2.2.mono (Nat.le_trans q1 hc) (Nat.le_trans q2 hs)⟩
theorem own_retW {t : FieldType} (C : own_CxW p meth c Z a0 EL cd maxL (some t) nm) (S : own_SW p l e R s m args below meth c n0 Z EL own T h G cells slots) {i : Instr} {w : Value} (hd : decode cd pc = .ok (i, 1)) (hn : narrow t w = w)
    (hi : (i = .ireturn ∧ (t = .int ∨ t = .boolean ∨ t = .byte ∨ t = .char ∨ t = .short) ∧ ∃ z, w = .int z) ∨ (i = .lreturn ∧ t = .long ∧ ∃ z, w = .long z) ∨ (i = .dreturn ∧ t = .double ∧ ∃ z, w = .double z) ∨ (i = .freturn ∧ t = .float ∧ ∃ z, w = .float z) ∨ (i = .areturn ∧ t.isReference = true ∧ w.isRef = true))
    (hc : cells ≤ kc) (hs : slots ≤ ks) (hF : F (some w) h) : own_Go p e below (own_EnW s n0 Z EL F kc ks) T (mkF m pc ls (w :: st)) :=
  own_endW C S (fun q => by rw [C.2.2.2.2.1] at q; cases q) (fun locs kk nn vm0 fs X hr => retOut X C.1 C.2.2.2.2.1 hn hi (by rw [C.2.1]; exact hd) hr) hc hs hF
theorem own_retZW (C : own_CxW p meth c Z a0 EL cd maxL (some .boolean) nm) (S : own_SW p l e R s m args below meth c n0 Z EL own T h G cells slots) {z : Int32} (hd : decode cd pc = .ok (.ireturn, 1)) (hz : z &&& 1 = z) (hc : cells ≤ kc) (hs : slots ≤ ks) (hF : F (some (.int z)) h) : own_Go p e below (own_EnW s n0 Z EL F kc ks) T (mkF m pc ls (.int z :: st)) :=
  own_retW C S hd (by show Value.int (z &&& 1) = _; rw [hz]) (Or.inl ⟨rfl, Or.inr (Or.inl rfl), z, rfl⟩) hc hs hF
theorem own_retAW {t : FieldType} (C : own_CxW p meth c Z a0 EL cd maxL (some t) nm) (S : own_SW p l e R s m args below meth c n0 Z EL own T h G cells slots) {w : Value} (ht : t.isReference = true) (hr : w.isRef = true) (hd : decode cd pc = .ok (.areturn, 1)) (hc : cells ≤ kc) (hs : slots ≤ ks) (hF : F (some w) h) : own_Go p e below (own_EnW s n0 Z EL F kc ks) T (mkF m pc ls (w :: st)) :=
  own_retW C S hd (by cases w <;> simp [Value.isRef] at hr <;> cases t <;> first | rfl | (simp [FieldType.isReference] at ht)) (by simp [ht, hr]) hc hs hF
theorem own_retVW (C : own_CxW p meth c Z a0 EL cd maxL none nm) (S : own_SW p l e R s m args below meth c n0 Z EL own T h G cells slots) (hd : decode cd pc = .ok (.return_, 1)) (hc : cells ≤ kc) (hs : slots ≤ ks) (hF : F none h) : own_Go p e below (own_EnW s n0 Z EL F kc ks) T (mkF m pc ls []) :=
  own_endW C S (fun _ => rfl) (fun locs kk nn vm0 fs X hr => X.returnOut C.1 C.2.2.2.2.1 (by rw [C.2.1]; exact hd) hr) hc hs hF
def own_MetW (l : Launch) (Z : State) (EL : List (String × Nat)) (y : MethodName) (cd : ByteArray) (maxL : Nat) (ret : Option FieldType) (rm : Room) (n0 : Nat) (as' : Array Value) (h0 : Heap) (G0 : List Addr) (Q : Option Value → Heap → Prop) : Prop :=
  ∀ ws, MetFree l y (head1 (Jvm.Cond.code y cd maxL ret :: ws) rm) (fun a U => a = as' ∧ Z.Warmed39 U.vm ∧ U.heap = h0 ∧ CHv Z EL U.vm h0 ∧ ∀ x ∈ G0, x < h0.size ∧ Safe Z EL U.vm h0 x) (fun _ _ _ _ _ => True)
    (fun _ U o U' => ∃ v L, o = .returned v ∧ (Q v U'.heap ∧ Fr n0 L) ∧ CHr Z EL U.vm U.heap U'.vm U'.heap ∧ ReturnedEndW U o U' L rm.cells rm.slots)
theorem own_metW {y : MethodName} {rm : Room} {as' : Array Value} {h0 : Heap} {G0 : List Addr} {Q : Option Value → Heap → Prop} (hEL : EW Z a0 EL) (wS : ∀ a ∈ Bundle.stringAtoms, a.before a0 Z = true) (hp : plainFor y = true) (ls : Array Slot) (hef : ∀ m, entryFrame m as' maxL = mkF m 0 ls [])
    (H : ∀ (p : Program) (e : Env) (s : State) (m : MethodId) (below : List Frame) (meth : Method) (c : Code) (T : State), own_CxW p meth c Z a0 EL cd maxL ret y.name → own_SW p l e rm s m as' below meth c n0 Z EL y.cls T h0 G0 0 0 → own_Go p e below (own_EnW s n0 Z EL Q rm.cells rm.slots) T (mkF m 0 ls [])) : own_MetW l Z EL y cd maxL ret rm n0 as' h0 G0 Q := by
  intro ws
  refine MetFree.of_bodySF hp hisR ?_
  intro p e s m args below meth c s₁ Bd hml hP hK
  obtain ⟨rfl, hZ, hh, hC, hG⟩ := hP
  have e0 : s₁.heap = h0 := by rw [← hh, Bd.state]; rfl
  have G := H p e s m below meth c s₁ ⟨Bd.exec, Bd.bytes, hml, (name_of_methodNamed Bd.named Bd.method).1, Bd.returns, BodyLoose.notSynchronized Bd, hEL, wS⟩
    ⟨s.vm, h0.size, ⟨_, _, _, Stand.of_body Bd, e0, Fr.nil n0, Nat.le_refl _, Nat.le_refl _⟩, (State.WarmedH.refl s).since _, Nat.le_refl _, hZ, findClass_of_methodNamed Bd.named, by rw [hh]; exact CHr.refl hC, hG⟩
  rw [← hef m] at G
  exact G
theorem own_payW {vm0 : Vm} {y : MethodName} {cdy : ByteArray} {maxy : Nat} {rety : Option FieldType} {rm : Room} {as' : Array Value} {G0 : List Addr} {Q : Option Value → Heap → Prop} (M : own_MetW l Z EL y cdy maxy rety rm n0 as' h G0 Q) (hZ : Z.Warmed39 vm0) {len W : Nat} (wc : (Jvm.Cond.code y cdy maxy rety).before a0 Z = true) (wz : (Jvm.Cond.initialized y.cls).before a0 Z = true) (hf : rm.frames + 1 ≤ R.frames) (hl : W + (maxy + 11) + rm.locals ≤ R.locals) (hEL : EW Z a0 EL) (H : CHv Z EL vm0 h) (hG : ∀ x ∈ G0, x < h.size ∧ Safe Z EL vm0 h x) :
    BackS l R p e below (s.setVm vm0) args y len W (fun A a => a = as' ∧ A.U.heap = h ∧ A.cells + rm.cells ≤ R.cells ∧ A.slots + rm.slots ≤ R.slots)
      (fun A _ v B => ∃ L, (Q v B.U.heap ∧ Fr n0 L) ∧ B.locs = A.locs ++ L ∧ B.cells = A.cells + rm.cells ∧ B.slots = A.slots + rm.slots ∧ CHr Z EL vm0 h B.U.vm B.U.heap) :=
  BackS.of_freeW (bytes := cdy) (maxL := maxy) (ret := rety) (E := fun _ first o t L k n => k = rm.cells ∧ n = rm.slots ∧ (∃ v, o = .returned v ∧ (Q v t.heap ∧ Fr n0 L)) ∧ CHr Z EL first.vm first.heap t.vm t.heap) (M []) hf hl
    (fun m meth c A a Y hp => have hU : Z.Warmed39 A.U.vm := wtrans (s := s.setVm vm0) hZ Y.warmed
      ⟨by show (Cond.and _ .tt).before a A.U = true; rw [Cond.before_and, mv hU wc]; rfl, mv hU wc, mv hU wz, hp.2.2.1, hp.2.2.2⟩)
    (fun m meth c A a g mk Y hp => ⟨hp.1, wtrans (s := s.setVm vm0) hZ Y.warmed, hp.2.1, (CHv.at Y hZ hEL H).1, fun x hx => ⟨(hG x hx).1, (CHv.at Y hZ hEL H).safe (hG x hx).1 (hG x hx).2⟩⟩) (fun _ _ _ _ _ _ _ _ _ => trivial)
    (fun _ _ _ _ ⟨v, L, h1, h2, h3, h4⟩ => ⟨L, _, _, h4, rfl, rfl, ⟨v, h1, h2⟩, h3⟩)
    (fun m meth c A a g mk v t L k n Y hp _ _ ⟨e1, e2, ⟨v', e3, e4⟩, e5⟩ => by
      cases e3; subst e1 e2
      refine ⟨L, e4, rfl, rfl, rfl, (CHv.at Y hZ hEL H).trans ?_⟩
      rw [← hp.2.1]; exact e5)
theorem own_backW {T : State} {vm0 : Vm} {k0 : Nat} {B : Pt} {Q : Option Value → Heap → Prop} {v : Option Value} {L : List Loc} {k1 k2 kk nn : Nat} (hS : s.Since vm0 k0) (hk : k0 ≤ h.size) (hZ : Z.Warmed39 vm0) (ho : vm0.findClass own = some m.cls) (hC : CHr Z EL s.vm s.heap vm0 h) (hG : ∀ x ∈ G, x < h.size ∧ Safe Z EL vm0 h x) (N : Fr n0 locs) (q1 : kk ≤ cells) (q2 : nn ≤ slots)
    (X' : Stand p l e R ((s.setVm vm0).setVm B.U.vm) m args below meth c B.U B.locs B.cells B.slots) (h2 : (s.setVm vm0).Since B.U.vm B.U.heap.size) (hg : h.size ≤ B.U.heap.size) (hQ : Q v B.U.heap ∧ Fr n0 L) (l1 : B.locs = locs ++ L) (l2 : B.cells = kk + k1) (l3 : B.slots = nn + k2) (hC' : CHr Z EL vm0 h B.U.vm B.U.heap) :
    own_SW p l e R s m args below meth c n0 Z EL own B.U B.U.heap G (cells + k1) (slots + k2) := by
  obtain ⟨X1, hS1, hZ1, ho1⟩ := rebS hS hk X' h2 hg hZ ho
  exact ⟨B.U.vm, _, ⟨B.locs, B.cells, B.slots, X1, rfl, by rw [l1]; exact Fr.app N hQ.2, by omega, by omega⟩, hS1, Nat.le_refl _, hZ1, ho1, hC.trans hC', fun x hx => ⟨Nat.lt_of_lt_of_le (hG x hx).1 hg, hC'.safe (hG x hx).1 (hG x hx).2⟩⟩
theorem own_callSW (C : own_CxW p meth c Z a0 EL cd maxL ret nm) (S : own_SW p l e R s m args below meth c n0 Z EL own T h G cells slots) {y : MethodName} {index : Nat} {cdy : ByteArray} {maxy : Nat} {rety : Option FieldType} {rm : Room} {as' : Array Value} {G0 : List Addr} {Q : Option Value → Heap → Prop}
    (w1 : (Jvm.Cond.methodLink own index y).before a0 Z = true) (w2 : (Jvm.Cond.static y).before a0 Z = true) (w3 : (Jvm.Cond.initialized y.cls).before a0 Z = true) (w4 : (Jvm.Cond.code y cdy maxy rety).before a0 Z = true) (hy : y.cls ≠ "java/lang/invoke/MethodHandle" ∧ y.cls ≠ "java/lang/invoke/VarHandle")
    (M : own_MetW l Z EL y cdy maxy rety rm n0 as' h G0 Q) (hG0 : ∀ x ∈ G0, x ∈ G) (W : Nat) (hf : rm.frames + 1 ≤ R.frames) (hlo : W + (maxy + 11) + rm.locals ≤ R.locals) (argsL rest : List Value) {ps : List FieldType} {rr : Option FieldType} (has : argsL.toArray = as') (hpd : parseMethodDescriptor y.desc = some ⟨ps, rr⟩) (hlen : argsL.length = ps.length) (hstk : st = argsL.reverse ++ rest) (hsz : ls.size = maxL) (hW : (rest.map fun v => v.category).sum ≤ W)
    (hc : cells + rm.cells ≤ R.cells) (hs : slots + rm.slots ≤ R.slots) (hd : decode cd pc = .ok (.invokestatic index, 3))
    (k : ∀ T' h' v, own_SW p l e R s m args below meth c n0 Z EL own T' h' G (cells + rm.cells) (slots + rm.slots) → h.size ≤ h'.size → Q v h' → own_Go p e below En T' (mkF m (pc + 3) ls (v.toList ++ rest))) : own_Go p e below En T (mkF m pc ls st) := by
  obtain ⟨vm0, k0, ⟨locs, kk, nn, X, eT, N, q1, q2⟩, hS, hk, hZ, ho, hC, hG⟩ := S
  obtain ⟨v, vm1, B, -, X', h2, hg, ⟨L, hQ, l1, l2, l3, hC'⟩, stp⟩ := callSS X C.1 ho (mvT (s := s.setVm vm0) hZ w1) (mvT (s := s.setVm vm0) hZ w2) (mvT (s := s.setVm vm0) hZ w3) (mvT (s := s.setVm vm0) hZ w4) hy (own_payW M hZ w4 w3 hf hlo C.2.2.2.2.2.2.1 hC.1 fun x hx => hG x (hG0 x hx)) (g := mkF m pc ls st) rfl (by rw [C.2.2.1]; exact hsz) (argsL := argsL) (rest := rest) (lenOf hpd hlen) hstk (by show 2 * 0 + _ ≤ W; omega) (by rw [C.2.1]; exact hd) (fun _ _ => ⟨has, eT, by show kk + _ ≤ _; omega, by show nn + _ ≤ _; omega⟩)
  rw [eT] at hg
  exact own_step (fun t k => stp.trans k) (k B.U _ v (own_backW (T := T) hS hk hZ ho hC hG N q1 q2 X' h2 hg hQ l1 l2 l3 hC') hg hQ.1)
theorem own_callIW (C : own_CxW p meth c Z a0 EL cd maxL ret nm) (S : own_SW p l e R s m args below meth c n0 Z EL own T h G cells slots) {y : MethodName} {index : Nat} {cdy : ByteArray} {maxy : Nat} {rm : Room} {as' : Array Value} {G0 : List Addr} {Q : Option Value → Heap → Prop}
    (hy1 : y.name = "<init>") (w1 : (Jvm.Cond.methodLink own index y).before a0 Z = true) (w2 : (Jvm.Cond.instanceMethod y).before a0 Z = true) (w3 : (Jvm.Cond.initialized y.cls).before a0 Z = true) (w4 : (Jvm.Cond.code y cdy maxy none).before a0 Z = true) (hy : y.cls ≠ "java/lang/invoke/MethodHandle" ∧ y.cls ≠ "java/lang/invoke/VarHandle")
    (M : own_MetW l Z EL y cdy maxy none rm n0 as' h G0 Q) (hG0 : ∀ x ∈ G0, x ∈ G) (W : Nat) (hf : rm.frames + 1 ≤ R.frames) (hlo : W + (maxy + 11) + rm.locals ≤ R.locals) {a : Addr} (argsL rest : List Value) {ps : List FieldType} {rr : Option FieldType} (has : (.ref a :: argsL).toArray = as') (hpd : parseMethodDescriptor y.desc = some ⟨ps, rr⟩) (hlen : argsL.length = ps.length) (hstk : st = argsL.reverse ++ .ref a :: rest) (hsz : ls.size = maxL) (hW : (rest.map fun v => v.category).sum ≤ W)
    (hc : cells + rm.cells ≤ R.cells) (hs : slots + rm.slots ≤ R.slots) (hd : decode cd pc = .ok (.invokespecial index, 3))
    (k : ∀ T' h' v, own_SW p l e R s m args below meth c n0 Z EL own T' h' G (cells + rm.cells) (slots + rm.slots) → h.size ≤ h'.size → Q v h' → own_Go p e below En T' (mkF m (pc + 3) ls (v.toList ++ rest))) : own_Go p e below En T (mkF m pc ls st) := by
  obtain ⟨vm0, k0, ⟨locs, kk, nn, X, eT, N, q1, q2⟩, hS, hk, hZ, ho, hC, hG⟩ := S
  obtain ⟨v, vm1, B, -, X', h2, hg, ⟨L, hQ, l1, l2, l3, hC'⟩, stp⟩ := X.specialBackS C.1 hy1 ho (mvT (s := s.setVm vm0) hZ w1) (mvT (s := s.setVm vm0) hZ w2) (mvT (s := s.setVm vm0) hZ w4) hy (own_payW M hZ w4 w3 hf hlo C.2.2.2.2.2.2.1 hC.1 fun x hx => hG x (hG0 x hx)) (g := mkF m pc ls st) rfl (by rw [C.2.2.1]; exact hsz) (Steps.refl _) (a := a) (argsL := argsL) (rest := rest) (lenOf hpd hlen) hstk (by show 2 * 0 + _ ≤ W; omega) (by rw [C.2.1]; exact hd) (fun _ _ => ⟨has, eT, by show kk + _ ≤ _; omega, by show nn + _ ≤ _; omega⟩)
  rw [eT] at hg
  exact own_step (fun t k => stp.trans k) (k B.U _ v (own_backW (T := T) hS hk hZ ho hC hG N q1 q2 X' h2 hg hQ l1 l2 l3 hC') hg hQ.1)
end OwnKitW

theorem own_i2b2 (x : Int32) : nar .byte x.toInt8.toInt32 = x.toInt8.toInt32 := by
  have h := Jvm.Free.XT.narrow_b x
  exact Value.int.inj h
theorem own_and255 (x : Int32) : ¬ (x &&& (255 : Int32)) < 0 ∧ ¬ (255 : Int32) < (x &&& (255 : Int32)) := by
  have h := c_and x (255 : Int32) (by decide)
  rw [Int32.lt_iff_toInt_lt, Int32.lt_iff_toInt_lt]
  have e1 : (255 : Int32).toInt = 255 := rfl
  have e2 : (0 : Int32).toInt = 0 := rfl
  omega
theorem own_shl0 (x : Int32) : x <<< ((0 : Int32) &&& 31) = x := by
  rw [show ((0 : Int32) &&& 31) = 0 from by decide]; exact Int32.shiftLeft_zero
theorem own_shr0 (x : Int32) : x >>> ((0 : Int32) &&& 31) = x := by
  rw [show ((0 : Int32) &&& 31) = 0 from by decide]; exact Int32.shiftRight_zero
theorem own_take0 (k : Nat) (d : Value) (M : List Value) : (List.replicate k d).take (0 : Int32).toNatClampNeg ++ M ++ (List.replicate k d).drop ((0 : Int32).toNatClampNeg + k) = M := by
  have e : (0 : Int32).toNatClampNeg = 0 := rfl
  rw [e]; simp
theorem own_min_g {x y : Int32} (h : ¬ x < y) : (if y < x then y else x) = y := by
  by_cases g : y < x
  · rw [if_pos g]
  · rw [if_neg g]
    exact Int32.toInt_inj.mp (by rw [Int32.lt_iff_toInt_lt] at h g; omega)
theorem own_nat_le {n N : Int32} (h0 : ¬ n < 0) (h : ¬ N < n) : 0 + n.toNatClampNeg ≤ N.toNatClampNeg := by
  rw [Int32.lt_iff_toInt_lt] at h h0
  have e0 : (0 : Int32).toInt = 0 := rfl
  simp only [Int32.toNatClampNeg]
  omega
theorem own_ofNat_nn {i : Nat} (h : i ≤ 4000) : ¬ Int32.ofNat i < 0 ∧ (Int32.ofNat i).toNatClampNeg = i := by
  have e : (Int32.ofNat i).toInt = i := Int32.toInt_ofNat_of_lt (by omega)
  refine ⟨?_, ?_⟩
  · rw [Int32.lt_iff_toInt_lt, e]
    have e0 : (0 : Int32).toInt = 0 := rfl
    omega
  · simp only [Int32.toNatClampNeg, e]; omega
theorem own_ofNat_lt {i n : Nat} (h : i ≤ 4000) (hn : n ≤ 4000) : Int32.ofNat i < Int32.ofNat n ↔ i < n := by
  have e : (Int32.ofNat i).toInt = i := Int32.toInt_ofNat_of_lt (by omega)
  have e2 : (Int32.ofNat n).toInt = n := Int32.toInt_ofNat_of_lt (by omega)
  rw [Int32.lt_iff_toInt_lt, e, e2]; omega
theorem own_ofNat_succ (i : Nat) : Int32.ofNat i + 1 = Int32.ofNat (i + 1) := by
  rw [Int32.ofNat_add]; rfl
theorem own_getD {cs : List Int32} {i : Nat} (h : i ≤ 4000) (hi : i < cs.length) : (cs.map fun c => Value.int (StrChars.lo8 c)).getD (Int32.ofNat i).toNatClampNeg (.int 0) = .int ((cs.getD i 0).toInt8.toInt32) := by
  rw [(own_ofNat_nn h).2]
  simp [List.getD, List.getElem?_map, List.getElem?_eq_getElem hi, StrChars.lo8]
theorem own_getD_mem {cs : List Int32} {i : Nat} (hi : i < cs.length) : cs.getD i 0 ∈ cs := by
  simp [List.getD, List.getElem?_eq_getElem hi]
def own_Ch (r : Int32) : Prop := (¬ r < 0 ∧ ¬ (255 : Int32) < r) ∧ nar .char r = r ∧ r.toUInt32.toUInt16.toUInt32.toInt32 = r
theorem own_Ch.of (x : Int32) : own_Ch (x &&& (255 : Int32)) := ⟨own_and255 x, i2c_mask x, i2c_mask x⟩
def own_sv (cs : List Int32) : List Value := cs.map fun c => Value.int (StrChars.lo8 c)
def own_bv (cs : List Int32) : List Value := own_sv cs ++ List.replicate (16 - cs.length) (.int 0)
theorem own_codG {cs : List Int32} (h : ∀ c ∈ cs, ¬ c < 0 ∧ ¬ (255 : Int32) < c) : StrChars.Road.CodA cs 0 (Int32.ofNat cs.length) (own_sv cs) := Or.inl ⟨rfl, rfl, rfl, fun c hc => (h c hc).2⟩
theorem own_sv_len (cs : List Int32) : (own_sv cs).length = cs.length := by simp [own_sv]
theorem own_bv_len {cs : List Int32} (h : cs.length ≤ 16) : (own_bv cs).length = 16 := by simp [own_bv, own_sv_len]; omega
theorem own_oN {n : Nat} (h : n ≤ 4000) : (Int32.ofNat n).toInt = n ∧ (Int32.ofNat n).toNatClampNeg = n := by
  have e : (Int32.ofNat n).toInt = n := Int32.toInt_ofNat_of_lt (by omega)
  exact ⟨e, (own_ofNat_nn h).2⟩
theorem own_cntA {a b : List Int32} : Int32.ofNat a.length + Int32.ofNat b.length = Int32.ofNat (a ++ b).length := by
  rw [List.length_append, Int32.ofNat_add]
theorem own_range {vs : List Value} {d : Value} {n : Nat} (h : vs.length = n) : ((List.range n).map fun i => vs.getD (0 + i) d) = vs := by
  apply List.ext_getElem
  · simp [h]
  · intro i h1 h2
    simp [List.getD, List.getElem?_eq_getElem h2]
theorem own_apH {b x : List Int32} (h : b.length + x.length ≤ 16) : ¬ (0 : Int32) < ((Int32.ofNat b.length + Int32.ofNat x.length) - (16 : Int32)) := by
  rw [own_cntA, Int32.lt_iff_toInt_lt, Int32.toInt_sub, (own_oN (n := (b ++ x).length) (by rw [List.length_append]; omega)).1]
  have e0 : (0 : Int32).toInt = 0 := rfl
  have e1 : (16 : Int32).toInt = 16 := rfl
  rw [e0, e1, List.length_append]
  have := Int.bmod_emod (x := ((b.length + x.length : Nat) : Int) - 16) (m := 2 ^ 32)
  have h3 : (((b.length + x.length : Nat) : Int) - 16).bmod (2 ^ 32) = ((b.length + x.length : Nat) : Int) - 16 := by
    rw [Int.bmod_def]; split <;> omega
  omega
theorem own_ap5 {b x : List Int32} (h : b.length + x.length ≤ 16) : (Int32.ofNat b.length).toNatClampNeg + (Int32.ofNat x.length).toNatClampNeg ≤ (16 : Int32).toNatClampNeg := by
  rw [(own_oN (n := b.length) (by omega)).2, (own_oN (n := x.length) (by omega)).2]; exact h
theorem own_apL {b x : List Int32} (h : b.length + x.length ≤ 16) : (Int32.ofNat b.length).toNatClampNeg + (Int32.ofNat x.length).toNatClampNeg ≤ (own_bv b).length := by
  rw [own_bv_len (by omega)]; exact own_ap5 h
theorem own_apU {b x : List Int32} (h : b.length + x.length ≤ 16) : (own_bv b).take (Int32.ofNat b.length).toNatClampNeg ++ ((List.range (Int32.ofNat x.length).toNatClampNeg).map fun i => (own_sv x).getD ((0 : Int32).toNatClampNeg + i) (.int 0)) ++ (own_bv b).drop ((Int32.ofNat b.length).toNatClampNeg + (Int32.ofNat x.length).toNatClampNeg) = own_bv (b ++ x) := by
  rw [(own_oN (n := b.length) (by omega)).2, (own_oN (n := x.length) (by omega)).2]
  have e0 : (0 : Int32).toNatClampNeg = 0 := rfl
  rw [e0, own_range (own_sv_len x)]
  have e1 : (own_bv b).take b.length = own_sv b := by
    unfold own_bv; rw [List.take_append_of_le_length (by rw [own_sv_len]; exact Nat.le_refl _)]
    exact List.take_of_length_le (by rw [own_sv_len]; exact Nat.le_refl _)
  have e2 : (own_bv b).drop (b.length + x.length) = List.replicate (16 - (b ++ x).length) (.int 0) := by
    unfold own_bv
    rw [List.drop_append, List.drop_of_length_le (by rw [own_sv_len]; omega), own_sv_len, List.drop_replicate, List.length_append, List.nil_append]
    congr 1; omega
  rw [e1, e2]
  show own_sv b ++ own_sv x ++ _ = own_sv (b ++ x) ++ _
  congr 1
  simp [own_sv]
theorem own_tsH {b : List Int32} (h : b.length < 16) : ¬ Int32.ofNat b.length < (0 : Int32) ∧ ¬ (16 : Int32) < Int32.ofNat b.length ∧ ¬ Int32.ofNat b.length = (16 : Int32) ∧ (Int32.ofNat b.length).toNatClampNeg ≤ 64 := by
  have e := own_oN (n := b.length) (by omega)
  have e0 : (0 : Int32).toInt = 0 := rfl
  have e1 : (16 : Int32).toInt = 16 := rfl
  refine ⟨?_, ?_, ?_, by omega⟩
  · rw [Int32.lt_iff_toInt_lt]; omega
  · rw [Int32.lt_iff_toInt_lt]; omega
  · intro q; rw [q] at e; omega
theorem own_tsU {b : List Int32} (h : b.length < 16) : ((List.range (Int32.ofNat b.length).toNatClampNeg).map fun i => (own_bv b).getD ((0 : Int32).toNatClampNeg + i) (.int 0)) = own_sv b := by
  rw [(own_oN (n := b.length) (by omega)).2]
  have e0 : (0 : Int32).toNatClampNeg = 0 := rfl
  rw [e0]
  have e1 : ∀ i, i < b.length → (own_bv b).getD (0 + i) (.int 0) = (own_sv b).getD (0 + i) (.int 0) := by
    intro i hi
    unfold own_bv
    simp only [List.getD]
    rw [List.getElem?_append_left (by rw [own_sv_len]; omega)]
  rw [List.map_congr_left (fun i hi => e1 i (List.mem_range.mp hi))]
  exact own_range (own_sv_len b)
theorem own_and_id {c : Int32} (h1 : 0 ≤ c.toInt) (h2 : c.toInt ≤ 255) : c &&& 255 = c := by
  have e : c = Int32.ofNat c.toInt.toNat := by
    apply Int32.toInt_inj.mp
    rw [Int32.toInt_ofNat_of_lt (by omega)]; omega
  have h3 : c.toInt.toNat < 256 := by omega
  generalize c.toInt.toNat = n at e h3
  subst e
  revert n; decide +kernel
theorem own_c16 {c : Int32} (h : ¬ c < 0 ∧ ¬ (255 : Int32) < c) : c.toUInt32.toUInt16.toUInt32.toInt32 = c := by
  obtain ⟨h1, h2⟩ := h
  rw [Int32.lt_iff_toInt_lt] at h1 h2
  have e0 : (0 : Int32).toInt = 0 := rfl
  have e1 : (255 : Int32).toInt = 255 := rfl
  have e2 : c &&& 255 = c := own_and_id (by omega) (by omega)
  have := i2c_mask c
  rw [e2] at this
  exact this
theorem own_andm (y : Int32) : (y &&& 255).toInt = y.toInt % 256 := by
  have e1 : (y &&& 255).toBitVec.toNat = y.toBitVec.toNat % 256 := by
    show (y.toBitVec &&& (255#32)).toNat = _
    rw [BitVec.toNat_and]; exact Nat.and_two_pow_sub_one_eq_mod _ 8
  have e2 : (y &&& 255).toInt = ((y &&& 255).toBitVec.toNat : Int) := BitVec.toInt_eq_toNat_of_lt (by omega)
  have e3 : y.toInt = y.toBitVec.toInt := rfl
  rw [e2, e1, e3, BitVec.toInt_eq_toNat_cond]; split <;> omega
theorem own_b255 (x : Int32) : (x.toInt8.toInt32 &&& 255).toInt = x.toInt % 256 := by
  rw [own_andm]
  have e3 : x.toInt8.toInt32.toInt = x.toInt.bmod (2 ^ 8) := by simp
  rw [e3]
  have := Int.bmod_emod (x := x.toInt) (m := 2 ^ 8)
  omega
theorem own_c65 {x : Int32} (h1 : 0 ≤ x.toInt) (h2 : x.toInt ≤ 65535) : x.toUInt32.toUInt16.toUInt32.toInt32 = x := by
  apply Int32.toInt_inj.mp
  have e1 : x.toUInt32.toUInt16.toUInt32.toInt32.toBitVec.toNat = x.toBitVec.toNat % 65536 := by
    show ((x.toBitVec.setWidth 16).setWidth 32).toNat = _
    simp only [BitVec.toNat_setWidth]; omega
  have e3 : x.toInt = x.toBitVec.toInt := rfl
  rw [e3, BitVec.toInt_eq_toNat_cond] at h1 h2
  have e4 : x.toUInt32.toUInt16.toUInt32.toInt32.toInt = x.toUInt32.toUInt16.toUInt32.toInt32.toBitVec.toInt := rfl
  have hb := x.toBitVec.isLt
  rw [e4, e3, BitVec.toInt_eq_toNat_cond, BitVec.toInt_eq_toNat_cond, e1]
  split at h1 <;> split <;> omega
abbrev own_EL : List (String × Nat) := consts_1
theorem own_iv {x a b : Int32} (h : ¬ x < a ∧ ¬ b < x) : a.toInt ≤ x.toInt ∧ x.toInt ≤ b.toInt := by
  rw [Int32.lt_iff_toInt_lt, Int32.lt_iff_toInt_lt] at h; omega
theorem own_small {x : Int32} {n : Nat} (h : ¬ x < 0) (h2 : x.toInt < n) (hn : n ≤ 65536) : ∃ k, k < n ∧ x = Int32.ofNat k := by
  rw [Int32.lt_iff_toInt_lt] at h
  have e0 : (0 : Int32).toInt = 0 := rfl
  refine ⟨x.toInt.toNat, by omega, ?_⟩
  apply Int32.toInt_inj.mp
  rw [Int32.toInt_ofNat_of_lt (by omega)]; omega
theorem own_by {x : Int32} (h : ¬ x < 0 ∧ ¬ (255 : Int32) < x) : (x.toInt8.toInt32 &&& 255).toUInt32.toUInt16.toUInt32.toInt32 = x := by
  have h2 := own_iv h
  have e0 : (0 : Int32).toInt = 0 := rfl
  have e1 : (255 : Int32).toInt = 255 := rfl
  have e : x.toInt8.toInt32 &&& 255 = x := Int32.toInt_inj.mp (by rw [own_b255]; omega)
  rw [e]; exact own_c65 (by omega) (by omega)
theorem own_k8 {x : Int32} (h : ¬ x < 0 ∧ ¬ (255 : Int32) < x) : x.toInt8.toInt32 &&& 255 = x := by
  have h2 := own_iv h
  have e0 : (0 : Int32).toInt = 0 := rfl
  have e1 : (255 : Int32).toInt = 255 := rfl
  exact Int32.toInt_inj.mp (by rw [own_b255]; omega)
theorem own_k63 (x : Int32) : x.toInt8.toInt32 &&& 63 = x &&& 63 := by
  have e : ∀ y : Int32, (y &&& 63).toInt = y.toInt % 64 := by
    intro y
    have e1 : (y &&& 63).toBitVec.toNat = y.toBitVec.toNat % 64 := by
      show (y.toBitVec &&& (63#32)).toNat = _
      rw [BitVec.toNat_and]; exact Nat.and_two_pow_sub_one_eq_mod _ 6
    have e2 : (y &&& 63).toInt = ((y &&& 63).toBitVec.toNat : Int) := BitVec.toInt_eq_toNat_of_lt (by omega)
    have e3 : y.toInt = y.toBitVec.toInt := rfl
    rw [e2, e1, e3, BitVec.toInt_eq_toNat_cond]; split <;> omega
  apply Int32.toInt_inj.mp
  rw [e, e]
  have := (c_i2b x).1
  omega
theorem own_orB {m y : Int32} {n : Nat} (hy : ¬ y < 0) (h2 : y.toInt < n) (hm : (m = 192 ∧ n = 32) ∨ (m = 224 ∧ n = 16) ∨ (m = 128 ∧ n = 64)) : (¬ (m ||| y) < 0 ∧ ¬ (255 : Int32) < (m ||| y)) ∧ ¬ (m ||| y) < 128 := by
  rcases hm with ⟨rfl, rfl⟩ | ⟨rfl, rfl⟩ | ⟨rfl, rfl⟩ <;> obtain ⟨k, hk, rfl⟩ := own_small hy h2 (by decide) <;> clear hy h2 <;> revert k <;> decide +kernel
theorem own_sh {x : Int32} {q : Int32} {j n : Nat} (hq : q.toBitVec.toNat % 32 = j) (h0 : 0 ≤ x.toInt) (h1 : x.toInt < n * 2 ^ j) : ¬ (x >>> (q &&& 31)) < 0 ∧ (x >>> (q &&& 31)).toInt < n := by
  have a := c_ishr x q j hq
  have hp : (0 : Int) < ((2 ^ j : Nat) : Int) := by exact_mod_cast Nat.two_pow_pos j
  have b1 : 0 ≤ x.toInt / ((2 ^ j : Nat) : Int) := Int.ediv_nonneg h0 (Int.le_of_lt hp)
  have b2 : x.toInt / ((2 ^ j : Nat) : Int) < n := Int.ediv_lt_of_lt_mul hp (by push_cast; exact h1)
  have e0 : (0 : Int32).toInt = 0 := rfl
  refine ⟨?_, by omega⟩
  rw [Int32.lt_iff_toInt_lt]; omega
theorem own_an (x : Int32) : ¬ (x &&& 63) < 0 ∧ (x &&& 63).toInt < 64 := by
  have b := c_and x 63 (by decide)
  have e0 : (0 : Int32).toInt = 0 := rfl
  have e1 : (63 : Int32).toInt = 63 := rfl
  refine ⟨?_, by omega⟩
  rw [Int32.lt_iff_toInt_lt]; omega
theorem own_x2a {k : Int32} (h0 : 0 ≤ k.toInt) (h : k.toInt < 2048) : (¬ ((192 : Int32) ||| (k >>> ((6 : Int32) &&& 31))) < 0 ∧ ¬ (255 : Int32) < ((192 : Int32) ||| (k >>> ((6 : Int32) &&& 31)))) ∧ ¬ ((192 : Int32) ||| (k >>> ((6 : Int32) &&& 31))) < 128 :=
  have a := own_sh (x := k) (q := 6) (j := 6) (n := 32) (by decide) h0 (by omega)
  own_orB a.1 a.2 (Or.inl ⟨rfl, rfl⟩)
theorem own_xb (k : Int32) : (¬ ((128 : Int32) ||| (k &&& 63)) < 0 ∧ ¬ (255 : Int32) < ((128 : Int32) ||| (k &&& 63))) ∧ ¬ ((128 : Int32) ||| (k &&& 63)) < 128 := own_orB (own_an k).1 (own_an k).2 (Or.inr (Or.inr ⟨rfl, rfl⟩))
theorem own_b7 {k : Int32} (h : ¬ k < 0) : (k < 128 → ¬ k.toInt8.toInt32 < 0 ∧ ¬ (255 : Int32) < k) ∧ (¬ k < 128 → ¬ (255 : Int32) < k → k.toInt8.toInt32 < 0) ∧ ((255 : Int32) < k → ¬ k < 128) := by
  have c := c_i2b k
  have e0 : (0 : Int32).toInt = 0 := rfl
  have e1 : (128 : Int32).toInt = 128 := rfl
  have e2 : (255 : Int32).toInt = 255 := rfl
  simp only [Int32.lt_iff_toInt_lt] at *
  refine ⟨fun q => ⟨by omega, by omega⟩, fun q r => by omega, fun q => by omega⟩
def own_MetH (l : Launch) (Z : State) (y : MethodName) (cd : ByteArray) (maxL : Nat) (ret : Option FieldType) (hs : List (Nat × Nat × Nat × Nat)) (rm : Room) (n0 : Nat) (as' : Array Value) (h0 : Heap) (Q : Option Value → Heap → Prop) : Prop :=
  MetFree l y (head1 [Jvm.Cond.codeWith y cd maxL ret hs] rm) (fun a U => a = as' ∧ Z.Warmed39 U.vm ∧ U.heap = h0) (fun _ _ _ _ _ => True) (fun _ U o U' => ∃ v L, o = .returned v ∧ (Q v U'.heap ∧ Fr n0 L) ∧ FrameEnd U o U' L rm.cells rm.slots)
theorem own_metH {l : Launch} {Z : State} {y : MethodName} {cd : ByteArray} {maxL : Nat} {ret : Option FieldType} {hs : List (Nat × Nat × Nat × Nat)} {rm : Room} {n0 : Nat} {as' : Array Value} {h0 : Heap} {Q : Option Value → Heap → Prop} (hp : plainFor y = true) (ls : Array Slot) (hef : ∀ m, entryFrame m as' maxL = mkF m 0 ls [])
    (H : ∀ (p : Program) (e : Env) (s : State) (m : MethodId) (below : List Frame) (meth : Method) (c : Code) (T : State), own_Cx p s m meth c Z y.cls cd maxL ret y.name → own_S p l e rm s m as' below meth c n0 T h0 0 0 → own_Go p e below (own_En s n0 Q rm.cells rm.slots) T (mkF m 0 ls [])) : own_MetH l Z y cd maxL ret hs rm n0 as' h0 Q := by
  refine MetFree.of_bodySF hp hisWith ?_
  intro p e s m args below meth c s₁ Bd hml hP hK
  obtain ⟨rfl, hZ, hh⟩ := hP
  have e0 : s₁.heap = h0 := by rw [← hh, Bd.state]; rfl
  have G := H p e s m below meth c s₁ ⟨Bd.exec, Bd.bytes, hml, findClass_of_methodNamed Bd.named, (name_of_methodNamed Bd.named Bd.method).1, Bd.returns, BodyLoose.notSynchronized Bd, hZ⟩ ⟨_, _, _, Stand.of_body Bd, e0, Fr.nil n0, Nat.le_refl _, Nat.le_refl _⟩
  rw [← hef m] at G
  exact G
theorem own_MetH.pay {l : Launch} {p : Program} {e : Env} {R : Room} {s : State} {m : MethodId} {args : Array Value} {below : List Frame} {meth : Method} {c : Code} {Z : State} {a0 : Array Value} {h : Heap} {n0 : Nat} {own nm : String} {cd : ByteArray} {maxL : Nat} {ret : Option FieldType} {y : MethodName} {cdy : ByteArray} {maxy : Nat} {rety : Option FieldType} {hs : List (Nat × Nat × Nat × Nat)} {rm : Room} {as' : Array Value} {Q : Option Value → Heap → Prop} (M : own_MetH l Z y cdy maxy rety hs rm n0 as' h Q) (C : own_Cx p s m meth c Z own cd maxL ret nm) {len : Nat} (W : Nat) (wc : (Jvm.Cond.codeWith y cdy maxy rety hs).before a0 Z = true) (wz : (Jvm.Cond.initialized y.cls).before a0 Z = true) (hf : rm.frames + 1 ≤ R.frames) (hl : W + (maxy + 11) + rm.locals ≤ R.locals) :
    own_Pay l R p e below s args y len W as' h rm.cells rm.slots (fun v h' L => Q v h' ∧ Fr n0 L) := backOfWith (Q := fun v h' L => Q v h' ∧ Fr n0 L) M C.2.2.2.2.2.2.2 wc wz hf hl
theorem own_decl {a0 : Array Value} {Z : State} {y : MethodName} {cdy : ByteArray} {maxy : Nat} {rety : Option FieldType} {hs : List (Nat × Nat × Nat × Nat)} (w1 : (Jvm.Cond.instanceMethod y).before a0 Z = true) (w2 : (Jvm.Cond.codeWith y cdy maxy rety hs).before a0 Z = true) : (Jvm.Cond.declares y).before a0 Z = true := by
  obtain ⟨mk, methM, hnamed, hmethM, hst, -⟩ := Cond.instanceMethod_spec w1
  obtain ⟨mk', meth', c, hn', hm', -, -, -, -, -, -, hsig⟩ := Cond.codeWith_spec w2
  cases hnamed.symm.trans hn'
  cases hmethM.symm.trans hm'
  simp only [Cond.before, Cond.holds, Cond.value, hnamed, Option.bind_some, hmethM, Option.map_some, hst, hsig]
  simp
def own_R (x : Int32) : Prop := ¬ x < 0 ∧ ¬ (255 : Int32) < x
theorem own_R.b {x : Int32} (h : own_R x) : 0 ≤ x.toInt ∧ x.toInt ≤ 255 := by
  have := own_iv h
  have e0 : (0 : Int32).toInt = 0 := rfl
  have e1 : (255 : Int32).toInt = 255 := rfl
  omega
theorem own_R0 : own_R 0 := by unfold own_R; decide
def own_T64 : List Int32 := [65, 66, 67, 68, 69, 70, 71, 72, 73, 74, 75, 76, 77, 78, 79, 80, 81, 82, 83, 84, 85, 86, 87, 88, 89, 90, 97, 98, 99, 100, 101, 102, 103, 104, 105, 106, 107, 108, 109, 110, 111, 112, 113, 114, 115, 116, 117, 118, 119, 120, 121, 122, 48, 49, 50, 51, 52, 53, 54, 55, 56, 57, 43, 47]
def own_T64v : List Value := own_T64.map Value.int
def own_T (j : Int32) : Int32 := own_T64.getD j.toNatClampNeg 0
theorem own_Tv (j : Int32) : own_T64v.getD j.toNatClampNeg (.int 0) = .int (own_T j) := by
  unfold own_T own_T64v
  simp only [List.getD, List.getElem?_map]
  cases own_T64[j.toNatClampNeg]? <;> rfl
theorem own_TB (j : Int32) : ¬ own_T j < 0 ∧ ¬ (255 : Int32) < own_T j := by
  unfold own_T
  generalize j.toNatClampNeg = n
  by_cases h : n < 64
  · revert n; decide +kernel
  · have : own_T64.getD n 0 = 0 := by rw [List.getD_eq_getElem?_getD, List.getElem?_eq_none (by show 64 ≤ n; omega)]; rfl
    rw [this]; decide
theorem own_alp {v : Int32} (h : ¬ v < 0 ∧ v < 64) : (v < 26 → ((65 : Int32) + v).toUInt32.toUInt16.toUInt32.toInt32 = own_T v) ∧ (¬ v < 26 → v < 52 → ((97 : Int32) + (v - 26)).toUInt32.toUInt16.toUInt32.toInt32 = own_T v) ∧ (¬ v < 52 → v < 62 → ((48 : Int32) + (v - 52)).toUInt32.toUInt16.toUInt32.toInt32 = own_T v) ∧ (v = 62 → 43 = own_T v) ∧ (¬ v < 62 → ¬ v = 62 → 47 = own_T v) := by
  have h2 := h.2
  rw [Int32.lt_iff_toInt_lt] at h2
  have e1 : (64 : Int32).toInt = 64 := rfl
  obtain ⟨k, hk, rfl⟩ := own_small (n := 64) h.1 (by omega) (by omega)
  clear h h2
  revert k; decide +kernel
def own_g0 (a : Int32) : Int32 := own_T (a >>> ((2 : Int32) &&& 31))
def own_g1 (a b : Int32) : Int32 := own_T (((a &&& 3) <<< ((4 : Int32) &&& 31)) ||| (b >>> ((4 : Int32) &&& 31)))
def own_g2 (a b : Int32) : Int32 := own_T (((a &&& 15) <<< ((2 : Int32) &&& 31)) ||| (b >>> ((6 : Int32) &&& 31)))
def own_g3 (a : Int32) : Int32 := own_T (a &&& 63)
theorem own_ol2 {x y : Int32} (hl : 0 ≤ y.toInt ∧ y.toInt < 4) {h : Nat} (hm : x.toInt = 4 * h) : (x ||| y).toInt = x.toInt + y.toInt := by
  have el : y.toInt = y.toBitVec.toInt := rfl
  have em : x.toInt = x.toBitVec.toInt := rfl
  have nl : (y.toBitVec.toNat : Int) = y.toInt := by
    have := y.toBitVec.isLt
    have e := BitVec.toInt_eq_toNat_cond y.toBitVec
    rw [← el] at e; split at e <;> omega
  have nm : (x.toBitVec.toNat : Int) = x.toInt ∧ x.toBitVec.toNat < 2 ^ 31 := by
    have := x.toBitVec.isLt
    have e := BitVec.toInt_eq_toNat_cond x.toBitVec
    rw [← em] at e; split at e <;> omega
  have e1 : (x ||| y).toBitVec.toNat = x.toBitVec.toNat + y.toBitVec.toNat := by
    show (x.toBitVec ||| y.toBitVec).toNat = _
    rw [BitVec.toNat_or]
    have e5 : x.toBitVec.toNat = 2 ^ 2 * h := by omega
    have e6 : y.toBitVec.toNat < 2 ^ 2 := by omega
    rw [e5, ← Nat.two_pow_add_eq_or_of_lt e6 h]
  have e2 : (x ||| y).toInt = ((x ||| y).toBitVec.toNat : Int) := BitVec.toInt_eq_toNat_of_lt (by omega)
  omega
theorem own_ol4 {x y : Int32} (hl : 0 ≤ y.toInt ∧ y.toInt < 16) {h : Nat} (hm : x.toInt = 16 * h) : (x ||| y).toInt = x.toInt + y.toInt := by
  have el : y.toInt = y.toBitVec.toInt := rfl
  have em : x.toInt = x.toBitVec.toInt := rfl
  have nl : (y.toBitVec.toNat : Int) = y.toInt := by
    have := y.toBitVec.isLt
    have e := BitVec.toInt_eq_toNat_cond y.toBitVec
    rw [← el] at e; split at e <;> omega
  have nm : (x.toBitVec.toNat : Int) = x.toInt ∧ x.toBitVec.toNat < 2 ^ 31 := by
    have := x.toBitVec.isLt
    have e := BitVec.toInt_eq_toNat_cond x.toBitVec
    rw [← em] at e; split at e <;> omega
  have e1 : (x ||| y).toBitVec.toNat = x.toBitVec.toNat + y.toBitVec.toNat := by
    show (x.toBitVec ||| y.toBitVec).toNat = _
    rw [BitVec.toNat_or]
    have e5 : x.toBitVec.toNat = 2 ^ 4 * h := by omega
    have e6 : y.toBitVec.toNat < 2 ^ 4 := by omega
    rw [e5, ← Nat.two_pow_add_eq_or_of_lt e6 h]
  have e2 : (x ||| y).toInt = ((x ||| y).toBitVec.toNat : Int) := BitVec.toInt_eq_toNat_of_lt (by omega)
  omega
theorem own_ol8 {x y : Int32} (hl : 0 ≤ y.toInt ∧ y.toInt < 256) {h : Nat} (hm : x.toInt = 256 * h) : (x ||| y).toInt = x.toInt + y.toInt := by
  have el : y.toInt = y.toBitVec.toInt := rfl
  have em : x.toInt = x.toBitVec.toInt := rfl
  have nl : (y.toBitVec.toNat : Int) = y.toInt := by
    have := y.toBitVec.isLt
    have e := BitVec.toInt_eq_toNat_cond y.toBitVec
    rw [← el] at e; split at e <;> omega
  have nm : (x.toBitVec.toNat : Int) = x.toInt ∧ x.toBitVec.toNat < 2 ^ 31 := by
    have := x.toBitVec.isLt
    have e := BitVec.toInt_eq_toNat_cond x.toBitVec
    rw [← em] at e; split at e <;> omega
  have e1 : (x ||| y).toBitVec.toNat = x.toBitVec.toNat + y.toBitVec.toNat := by
    show (x.toBitVec ||| y.toBitVec).toNat = _
    rw [BitVec.toNat_or]
    have e5 : x.toBitVec.toNat = 2 ^ 8 * h := by omega
    have e6 : y.toBitVec.toNat < 2 ^ 8 := by omega
    rw [e5, ← Nat.two_pow_add_eq_or_of_lt e6 h]
  have e2 : (x ||| y).toInt = ((x ||| y).toBitVec.toNat : Int) := BitVec.toInt_eq_toNat_of_lt (by omega)
  omega
theorem own_ol16 {x y : Int32} (hl : 0 ≤ y.toInt ∧ y.toInt < 65536) {h : Nat} (hm : x.toInt = 65536 * h) : (x ||| y).toInt = x.toInt + y.toInt := by
  have el : y.toInt = y.toBitVec.toInt := rfl
  have em : x.toInt = x.toBitVec.toInt := rfl
  have nl : (y.toBitVec.toNat : Int) = y.toInt := by
    have := y.toBitVec.isLt
    have e := BitVec.toInt_eq_toNat_cond y.toBitVec
    rw [← el] at e; split at e <;> omega
  have nm : (x.toBitVec.toNat : Int) = x.toInt ∧ x.toBitVec.toNat < 2 ^ 31 := by
    have := x.toBitVec.isLt
    have e := BitVec.toInt_eq_toNat_cond x.toBitVec
    rw [← em] at e; split at e <;> omega
  have e1 : (x ||| y).toBitVec.toNat = x.toBitVec.toNat + y.toBitVec.toNat := by
    show (x.toBitVec ||| y.toBitVec).toNat = _
    rw [BitVec.toNat_or]
    have e5 : x.toBitVec.toNat = 2 ^ 16 * h := by omega
    have e6 : y.toBitVec.toNat < 2 ^ 16 := by omega
    rw [e5, ← Nat.two_pow_add_eq_or_of_lt e6 h]
  have e2 : (x ||| y).toInt = ((x ||| y).toBitVec.toNat : Int) := BitVec.toInt_eq_toNat_of_lt (by omega)
  omega
theorem own_shlv {x q : Int32} {k : Nat} (hq : q.toBitVec.toNat % 32 = k) (h0 : 0 ≤ x.toInt) (h1 : x.toInt * (2 ^ k : Nat) < 2147483648) : (x <<< (q &&& 31)).toInt = x.toInt * (2 ^ k : Nat) := by
  have a := c_ishl x q k hq
  have h2 : 0 ≤ x.toInt * (2 ^ k : Nat) := Int.mul_nonneg h0 (Int.natCast_nonneg _)
  have h3 := Int32.toInt_lt (x <<< (q &&& 31))
  have h4 := Int32.le_toInt (x <<< (q &&& 31))
  generalize x.toInt * ((2 ^ k : Nat) : Int) = y at *
  omega
theorem own_KT {j j' : Int32} (e : j = j') (h : 0 ≤ j'.toInt ∧ j'.toInt < 64) : (¬ j < 0 ∧ j < 64) ∧ own_T64v.getD j.toNatClampNeg (.int 0) = .int (own_T j') := by
  subst e
  refine ⟨⟨?_, ?_⟩, own_Tv j⟩
  · rw [Int32.lt_iff_toInt_lt]; have e0 : (0 : Int32).toInt = 0 := rfl; omega
  · rw [Int32.lt_iff_toInt_lt]; have e0 : (64 : Int32).toInt = 64 := rfl; omega
def own_X (a b c : Int32) : Int32 := ((a <<< ((16 : Int32) &&& 31)) ||| (b <<< ((8 : Int32) &&& 31))) ||| c
theorem own_Xe {a b c : Int32} (ha : own_R a) (hb : own_R b) (hc : own_R c) : (((a.toInt8.toInt32 &&& (255 : Int32)) <<< ((16 : Int32) &&& 31)) ||| ((b.toInt8.toInt32 &&& (255 : Int32)) <<< ((8 : Int32) &&& 31))) ||| (c.toInt8.toInt32 &&& (255 : Int32)) = own_X a b c := by
  rw [own_k8 ha, own_k8 hb, own_k8 hc]; rfl
theorem own_XV {a b c : Int32} (ha : own_R a) (hb : own_R b) (hc : own_R c) : (own_X a b c).toInt = 65536 * a.toInt + 256 * b.toInt + c.toInt := by
  have ha := ha.b; have hb := hb.b; have hc := hc.b
  have e1 := own_shlv (x := a) (q := 16) (k := 16) (by decide) ha.1 (by omega)
  have e2 := own_shlv (x := b) (q := 8) (k := 8) (by decide) hb.1 (by omega)
  have e3 := own_ol16 (x := a <<< ((16 : Int32) &&& 31)) (y := b <<< ((8 : Int32) &&& 31)) ⟨by omega, by omega⟩ (h := a.toInt.toNat) (by omega)
  have e4 := own_ol8 (x := (a <<< ((16 : Int32) &&& 31)) ||| (b <<< ((8 : Int32) &&& 31))) (y := c) ⟨by omega, by omega⟩ (h := (256 * a.toInt + b.toInt).toNat) (by omega)
  show (((a <<< ((16 : Int32) &&& 31)) ||| (b <<< ((8 : Int32) &&& 31))) ||| c).toInt = _
  omega
theorem own_v0 {a : Int32} (ha : own_R a) : (a >>> ((2 : Int32) &&& 31)).toInt = a.toInt / 4 := by
  have := c_ishr a 2 2 (by decide); omega
theorem own_v1 {a b : Int32} (ha : own_R a) (hb : own_R b) : (((a &&& 3) <<< ((4 : Int32) &&& 31)) ||| (b >>> ((4 : Int32) &&& 31))).toInt = 16 * (a.toInt % 4) + b.toInt / 16 := by
  have ha := ha.b; have hb := hb.b
  have e0 := c_mask a 3 2 (by decide) (by decide)
  have e1 := own_shlv (x := a &&& 3) (q := 4) (k := 4) (by decide) (by omega) (by omega)
  have e2 := c_ishr b 4 4 (by decide)
  have e3 := own_ol4 (x := (a &&& 3) <<< ((4 : Int32) &&& 31)) (y := b >>> ((4 : Int32) &&& 31)) ⟨by omega, by omega⟩ (h := (a.toInt % 4).toNat) (by omega)
  omega
theorem own_v2 {a b : Int32} (ha : own_R a) (hb : own_R b) : (((a &&& 15) <<< ((2 : Int32) &&& 31)) ||| (b >>> ((6 : Int32) &&& 31))).toInt = 4 * (a.toInt % 16) + b.toInt / 64 := by
  have ha := ha.b; have hb := hb.b
  have e0 := c_mask a 15 4 (by decide) (by decide)
  have e1 := own_shlv (x := a &&& 15) (q := 2) (k := 2) (by decide) (by omega) (by omega)
  have e2 := c_ishr b 6 6 (by decide)
  have e3 := own_ol2 (x := (a &&& 15) <<< ((2 : Int32) &&& 31)) (y := b >>> ((6 : Int32) &&& 31)) ⟨by omega, by omega⟩ (h := (a.toInt % 16).toNat) (by omega)
  omega
theorem own_v3 (a : Int32) : (a &&& 63).toInt = a.toInt % 64 := by
  have e0 := c_mask a 63 6 (by decide) (by decide); omega
theorem own_w {j : Int32} (h : 0 ≤ j.toInt ∧ j.toInt < 64) : ¬ j < 0 ∧ j < 64 := (own_KT rfl h).1
theorem own_w0 {a : Int32} (ha : own_R a) : ¬ (a >>> ((2 : Int32) &&& 31)) < 0 ∧ (a >>> ((2 : Int32) &&& 31)) < 64 := own_w (by rw [own_v0 ha]; have := ha.b; omega)
theorem own_w1 {a b : Int32} (ha : own_R a) (hb : own_R b) : ¬ (((a &&& 3) <<< ((4 : Int32) &&& 31)) ||| (b >>> ((4 : Int32) &&& 31))) < 0 ∧ (((a &&& 3) <<< ((4 : Int32) &&& 31)) ||| (b >>> ((4 : Int32) &&& 31))) < 64 := own_w (by rw [own_v1 ha hb]; have := ha.b; have := hb.b; omega)
theorem own_w2 {a b : Int32} (ha : own_R a) (hb : own_R b) : ¬ (((a &&& 15) <<< ((2 : Int32) &&& 31)) ||| (b >>> ((6 : Int32) &&& 31))) < 0 ∧ (((a &&& 15) <<< ((2 : Int32) &&& 31)) ||| (b >>> ((6 : Int32) &&& 31))) < 64 := own_w (by rw [own_v2 ha hb]; have := ha.b; have := hb.b; omega)
theorem own_w3 (a : Int32) : ¬ (a &&& 63) < 0 ∧ (a &&& 63) < 64 := own_w (by rw [own_v3]; omega)
theorem own_us {x q : Int32} {k : Nat} (hq : q.toBitVec.toNat % 32 = k) (h0 : 0 < k) (hx : 0 ≤ x.toInt) : (Jvm.Free.XT.ushr x q).toInt = x.toInt / (2 ^ k : Nat) := by
  have e : (Jvm.Free.XT.ushr x q).toInt = (x.toInt % 4294967296) / (2 ^ k : Nat) := c_iushr x q k hq h0
  rw [e, Int.emod_eq_of_lt hx (by have := Int32.toInt_lt x; omega)]
theorem own_K0 {a b c : Int32} (ha : own_R a) (hb : own_R b) (hc : own_R c) : (¬ ((Jvm.Free.XT.ushr (own_X a b c) 18) &&& 63) < 0 ∧ ((Jvm.Free.XT.ushr (own_X a b c) 18) &&& 63) < 64) ∧ own_T64v.getD ((Jvm.Free.XT.ushr (own_X a b c) 18) &&& 63).toNatClampNeg (.int 0) = .int (own_g0 a) := by
  have h := own_XV ha hb hc
  have ea := ha.b; have eb := hb.b; have ec := hc.b
  have e1 := own_us (x := own_X a b c) (q := 18) (k := 18) (by decide) (by decide) (by omega)
  have e2 := own_v3 (Jvm.Free.XT.ushr (own_X a b c) 18)
  have e3 := own_v0 ha
  exact own_KT (Int32.toInt_inj.mp (by omega)) (by omega)
theorem own_K1 {a b c : Int32} (ha : own_R a) (hb : own_R b) (hc : own_R c) : (¬ ((Jvm.Free.XT.ushr (own_X a b c) 12) &&& 63) < 0 ∧ ((Jvm.Free.XT.ushr (own_X a b c) 12) &&& 63) < 64) ∧ own_T64v.getD ((Jvm.Free.XT.ushr (own_X a b c) 12) &&& 63).toNatClampNeg (.int 0) = .int (own_g1 a b) := by
  have h := own_XV ha hb hc
  have ea := ha.b; have eb := hb.b; have ec := hc.b
  have e1 := own_us (x := own_X a b c) (q := 12) (k := 12) (by decide) (by decide) (by omega)
  have e2 := own_v3 (Jvm.Free.XT.ushr (own_X a b c) 12)
  have e3 := own_v1 ha hb
  exact own_KT (Int32.toInt_inj.mp (by omega)) (by omega)
theorem own_K2 {a b c : Int32} (ha : own_R a) (hb : own_R b) (hc : own_R c) : (¬ ((Jvm.Free.XT.ushr (own_X a b c) 6) &&& 63) < 0 ∧ ((Jvm.Free.XT.ushr (own_X a b c) 6) &&& 63) < 64) ∧ own_T64v.getD ((Jvm.Free.XT.ushr (own_X a b c) 6) &&& 63).toNatClampNeg (.int 0) = .int (own_g2 b c) := by
  have h := own_XV ha hb hc
  have ea := ha.b; have eb := hb.b; have ec := hc.b
  have e1 := own_us (x := own_X a b c) (q := 6) (k := 6) (by decide) (by decide) (by omega)
  have e2 := own_v3 (Jvm.Free.XT.ushr (own_X a b c) 6)
  have e3 := own_v2 hb hc
  exact own_KT (Int32.toInt_inj.mp (by omega)) (by omega)
theorem own_K3 {a b c : Int32} (ha : own_R a) (hb : own_R b) (hc : own_R c) : (¬ ((own_X a b c) &&& 63) < 0 ∧ ((own_X a b c) &&& 63) < 64) ∧ own_T64v.getD ((own_X a b c) &&& 63).toNatClampNeg (.int 0) = .int (own_g3 c) := by
  have h := own_XV ha hb hc
  have ea := ha.b; have eb := hb.b; have ec := hc.b
  have e2 := own_v3 (own_X a b c)
  have e3 := own_v3 c
  exact own_KT (Int32.toInt_inj.mp (by omega)) (by omega)
theorem own_M0 {a : Int32} (ha : own_R a) : (¬ (a >>> ((2 : Int32) &&& 31)) < 0 ∧ (a >>> ((2 : Int32) &&& 31)) < 64) ∧ own_T64v.getD (a >>> ((2 : Int32) &&& 31)).toNatClampNeg (.int 0) = .int (own_g0 a) := own_KT rfl (by rw [own_v0 ha]; have := ha.b; omega)
theorem own_s46 {a : Int32} (ha : own_R a) : ((a <<< ((4 : Int32) &&& 31)) &&& 63).toInt = 16 * (a.toInt % 4) := by
  have ea := ha.b
  have e1 := own_shlv (x := a) (q := 4) (k := 4) (by decide) (by omega) (by omega)
  have e2 := own_v3 (a <<< ((4 : Int32) &&& 31))
  omega
theorem own_M1 {a : Int32} (ha : own_R a) : (¬ ((a <<< ((4 : Int32) &&& 31)) &&& 63) < 0 ∧ ((a <<< ((4 : Int32) &&& 31)) &&& 63) < 64) ∧ own_T64v.getD ((a <<< ((4 : Int32) &&& 31)) &&& 63).toNatClampNeg (.int 0) = .int (own_g1 a 0) := by
  have e1 := own_s46 ha
  have e2 := own_v1 ha own_R0
  have e0 : (0 : Int32).toInt = 0 := rfl
  exact own_KT (Int32.toInt_inj.mp (by omega)) (by omega)
theorem own_M2 {a b : Int32} (ha : own_R a) (hb : own_R b) : (¬ (((a <<< ((4 : Int32) &&& 31)) &&& 63) ||| (b >>> ((4 : Int32) &&& 31))) < 0 ∧ (((a <<< ((4 : Int32) &&& 31)) &&& 63) ||| (b >>> ((4 : Int32) &&& 31))) < 64) ∧ own_T64v.getD (((a <<< ((4 : Int32) &&& 31)) &&& 63) ||| (b >>> ((4 : Int32) &&& 31))).toNatClampNeg (.int 0) = .int (own_g1 a b) := by
  have e1 := own_s46 ha
  have ea := ha.b; have eb := hb.b
  have e2 := own_v1 ha hb
  have e3 := c_ishr b 4 4 (by decide)
  have e4 := own_ol4 (x := (a <<< ((4 : Int32) &&& 31)) &&& 63) (y := b >>> ((4 : Int32) &&& 31)) ⟨by omega, by omega⟩ (h := (a.toInt % 4).toNat) (by omega)
  exact own_KT (Int32.toInt_inj.mp (by omega)) (by omega)
theorem own_M3 {a : Int32} (ha : own_R a) : (¬ ((a <<< ((2 : Int32) &&& 31)) &&& 63) < 0 ∧ ((a <<< ((2 : Int32) &&& 31)) &&& 63) < 64) ∧ own_T64v.getD ((a <<< ((2 : Int32) &&& 31)) &&& 63).toNatClampNeg (.int 0) = .int (own_g2 a 0) := by
  have ea := ha.b
  have e1 := own_shlv (x := a) (q := 2) (k := 2) (by decide) (by omega) (by omega)
  have e2 := own_v3 (a <<< ((2 : Int32) &&& 31))
  have e3 := own_v2 ha own_R0
  have e0 : (0 : Int32).toInt = 0 := rfl
  exact own_KT (Int32.toInt_inj.mp (by omega)) (by omega)
def own_c8 (k : Int32) : List Int32 := if k < 128 then [k] else [(192 : Int32) ||| (k >>> ((6 : Int32) &&& 31)), (128 : Int32) ||| (k &&& 63)]
def own_u8 (cs : List Int32) : List Int32 := cs.flatMap own_c8
theorem own_c8_len (k : Int32) : 1 ≤ (own_c8 k).length ∧ (own_c8 k).length ≤ 2 := by
  unfold own_c8; split <;> simp
theorem own_u8_app (a b : List Int32) : own_u8 (a ++ b) = own_u8 a ++ own_u8 b := by simp [own_u8]
theorem own_u8_one (k : Int32) : own_u8 [k] = own_c8 k := by simp [own_u8]
theorem own_u8_cons (k : Int32) (r : List Int32) : own_u8 (k :: r) = own_c8 k ++ own_u8 r := by simp [own_u8]
theorem own_u8_len (cs : List Int32) : (own_u8 cs).length ≤ 2 * cs.length ∧ cs.length ≤ (own_u8 cs).length := by
  induction cs with
  | nil => simp [own_u8]
  | cons k r ih =>
    have := own_c8_len k
    rw [own_u8_cons, List.length_append, List.length_cons]; omega
theorem own_u8_58 (a b : List Int32) : (own_u8 (((([] : List Int32) ++ a) ++ ([58] : List Int32)) ++ b)).length < 2 * (((([] : List Int32) ++ a) ++ ([58] : List Int32)) ++ b).length := by
  rw [own_u8_app, own_u8_app]
  have h1 := (own_u8_len ([] ++ a)).1
  have h2 := (own_u8_len b).1
  have h3 : (own_u8 [58]).length = 1 := rfl
  simp only [List.length_append, List.length_cons, List.length_nil] at *
  omega
theorem own_u8_lo {cs : List Int32} (h : ∀ k ∈ cs, k < 128) : own_u8 cs = cs := by
  induction cs with
  | nil => rfl
  | cons k r ih =>
    rw [own_u8_cons, ih (fun x hx => h x (List.mem_cons_of_mem _ hx)), own_c8, if_pos (h k (List.mem_cons_self ..))]; rfl
theorem own_c8_R {k : Int32} (h : own_R k) : ∀ x ∈ own_c8 k, own_R x := by
  intro x hx
  unfold own_c8 at hx
  have hb := h.b
  split at hx
  · simp at hx; rw [hx]; exact h
  · simp only [List.mem_cons, List.not_mem_nil, or_false] at hx
    rcases hx with rfl | rfl
    · exact (own_x2a hb.1 (by omega)).1
    · exact (own_xb k).1
theorem own_u8_R {cs : List Int32} (h : ∀ k ∈ cs, ¬ k < 0 ∧ ¬ (255 : Int32) < k) : ∀ x ∈ own_u8 cs, own_R x := by
  intro x hx
  obtain ⟨k, hk, hx⟩ := List.mem_flatMap.mp hx
  exact own_c8_R (h k hk) x hx
def own_pd (n : Nat) (A : List Int32) : List Value := A.map Value.int ++ List.replicate (n - A.length) (.int 0)
theorem own_pd_len {n : Nat} {A : List Int32} (h : A.length ≤ n) : (own_pd n A).length = n := by simp [own_pd]; omega
theorem own_pd_set {n : Nat} {A : List Int32} {v : Int32} (h : A.length < n) : (own_pd n A).set A.length (.int v) = own_pd n (A ++ [v]) := by
  unfold own_pd
  rw [List.set_append_right _ _ (by simp)]
  obtain ⟨k, hk⟩ : ∃ k, n - A.length = k + 1 := ⟨n - A.length - 1, by omega⟩
  have e2 : n - (A ++ [v]).length = k := by simp; omega
  rw [hk, e2, List.replicate_succ]
  simp
theorem own_pdq {n : Nat} {A B : List Int32} {v : Int32} (h : A.length < n) (hB : B = A ++ [v]) : (own_pd n A).set A.length (.int v) = own_pd n B := by rw [hB]; exact own_pd_set h
theorem own_pd_rg {n : Nat} {A : List Int32} : ((List.range A.length).map fun i => (own_pd n A).getD (0 + i) (.int 0)) = A.map Value.int := by
  apply List.ext_getElem
  · simp
  · intro i h1 h2
    have h3 : i < A.length := by simpa using h2
    simp [own_pd, List.getD, List.getElem?_append_left, h3]
theorem own_svm (cs : List Int32) : own_sv cs = (cs.map StrChars.lo8).map Value.int := by simp [own_sv]
theorem own_svget {cs pre r : List Int32} {k : Int32} (hc : cs = pre ++ k :: r) (hl : cs.length ≤ 4000) : (own_sv cs).getD (Int32.ofNat pre.length).toNatClampNeg (.int 0) = .int k.toInt8.toInt32 := by
  have h : pre.length ≤ 4000 := by rw [hc] at hl; simp at hl; omega
  rw [(own_ofNat_nn h).2, hc]
  simp [own_sv, List.getD, StrChars.lo8]
theorem own_snoc (a : List Int32) (x : Int32) : Int32.ofNat a.length + 1 = Int32.ofNat (a ++ [x]).length := by rw [own_ofNat_succ, List.length_append]; rfl
theorem own_pds {n : Nat} {A B : List Int32} {v : Int32} (h : A.length < n) (hB : B = A ++ [v]) : (own_pd n (A.map StrChars.lo8)).set A.length (.int v.toInt8.toInt32) = own_pd n (B.map StrChars.lo8) := by
  have q := own_pd_set (n := n) (A := A.map StrChars.lo8) (v := v.toInt8.toInt32) (by rw [List.length_map]; exact h)
  rw [List.length_map] at q
  rw [q, hB]; simp [StrChars.lo8]
theorem own_pdl {n : Nat} {A : List Int32} (h : A.length < n) : A.length < (own_pd n (A.map StrChars.lo8)).length := by
  rw [own_pd_len (by rw [List.length_map]; omega)]; exact h
def own_CP (r : Int32) (cs : List Int32) : Prop := (r = Int32.ofNat cs.length ∧ ∀ k ∈ cs, k < 128) ∨ ¬ r = Int32.ofNat cs.length
def own_HN (r : Int32) (cs : List Int32) : Prop := (r = 0 ∧ ∀ k ∈ cs, k < 128) ∨ r = 1
theorem own_ofs {i n : Nat} (h : i < n) (hn : n ≤ 4000) : Int32.ofNat i < Int32.ofNat n := (own_ofNat_lt (by omega) hn).mpr h
theorem own_nofs {i n : Nat} (h : ¬ i < n) (hi : i ≤ 4000) (hn : n ≤ 4000) : ¬ Int32.ofNat i < Int32.ofNat n := fun q => h ((own_ofNat_lt hi hn).mp q)
theorem own_oNinj {a b : Nat} (ha : a ≤ 4000) (hb : b ≤ 4000) : Int32.ofNat a = Int32.ofNat b ↔ a = b := by
  refine ⟨fun h => ?_, fun h => by rw [h]⟩
  have e1 := (own_oN ha).1
  have e2 := (own_oN hb).1
  rw [h] at e1; omega
theorem own_shl1 {n : Nat} (h : n ≤ 5) : Int32.ofNat n <<< ((1 : Int32) &&& 31) = Int32.ofNat (2 * n) := by
  have : ∀ n < 6, Int32.ofNat n <<< ((1 : Int32) &&& 31) = Int32.ofNat (2 * n) := by decide +kernel
  exact this n (by omega)
theorem own_lt30 {n : Nat} (h : n ≤ 5) : Int32.ofNat n < 1073741823 := by
  have : ∀ n < 6, Int32.ofNat n < 1073741823 := by decide +kernel
  exact this n (by omega)
def own_tk (a b n : Int32) : List Int32 := if n = 0 then [] else if n = 1 then [a] else [a, b]
theorem own_tk_len (a b n : Int32) : (own_tk a b n).length ≤ 2 := by
  unfold own_tk; split <;> (try split) <;> simp
theorem own_tk_R {a b n : Int32} (ha : own_R a) (hb : own_R b) : ∀ k ∈ own_tk a b n, ¬ k < 0 ∧ ¬ (255 : Int32) < k := by
  unfold own_tk
  split
  · simp
  · split
    · intro k hk; simp at hk; rw [hk]; exact ha
    · intro k hk; simp at hk; rcases hk with rfl | rfl; exact ha; exact hb
def own_sm (n : Int32) : Prop := n = 0 ∨ n = 1 ∨ n = 2
theorem own_sm3 (x : Int32) : own_sm ((x &&& 255) % 3) := by
  have e0 := c_mask x 255 8 (by decide) (by decide)
  have e1 := (c_irem (x &&& 255) 3 3 (by decide)).1 (by omega)
  unfold own_sm
  have h : ∀ z : Int32, z.toInt = 0 ∨ z.toInt = 1 ∨ z.toInt = 2 → z = 0 ∨ z = 1 ∨ z = 2 := by
    intro z hz
    rcases hz with h | h | h
    · exact Or.inl (Int32.toInt_inj.mp h)
    · exact Or.inr (Or.inl (Int32.toInt_inj.mp h))
    · exact Or.inr (Or.inr (Int32.toInt_inj.mp h))
  exact h _ (by omega)
theorem own_tk_0 {a b n : Int32} (h : own_sm n) (q : ¬ 0 < n) : own_tk a b n = [] := by
  rcases h with rfl | rfl | rfl
  · rfl
  · exact absurd (by decide) q
  · exact absurd (by decide) q
theorem own_tk_1 {a b n : Int32} (h : own_sm n) (q : 0 < n) (q2 : ¬ 1 < n) : own_tk a b n = [a] := by
  rcases h with rfl | rfl | rfl
  · exact absurd q (by decide)
  · rfl
  · exact absurd (by decide) q2
theorem own_tk_2 {a b n : Int32} (h : own_sm n) (q : 0 < n) (q2 : 1 < n) : own_tk a b n = [a, b] := by
  rcases h with rfl | rfl | rfl
  · exact absurd q (by decide)
  · exact absurd q2 (by decide)
  · rfl
theorem own_fst {s : State} {a : Array Value} {t u : Term} {C n d : String} {x : Addr} {v : Value} (e1 : t.eval a s none [] s = some (.ref x)) (h : (Jvm.Cond.eq (.field t C n d) u).before a s = true) (hu : u.eval a s none [] s = some v) : Fld s s.heap x C n d v := by
  obtain ⟨y, e2, e3⟩ := Cond.eq_one (show (Jvm.Cond.eq (.field t C n d) u).holds a s none s [] = true from h)
  rw [hu] at e3
  cases e3
  simp only [Term.eval, e1, Option.bind_eq_bind, Option.bind_some] at e2
  exact Fld.start e2
theorem own_TA {s : State} {a : Array Value} {t : Term} {n : Nat} (vs : List Int32) (hn : vs.length = n) (hn2 : n ≤ 4000) (h1 : (Jvm.Cond.arrayOf t .char).before a s = true) (h2 : (Jvm.Cond.eq (.length t) (.int (Int32.ofNat n))).before a s = true) (h3 : ∀ i < n, (Jvm.Cond.eq (.elem t (.int (Int32.ofNat i))) (.int (vs.getD i 0))).before a s = true) (h4 : ∀ v ∈ vs, fits .char (.int v) = true) :
    ∃ D k, t.eval a s none [] s = some (.ref D) ∧ Arv s s.heap D k .char (Int32.ofNat n) (vs.map Value.int) (.int 0) ∧ D < s.heap.size := by
  obtain ⟨y, e1, e2⟩ := Cond.eq_one (show (Jvm.Cond.eq (.length t) (.int (Int32.ofNat n))).holds a s none s [] = true from h2)
  obtain ⟨D, cell, d1, d2, rfl⟩ := Term.length_spec e1
  obtain ⟨c, A⟩ := Arr.start d1 (Cond.before_iff.mp h1)
  have e3 : s.arrayAt? D = some c := Arr.fin (Vm.Alike.refl _) A
  obtain rfl : c = cell := Option.some.inj (e3.symm.trans d2)
  have hlt : c.slots.size < 2 ^ 31 := by
    by_cases g : c.slots.size < 2 ^ 31
    · exact g
    · simp [Term.eval, d1, d2, g] at e1
  rw [Term.int_eval] at e2
  have e4 : c.slots.size.toInt32 = Int32.ofNat n := Value.int.inj (Option.some.inj e2).symm
  have e5 : c.slots.size = n := by
    have := congrArg Int32.toInt e4
    rw [Jvm.RoadKit.len_toInt hlt, (own_oN hn2).1] at this
    omega
  have hg : ∀ i, i < n → (vs.map Value.int).getD i (.int 0) = .int (vs.getD i 0) := by
    intro i hi
    simp [List.getD, List.getElem?_map, List.getElem?_eq_getElem (show i < vs.length by omega)]
  refine ⟨D, c.cls, d1, ⟨c, A, rfl, by rw [e5, (own_oN hn2).2], (own_ofNat_nn hn2).1, fun i hi => ?_, fun i hi => ?_⟩, A.lt⟩
  · rw [e5] at hi
    obtain ⟨y, f1, f2⟩ := Cond.eq_one (show (Jvm.Cond.eq (.elem t (.int (Int32.ofNat i))) (.int (vs.getD i 0))).holds a s none s [] = true from h3 i hi)
    obtain ⟨D', j, cell', g1, g2, g3, -, g4⟩ := Term.elem_spec f1
    rw [d1] at g1; cases g1
    rw [d2] at g3; cases g3
    rw [Term.int_eval] at g2 f2
    cases g2; cases f2
    rw [(own_oN (n := i) (by omega)).2] at g4
    rw [hg i hi]; exact g4
  · rw [e5] at hi
    rw [hg i hi]
    exact h4 _ (own_getD_mem (by omega))
theorem own_allS {a : List Int32} {k : Int32} (h : ∀ x ∈ a, x < 128) (hk : k < 128) : ∀ x ∈ a ++ [k], x < 128 := by
  intro x hx
  rcases List.mem_append.mp hx with hx | hx
  · exact h x hx
  · simp at hx; rw [hx]; exact hk
def own_b64 : List Int32 → List Int32
  | a :: b :: k :: r => own_g0 a :: own_g1 a b :: own_g2 b k :: own_g3 k :: own_b64 r
  | [a, b] => [own_g0 a, own_g1 a b, own_g2 b 0]
  | [a] => [own_g0 a, own_g1 a 0]
  | [] => []
def own_M (n : Nat) : Nat := 4 * (n / 3) + (if n % 3 = 0 then 0 else n % 3 + 1)
theorem own_list3 {L : List Int32} {r : Nat} (h : L.length = 3 * (r + 1)) : ∃ a b k R, L = a :: b :: k :: R ∧ R.length = 3 * r := by
  match L, h with
  | [], h => simp at h
  | [_], h => simp at h; omega
  | [_, _], h => simp at h; omega
  | a :: b :: k :: R, h => exact ⟨a, b, k, R, rfl, by simp at h; omega⟩
theorem own_b64_app {r : Nat} : ∀ {L R : List Int32}, L.length = 3 * r → own_b64 (L ++ R) = own_b64 L ++ own_b64 R := by
  induction r with
  | zero =>
    intro L R h
    have : L = [] := List.length_eq_zero_iff.mp (by omega)
    rw [this]; rfl
  | succ r ih =>
    intro L R h
    obtain ⟨a, b, k, L', rfl, h'⟩ := own_list3 h
    show own_b64 (a :: b :: k :: (L' ++ R)) = _
    rw [own_b64, ih h']; rfl
theorem own_b64_len {r : Nat} : ∀ {L R : List Int32}, L.length = 3 * r → R.length < 3 → (own_b64 (L ++ R)).length = own_M (L ++ R).length ∧ (own_b64 L).length = 4 * r := by
  induction r with
  | zero =>
    intro L R h hR
    have : L = [] := List.length_eq_zero_iff.mp (by omega)
    subst this
    match R, hR with
    | [], _ => exact ⟨by simp [own_b64, own_M], by simp [own_b64]⟩
    | [_], _ => exact ⟨by simp [own_b64, own_M], by simp [own_b64]⟩
    | [_, _], _ => exact ⟨by simp [own_b64, own_M], by simp [own_b64]⟩
    | _ :: _ :: _ :: _, hR => simp at hR; omega
  | succ r ih =>
    intro L R h hR
    obtain ⟨a, b, k, L', rfl, h'⟩ := own_list3 h
    obtain ⟨e1, e2⟩ := ih h' hR
    refine ⟨?_, ?_⟩
    · show (own_b64 (a :: b :: k :: (L' ++ R))).length = own_M ((L' ++ R).length + 3)
      rw [own_b64]
      simp only [List.length_cons, e1]
      unfold own_M
      have h1 : ((L' ++ R).length + 3) % 3 = (L' ++ R).length % 3 := by omega
      rw [h1]; omega
    · rw [own_b64]; simp only [List.length_cons, e2]; omega
theorem own_b64_R (L : List Int32) : ∀ x ∈ own_b64 L, own_R x := by
  fun_induction own_b64 L <;> intro x hx <;> simp only [List.mem_cons, List.not_mem_nil, or_false] at hx
  · rename_i ih
    rcases hx with rfl | rfl | rfl | rfl | hx
    · exact own_TB _
    · exact own_TB _
    · exact own_TB _
    · exact own_TB _
    · exact ih x hx
  · rcases hx with rfl | rfl | rfl <;> exact own_TB _
  · rcases hx with rfl | rfl <;> exact own_TB _
theorem own_split (bs : List Int32) : ∃ kk L R, bs = L ++ R ∧ L.length = 3 * kk ∧ R.length < 3 := by
  refine ⟨bs.length / 3, bs.take (3 * (bs.length / 3)), bs.drop (3 * (bs.length / 3)), (List.take_append_drop _ _).symm, ?_, ?_⟩
  · rw [List.length_take]; omega
  · rw [List.length_drop]; omega
theorem own_pd_full (X : List Int32) : own_pd X.length (X.map StrChars.lo8) = own_sv X := by
  unfold own_pd; rw [List.length_map, Nat.sub_self, own_svm]; simp
theorem own_d3 {n k : Nat} (h : n ≤ 9) (hk : n / 3 = k) : ((Int32.ofNat n - 0) / 3) * 3 = Int32.ofNat (3 * k) := by
  have : ∀ n < 10, ((Int32.ofNat n - 0) / 3) * 3 = Int32.ofNat (3 * (n / 3)) := by decide +kernel
  rw [this n (by omega), hk]
theorem own_d4b {k : Nat} (h : k ≤ 3) : ((Int32.ofNat (3 * k) - 0) / 3) * 4 = Int32.ofNat (4 * k) := by
  have : ∀ k < 4, ((Int32.ofNat (3 * k) - 0) / 3) * 4 = Int32.ofNat (4 * k) := by decide +kernel
  exact this k (by omega)
theorem own_m1 {k : Nat} (h : k ≤ 3) : ¬ Int32.ofNat (4 * k) = (-1 : Int32) := by
  have : ∀ k < 4, ¬ Int32.ofNat (4 * k) = (-1 : Int32) := by decide +kernel
  exact this k (by omega)
theorem own_mx {k : Nat} (h : k ≤ 3) : Jvm.Free.XT.cmpL (((4 : Int32).toInt64 * (Int32.ofNat k).toInt64).toInt32.toInt64) ((4 : Int32).toInt64 * (Int32.ofNat k).toInt64) = 0 ∧ ((4 : Int32).toInt64 * (Int32.ofNat k).toInt64).toInt32 = Int32.ofNat (4 * k) := by
  have : ∀ k < 4, Jvm.Free.XT.cmpL (((4 : Int32).toInt64 * (Int32.ofNat k).toInt64).toInt32.toInt64) ((4 : Int32).toInt64 * (Int32.ofNat k).toInt64) = 0 ∧ ((4 : Int32).toInt64 * (Int32.ofNat k).toInt64).toInt32 = Int32.ofNat (4 * k) := by decide +kernel
  exact this k (by omega)
theorem own_ax {a b : Nat} (h : a ≤ 12) (h2 : b ≤ 3) : ¬ ((Int32.ofNat a ^^^ (Int32.ofNat a + Int32.ofNat b)) &&& (Int32.ofNat b ^^^ (Int32.ofNat a + Int32.ofNat b))) < 0 := by
  have : ∀ a < 13, ∀ b < 4, ¬ ((Int32.ofNat a ^^^ (Int32.ofNat a + Int32.ofNat b)) &&& (Int32.ofNat b ^^^ (Int32.ofNat a + Int32.ofNat b))) < 0 := by decide +kernel
  exact this a (by omega) b (by omega)
theorem own_n3 {n : Nat} (h : n ≤ 9) : Int32.ofNat n % 3 = Int32.ofNat (n % 3) ∧ Int32.ofNat n / 3 = Int32.ofNat (n / 3) ∧ (Int32.ofNat (n % 3) = 0 ↔ n % 3 = 0) := by
  have : ∀ n < 10, Int32.ofNat n % 3 = Int32.ofNat (n % 3) ∧ Int32.ofNat n / 3 = Int32.ofNat (n / 3) ∧ (Int32.ofNat (n % 3) = 0 ↔ n % 3 = 0) := by decide +kernel
  exact this n (by omega)
theorem own_orN {x : Int32} : (x ||| 0) ||| x = x := by
  apply Int32.toBitVec_inj.mp
  show (x.toBitVec ||| 0#32) ||| x.toBitVec = x.toBitVec
  simp
theorem own_irr (x : Int32) : ¬ x < x := by rw [Int32.lt_iff_toInt_lt]; omega
theorem own_lt3 {L : List Int32} (h : L.length < 3) : L = [] ∨ (∃ a, L = [a]) ∨ (∃ a b, L = [a, b]) := by
  match L, h with
  | [], _ => exact Or.inl rfl
  | [a], _ => exact Or.inr (Or.inl ⟨a, rfl⟩)
  | [a, b], _ => exact Or.inr (Or.inr ⟨a, b, rfl⟩)
  | _ :: _ :: _ :: _, h => simp at h; omega
theorem own_hpA {x y : List Int32} (hx : ∀ k ∈ x, ¬ k < 0 ∧ ¬ (255 : Int32) < k) (hy : ∀ k ∈ y, ¬ k < 0 ∧ ¬ (255 : Int32) < k) : ∀ k ∈ (((([] : List Int32) ++ x) ++ ([58] : List Int32)) ++ y), ¬ k < 0 ∧ ¬ (255 : Int32) < k := by
  intro k hc
  simp only [List.mem_append, List.mem_cons, List.not_mem_nil, or_false, false_or] at hc
  rcases hc with (hc | rfl) | hc
  · exact hx k hc
  · decide
  · exact hy k hc
theorem own_pdget {n : Nat} {bs pre r : List Int32} {k : Int32} (hc : bs = pre ++ k :: r) (hl : bs.length ≤ 4000) : (own_pd n bs).getD (Int32.ofNat pre.length).toNatClampNeg (.int 0) = .int k := by
  have h : pre.length ≤ 4000 := by rw [hc] at hl; simp at hl; omega
  rw [(own_ofNat_nn h).2, hc]
  simp [own_pd, List.getD]
theorem own_pdgetD {n i : Nat} {L : List Int32} (h : i ≤ 4000) (hi : i < L.length) : (own_pd n L).getD (Int32.ofNat i).toNatClampNeg (.int 0) = .int (L.getD i 0) := by
  rw [(own_ofNat_nn h).2]
  simp [own_pd, List.getD, List.getElem?_append_left, hi]
theorem own_subN (a b : List Int32) : Int32.ofNat (a ++ b).length - Int32.ofNat a.length = Int32.ofNat b.length := by
  rw [List.length_append, Int32.ofNat_add, Int32.add_comm, Int32.add_sub_cancel]
theorem own_rs {L : List Int32} (h : ¬ L = []) : (∃ a, L = [a]) ∨ (∃ a b, L = [a, b]) ∨ (∃ a b k R, L = a :: b :: k :: R) := by
  match L, h with
  | [], h => exact absurd rfl h
  | [a], _ => exact Or.inl ⟨a, rfl⟩
  | [a, b], _ => exact Or.inr (Or.inl ⟨a, b, rfl⟩)
  | a :: b :: k :: R, _ => exact Or.inr (Or.inr ⟨a, b, k, R, rfl⟩)
theorem own_snoc2 (a : List Int32) (x y : Int32) : Int32.ofNat a.length + 2 = Int32.ofNat ((a ++ [x]) ++ [y]).length := by
  rw [show (2 : Int32) = Int32.ofNat 2 from rfl, ← Int32.ofNat_add]; simp
theorem own_addk (A : List Int32) (k : Int32) {n : Nat} (hk : k = Int32.ofNat n) {B : List Int32} (h : B.length = A.length + n) : Int32.ofNat A.length + k = Int32.ofNat B.length := by
  rw [hk, ← Int32.ofNat_add, h]
theorem own_cut {bs : List Int32} (h1 : 1 ≤ bs.length) (h9 : bs.length ≤ 9) : bs.length ≤ 3 ∨ (∃ A B, bs = A ++ B ∧ A.length = 3 ∧ 1 ≤ B.length ∧ B.length ≤ 3) ∨ (∃ A B C, bs = (A ++ B) ++ C ∧ A.length = 3 ∧ B.length = 3 ∧ 1 ≤ C.length ∧ C.length ≤ 3) := by
  by_cases h : bs.length ≤ 3
  · exact Or.inl h
  · by_cases h6 : bs.length ≤ 6
    · exact Or.inr (Or.inl ⟨bs.take 3, bs.drop 3, (List.take_append_drop _ _).symm, by rw [List.length_take]; omega, by rw [List.length_drop]; omega, by rw [List.length_drop]; omega⟩)
    · refine Or.inr (Or.inr ⟨bs.take 3, (bs.drop 3).take 3, (bs.drop 3).drop 3, ?_, by rw [List.length_take]; omega, by rw [List.length_take, List.length_drop]; omega, by rw [List.length_drop, List.length_drop]; omega, by rw [List.length_drop, List.length_drop]; omega⟩)
      rw [List.append_assoc, List.take_append_drop, List.take_append_drop]
theorem own_tkA {A B : List Int32} (h : A.length = 3) : (A ++ B).take 3 = A := by rw [← h]; exact List.take_left
theorem own_tkB {A : List Int32} (h : A.length ≤ 3) : A.take 3 = A := List.take_of_length_le h
theorem own_ne {A : List Int32} (h : 1 ≤ A.length) : ¬ A = [] := fun q => by rw [q] at h; simp at h
theorem own_b12 {bs : List Int32} (h : bs.length ≤ 9) : (own_b64 bs).length ≤ 12 := by
  obtain ⟨kk, L, R, rfl, h1, h2⟩ := own_split bs
  rw [(own_b64_len h1 h2).1]; unfold own_M; split <;> omega
theorem own_01 {n : Int32} (h : ¬ 0 < n) : ¬ (1 : Int32) < n := by
  rw [Int32.lt_iff_toInt_lt] at *
  have e0 : (0 : Int32).toInt = 0 := rfl
  have e1 : (1 : Int32).toInt = 1 := rfl
  omega
theorem own_c8_58 : own_c8 58 = [58] := rfl

theorem own_coder (l : Launch) (Z : State) (a0 : Array Value) (hw : ∀ d ∈ tables_1, d.before a0 Z = true) (G1 : Int32) (G3 : Value) (x : Addr) (h0 : Heap) (n0 : Nat) (z0 : n0 ≤ h0.size) (X00 : Old Z n0 h0) (pC : Fld Z h0 x "java/lang/String" "coder" "B" (.int 0)) (O2 : Sta Z Z.heap "java/lang/String" "COMPACT_STRINGS" "Z" (.int G1)) (O4 : Sta Z Z.heap "jdk/internal/util/Preconditions" "SIOOBE_FORMATTER" "Ljava/util/function/BiFunction;" G3) (P5 : ¬ G1 = (0 : Int32)) (rG3 : G3.isRef = true) :
    own_Met l Z (⟨"java/lang/String", "coder", "()B"⟩ : MethodName) jdk_42_method_152_code 1 (some .byte) ({ frames := 0, cells := 0, slots := 0, locals := 0 } : Room) n0 #[(.ref x)] h0 (fun v h => v = some (.int 0) ∧ h = h0) := by
  refine own_met (by decide +kernel) #[.val (.ref x)] (fun m => by first | (simp [entryFrame, mkF, argsToLocals, Value.category]; done) | rfl) ?_
  intro p e s m below meth c T0 C S0
  refine own_getS C S0 (own_wd hw 18 rfl) Via.refl (O2.ext X00.2) (by decide +kernel) ?_
  intro T1 S2
  refine own_if C S2 (q := .eq) (o := 10) (by decide +kernel) 13 (by decide) (by decide) (fun (hq : G1 = (0 : Int32)) => False.elim (P5 hq)) (fun (q3 : ¬ G1 = (0 : Int32)) => ?_)
  refine own_seg C S2 [(6, .aload_n 0, 1)] (by decide +kernel) 7 #[.val (.ref x)] [(.ref x)] rfl ?_
  refine own_getF C S2 (host := "") (Or.inl (own_wd hw 30 rfl)) Via.refl pC (by decide +kernel) ?_
  intro T4 S5
  refine own_seg C S5 [(10, .goto 4, 3)] (by decide +kernel) 14 #[.val (.ref x)] [(.int 0)] rfl ?_
  refine own_retB C S5 (by decide +kernel) rfl (by decide) (by decide) ?_
  exact ⟨rfl, rfl⟩
theorem own_pd0 : parseMethodDescriptor "()B" = some ⟨[], (some .byte)⟩ := by decide +kernel
theorem own_len (l : Launch) (Z : State) (a0 : Array Value) (hw : ∀ d ∈ tables_1, d.before a0 Z = true) (G1 : Int32) (G3 : Value) (x : Addr) (t : Addr) (tk : ClassId) (N : Int32) (vs : List Value) (h0 : Heap) (n0 : Nat) (z0 : n0 ≤ h0.size) (X00 : Old Z n0 h0) (xE : Exa Z h0 x "java/lang/String") (xV : Fld Z h0 x "java/lang/String" "value" "[B" (.ref t)) (xC : Fld Z h0 x "java/lang/String" "coder" "B" (.int 0)) (tK : Arv Z h0 t tk .byte N vs (.int 0)) (O2 : Sta Z Z.heap "java/lang/String" "COMPACT_STRINGS" "Z" (.int G1)) (O4 : Sta Z Z.heap "jdk/internal/util/Preconditions" "SIOOBE_FORMATTER" "Ljava/util/function/BiFunction;" G3) (P5 : ¬ G1 = (0 : Int32)) (rG3 : G3.isRef = true) :
    own_Met l Z (⟨"java/lang/String", "length", "()I"⟩ : MethodName) jdk_42_method_54_code 1 (some .int) ({ frames := 1, cells := 0, slots := 0, locals := 13 } : Room) n0 #[(.ref x)] h0 (fun v h => v = some (.int (N >>> ((0 : Int32) &&& 31))) ∧ h = h0) := by
  refine own_met (by decide +kernel) #[.val (.ref x)] (fun m => by first | (simp [entryFrame, mkF, argsToLocals, Value.category]; done) | rfl) ?_
  intro p e s m below meth c T0 C S0
  refine own_seg C S0 [(0, .aload_n 0, 1)] (by decide +kernel) 1 #[.val (.ref x)] [(.ref x)] rfl ?_
  refine own_getF C S0 (host := "") (Or.inl (own_wd hw 32 rfl)) Via.refl xV (by decide +kernel) ?_
  intro T6 S7
  refine own_alen C S7 tK (by decide +kernel) ?_
  refine own_seg C S7 [(5, .aload_n 0, 1)] (by decide +kernel) 6 #[.val (.ref x)] [(.ref x), (.int N)] rfl ?_
  refine own_callV C S7 (own_wd hw 110 rfl) (own_wd hw 111 rfl) (own_wd hw 113 rfl) (own_wd hw 113 rfl) rfl (own_wd hw 112 rfl) (by decide) (own_Met.pay (own_coder l Z a0 hw G1 G3 x h0 n0 z0 X00 xC O2 O4 P5 rG3) C 1 (own_wd hw 114 rfl) (own_wd hw 6 rfl) (by decide) (by decide)) (fun _ _ _ q => q.2) xE [] [(.int N)] rfl own_pd0 rfl rfl rfl (Nat.le_of_ble_eq_true rfl) (by decide) (by decide) (by decide +kernel) ?_
  rintro T9 h10 v11 L12 S13 ⟨⟨rfl, e8⟩, -⟩
  rw [e8] at S13; clear e8
  show own_Go p e below _ T9 (mkF m 9 #[.val (.ref x)] [(.int 0), (.int N)])
  refine own_seg C S13 [(9, .ishr, 1)] (by decide +kernel) 10 #[.val (.ref x)] [(.int (N >>> (0 &&& 31)))] rfl ?_
  refine own_retI C S13 (by decide +kernel) (by decide) (by decide) ?_
  exact ⟨rfl, rfl⟩
theorem own_min (l : Launch) (Z : State) (a0 : Array Value) (hw : ∀ d ∈ tables_1, d.before a0 Z = true) (x1 : Int32) (x2 : Int32) (h0 : Heap) (n0 : Nat) (z0 : n0 ≤ h0.size) :
    own_Met l Z (⟨"java/lang/Math", "min", "(II)I"⟩ : MethodName) jdk_29_method_69_code 2 (some .int) ({ frames := 0, cells := 0, slots := 0, locals := 0 } : Room) n0 #[(.int x1), (.int x2)] h0 (fun v h => v = some (.int (if x2 < x1 then x2 else x1)) ∧ h = h0) := by
  refine own_met (by decide +kernel) #[.val (.int x1), .val (.int x2)] (fun m => by first | (simp [entryFrame, mkF, argsToLocals, Value.category]; done) | rfl) ?_
  intro p e s m below meth c T0 C S0
  refine own_seg C S0 [(0, .iload_n 0, 1), (1, .iload_n 1, 1)] (by decide +kernel) 2 #[.val (.int x1), .val (.int x2)] [(.int x2), (.int x1)] rfl ?_
  refine own_icmp C S0 (q := .gt) (o := 7) (by decide +kernel) 9 (by decide) (by decide) (fun (q14 : x2 < x1) => ?_) (fun (q15 : ¬ x2 < x1) => ?_)
  · refine own_seg C S0 [(9, .iload_n 1, 1)] (by decide +kernel) 10 #[.val (.int x1), .val (.int x2)] [(.int x2)] rfl ?_
    refine own_retI C S0 (by decide +kernel) (by decide) (by decide) ?_
    exact ⟨by rw [if_pos q14], rfl⟩
  · refine own_seg C S0 [(5, .iload_n 0, 1), (6, .goto 4, 3)] (by decide +kernel) 10 #[.val (.int x1), .val (.int x2)] [(.int x1)] rfl ?_
    refine own_retI C S0 (by decide +kernel) (by decide) (by decide) ?_
    exact ⟨by rw [if_neg q15], rfl⟩
theorem own_isL (l : Launch) (Z : State) (a0 : Array Value) (hw : ∀ d ∈ tables_1, d.before a0 Z = true) (G1 : Int32) (G3 : Value) (x : Addr) (h0 : Heap) (n0 : Nat) (z0 : n0 ≤ h0.size) (X00 : Old Z n0 h0) (pC : Fld Z h0 x "java/lang/String" "coder" "B" (.int 0)) (O2 : Sta Z Z.heap "java/lang/String" "COMPACT_STRINGS" "Z" (.int G1)) (O4 : Sta Z Z.heap "jdk/internal/util/Preconditions" "SIOOBE_FORMATTER" "Ljava/util/function/BiFunction;" G3) (P5 : ¬ G1 = (0 : Int32)) (rG3 : G3.isRef = true) :
    own_Met l Z (⟨"java/lang/String", "isLatin1", "()Z"⟩ : MethodName) jdk_42_method_154_code 1 (some .boolean) ({ frames := 0, cells := 0, slots := 0, locals := 0 } : Room) n0 #[(.ref x)] h0 (fun v h => v = some (.int 1) ∧ h = h0) := by
  refine own_met (by decide +kernel) #[.val (.ref x)] (fun m => by first | (simp [entryFrame, mkF, argsToLocals, Value.category]; done) | rfl) ?_
  intro p e s m below meth c T0 C S0
  refine own_getS C S0 (own_wd hw 18 rfl) Via.refl (O2.ext X00.2) (by decide +kernel) ?_
  intro T16 S17
  refine own_if C S17 (q := .eq) (o := 14) (by decide +kernel) 17 (by decide) (by decide) (fun (hq : G1 = (0 : Int32)) => False.elim (P5 hq)) (fun (q18 : ¬ G1 = (0 : Int32)) => ?_)
  refine own_seg C S17 [(6, .aload_n 0, 1)] (by decide +kernel) 7 #[.val (.ref x)] [(.ref x)] rfl ?_
  refine own_getF C S17 (host := "") (Or.inl (own_wd hw 30 rfl)) Via.refl pC (by decide +kernel) ?_
  intro T19 S20
  refine own_if C S20 (q := .ne) (o := 7) (by decide +kernel) 17 (by decide) (by decide) (fun (hq : ¬ 0 = (0 : Int32)) => False.elim (hq rfl)) (fun (q21 : 0 = (0 : Int32)) => ?_)
  refine own_seg C S20 [(13, .iconst 1, 1), (14, .goto 4, 3)] (by decide +kernel) 18 #[.val (.ref x)] [(.int 1)] rfl ?_
  refine own_retZ C S20 (by decide +kernel) (by decide) (by decide) (by decide) ?_
  exact ⟨rfl, rfl⟩
theorem own_pciN (l : Launch) (Z : State) (a0 : Array Value) (hw : ∀ d ∈ tables_1, d.before a0 Z = true) (j : Int32) (n : Int32) (h0 : Heap) (n0 : Nat) (z0 : n0 ≤ h0.size) (hi : ¬ j < 0 ∧ j < n) :
    own_Met l Z (⟨"jdk/internal/util/Preconditions", "checkIndex", "(IILjava/util/function/BiFunction;)I"⟩ : MethodName) jdk_41_method_11_code 3 (some .int) ({ frames := 0, cells := 0, slots := 0, locals := 0 } : Room) n0 #[(.int j), (.int n), .null] h0 (fun v h => v = some (.int j) ∧ h = h0) := by
  refine own_met (by decide +kernel) #[.val (.int j), .val (.int n), .val .null] (fun m => by first | (simp [entryFrame, mkF, argsToLocals, Value.category]; done) | rfl) ?_
  intro p e s m below meth c T0 C S0
  refine own_seg C S0 [(0, .iload_n 0, 1)] (by decide +kernel) 1 #[.val (.int j), .val (.int n), .val .null] [(.int j)] rfl ?_
  refine own_if C S0 (q := .lt) (o := 8) (by decide +kernel) 9 (by decide) (by decide) (fun (hq : j < (0 : Int32)) => False.elim (hi.1 hq)) (fun (q22 : ¬ j < (0 : Int32)) => ?_)
  refine own_seg C S0 [(4, .iload_n 0, 1), (5, .iload_n 1, 1)] (by decide +kernel) 6 #[.val (.int j), .val (.int n), .val .null] [(.int n), (.int j)] rfl ?_
  refine own_icmp C S0 (q := .lt) (o := 10) (by decide +kernel) 16 (by decide) (by decide) (fun (q23 : j < n) => ?_) (fun (hq : ¬ j < n) => False.elim (hq hi.2))
  refine own_seg C S0 [(16, .iload_n 0, 1)] (by decide +kernel) 17 #[.val (.int j), .val (.int n), .val .null] [(.int j)] rfl ?_
  refine own_retI C S0 (by decide +kernel) (by decide) (by decide) ?_
  exact ⟨rfl, rfl⟩
theorem own_pciR (l : Launch) (Z : State) (a0 : Array Value) (hw : ∀ d ∈ tables_1, d.before a0 Z = true) (j : Int32) (n : Int32) (g : Addr) (h0 : Heap) (n0 : Nat) (z0 : n0 ≤ h0.size) (hi : ¬ j < 0 ∧ j < n) :
    own_Met l Z (⟨"jdk/internal/util/Preconditions", "checkIndex", "(IILjava/util/function/BiFunction;)I"⟩ : MethodName) jdk_41_method_11_code 3 (some .int) ({ frames := 0, cells := 0, slots := 0, locals := 0 } : Room) n0 #[(.int j), (.int n), (.ref g)] h0 (fun v h => v = some (.int j) ∧ h = h0) := by
  refine own_met (by decide +kernel) #[.val (.int j), .val (.int n), .val (.ref g)] (fun m => by first | (simp [entryFrame, mkF, argsToLocals, Value.category]; done) | rfl) ?_
  intro p e s m below meth c T0 C S0
  refine own_seg C S0 [(0, .iload_n 0, 1)] (by decide +kernel) 1 #[.val (.int j), .val (.int n), .val (.ref g)] [(.int j)] rfl ?_
  refine own_if C S0 (q := .lt) (o := 8) (by decide +kernel) 9 (by decide) (by decide) (fun (hq : j < (0 : Int32)) => False.elim (hi.1 hq)) (fun (q24 : ¬ j < (0 : Int32)) => ?_)
  refine own_seg C S0 [(4, .iload_n 0, 1), (5, .iload_n 1, 1)] (by decide +kernel) 6 #[.val (.int j), .val (.int n), .val (.ref g)] [(.int n), (.int j)] rfl ?_
  refine own_icmp C S0 (q := .lt) (o := 10) (by decide +kernel) 16 (by decide) (by decide) (fun (q25 : j < n) => ?_) (fun (hq : ¬ j < n) => False.elim (hq hi.2))
  refine own_seg C S0 [(16, .iload_n 0, 1)] (by decide +kernel) 17 #[.val (.int j), .val (.int n), .val (.ref g)] [(.int j)] rfl ?_
  refine own_retI C S0 (by decide +kernel) (by decide) (by decide) ?_
  exact ⟨rfl, rfl⟩
theorem own_pd1 : parseMethodDescriptor "(IILjava/util/function/BiFunction;)I" = some ⟨[.int, .int, (.object "java/util/function/BiFunction")], (some .int)⟩ := by decide +kernel
theorem own_sci (l : Launch) (Z : State) (a0 : Array Value) (hw : ∀ d ∈ tables_1, d.before a0 Z = true) (G1 : Int32) (G3 : Value) (j : Int32) (n : Int32) (h0 : Heap) (n0 : Nat) (z0 : n0 ≤ h0.size) (X00 : Old Z n0 h0) (O2 : Sta Z Z.heap "java/lang/String" "COMPACT_STRINGS" "Z" (.int G1)) (O4 : Sta Z Z.heap "jdk/internal/util/Preconditions" "SIOOBE_FORMATTER" "Ljava/util/function/BiFunction;" G3) (P5 : ¬ G1 = (0 : Int32)) (rG3 : G3.isRef = true) (hi : ¬ j < 0 ∧ j < n) :
    own_Met l Z (⟨"java/lang/String", "checkIndex", "(II)V"⟩ : MethodName) jdk_42_method_155_code 2 none ({ frames := 1, cells := 0, slots := 0, locals := 14 } : Room) n0 #[(.int j), (.int n)] h0 (fun v h => v = none ∧ h = h0) := by
  refine own_met (by decide +kernel) #[.val (.int j), .val (.int n)] (fun m => by first | (simp [entryFrame, mkF, argsToLocals, Value.category]; done) | rfl) ?_
  intro p e s m below meth c T0 C S0
  refine own_seg C S0 [(0, .iload_n 0, 1), (1, .iload_n 1, 1)] (by decide +kernel) 2 #[.val (.int j), .val (.int n)] [(.int n), (.int j)] rfl ?_
  rcases ref_cases rG3 with e3 | ⟨g, e3⟩
  · subst e3
    refine own_getS C S0 (own_wd hw 259 rfl) Via.refl (O4.ext X00.2) (by decide +kernel) ?_
    intro T26 S27
    refine own_callS C S27 (own_wd hw 287 rfl) (own_wd hw 288 rfl) (own_wd hw 260 rfl) (own_wd hw 289 rfl) (by decide) (own_Met.pay (own_pciN l Z a0 hw j n h0 n0 z0 hi) C 0 (own_wd hw 289 rfl) (own_wd hw 260 rfl) (by decide) (by decide)) (fun _ _ _ q => q.2) [(.int j), (.int n), .null] [] rfl own_pd1 rfl rfl rfl (Nat.le_of_ble_eq_true rfl) (by decide) (by decide) (by decide +kernel) ?_
    rintro T29 h30 v31 L32 S33 ⟨⟨rfl, e28⟩, -⟩
    rw [e28] at S33; clear e28
    show own_Go p e below _ T29 (mkF m 8 #[.val (.int j), .val (.int n)] [(.int j)])
    refine own_seg C S33 [(8, .pop, 1)] (by decide +kernel) 9 #[.val (.int j), .val (.int n)] [] rfl ?_
    refine own_retV C S33 (by decide +kernel) (by decide) (by decide) ?_
    exact ⟨rfl, rfl⟩
  · subst e3
    refine own_getS C S0 (own_wd hw 259 rfl) Via.refl (O4.ext X00.2) (by decide +kernel) ?_
    intro T34 S35
    refine own_callS C S35 (own_wd hw 287 rfl) (own_wd hw 288 rfl) (own_wd hw 260 rfl) (own_wd hw 289 rfl) (by decide) (own_Met.pay (own_pciR l Z a0 hw j n g h0 n0 z0 hi) C 0 (own_wd hw 289 rfl) (own_wd hw 260 rfl) (by decide) (by decide)) (fun _ _ _ q => q.2) [(.int j), (.int n), (.ref g)] [] rfl own_pd1 rfl rfl rfl (Nat.le_of_ble_eq_true rfl) (by decide) (by decide) (by decide +kernel) ?_
    rintro T37 h38 v39 L40 S41 ⟨⟨rfl, e36⟩, -⟩
    rw [e36] at S41; clear e36
    show own_Go p e below _ T37 (mkF m 8 #[.val (.int j), .val (.int n)] [(.int j)])
    refine own_seg C S41 [(8, .pop, 1)] (by decide +kernel) 9 #[.val (.int j), .val (.int n)] [] rfl ?_
    refine own_retV C S41 (by decide +kernel) (by decide) (by decide) ?_
    exact ⟨rfl, rfl⟩
theorem own_pd2 : parseMethodDescriptor "(II)V" = some ⟨[.int, .int], none⟩ := by decide +kernel
theorem own_lch (l : Launch) (Z : State) (a0 : Array Value) (hw : ∀ d ∈ tables_1, d.before a0 Z = true) (G1 : Int32) (G3 : Value) (t : Addr) (tk : ClassId) (N : Int32) (vs : List Value) (j : Int32) (bv : Int32) (cc : Int32) (h0 : Heap) (n0 : Nat) (z0 : n0 ≤ h0.size) (X00 : Old Z n0 h0) (tK : Arv Z h0 t tk .byte N vs (.int 0)) (O2 : Sta Z Z.heap "java/lang/String" "COMPACT_STRINGS" "Z" (.int G1)) (O4 : Sta Z Z.heap "jdk/internal/util/Preconditions" "SIOOBE_FORMATTER" "Ljava/util/function/BiFunction;" G3) (P5 : ¬ G1 = (0 : Int32)) (rG3 : G3.isRef = true) (hi : ¬ j < 0 ∧ j < N) (hv : vs.getD j.toNatClampNeg (.int 0) = .int bv) (hcc : (bv &&& (255 : Int32)).toUInt32.toUInt16.toUInt32.toInt32 = cc) (hcz : cc.toUInt32.toUInt16.toUInt32.toInt32 = cc) :
    own_Met l Z (⟨"java/lang/StringLatin1", "charAt", "([BI)C"⟩ : MethodName) jdk_43_method_2_code 2 (some .char) ({ frames := 2, cells := 0, slots := 0, locals := 27 } : Room) n0 #[(.ref t), (.int j)] h0 (fun v h => v = some (.int cc) ∧ h = h0) := by
  refine own_met (by decide +kernel) #[.val (.ref t), .val (.int j)] (fun m => by first | (simp [entryFrame, mkF, argsToLocals, Value.category]; done) | rfl) ?_
  intro p e s m below meth c T0 C S0
  refine own_seg C S0 [(0, .iload_n 1, 1), (1, .aload_n 0, 1)] (by decide +kernel) 2 #[.val (.ref t), .val (.int j)] [(.ref t), (.int j)] rfl ?_
  refine own_alen C S0 tK (by decide +kernel) ?_
  refine own_callS C S0 (own_wd hw 284 rfl) (own_wd hw 285 rfl) (own_wd hw 6 rfl) (own_wd hw 286 rfl) (by decide) (own_Met.pay (own_sci l Z a0 hw G1 G3 j N h0 n0 z0 X00 O2 O4 P5 rG3 hi) C 0 (own_wd hw 286 rfl) (own_wd hw 6 rfl) (by decide) (by decide)) (fun _ _ _ q => q.2) [(.int j), (.int N)] [] rfl own_pd2 rfl rfl rfl (Nat.le_of_ble_eq_true rfl) (by decide) (by decide) (by decide +kernel) ?_
  rintro T43 h44 v45 L46 S47 ⟨⟨rfl, e42⟩, -⟩
  rw [e42] at S47; clear e42
  show own_Go p e below _ T43 (mkF m 6 #[.val (.ref t), .val (.int j)] [])
  refine own_seg C S47 [(6, .aload_n 0, 1), (7, .iload_n 1, 1)] (by decide +kernel) 8 #[.val (.ref t), .val (.int j)] [(.int j), (.ref t)] rfl ?_
  refine own_baload C S47 tK hi (.int bv) hv (by decide +kernel) ?_
  refine own_seg C S47 [(9, .sipush 255, 3), (12, .iand, 1), (13, .i2c, 1)] (by decide +kernel) 14 #[.val (.ref t), .val (.int j)] [(.int ((bv &&& (255 : Int32)).toUInt32.toUInt16.toUInt32.toInt32))] rfl ?_
  rw [show (bv &&& (255 : Int32)).toUInt32.toUInt16.toUInt32.toInt32 = cc from hcc]
  refine own_retC C S47 (by decide +kernel) hcz (by decide) (by decide) ?_
  exact ⟨rfl, rfl⟩
theorem own_pd3 : parseMethodDescriptor "()Z" = some ⟨[], (some .boolean)⟩ := by decide +kernel
theorem own_pd4 : parseMethodDescriptor "([BI)C" = some ⟨[(.array .byte), .int], (some .char)⟩ := by decide +kernel
theorem own_sch (l : Launch) (Z : State) (a0 : Array Value) (hw : ∀ d ∈ tables_1, d.before a0 Z = true) (G1 : Int32) (G3 : Value) (x : Addr) (t : Addr) (tk : ClassId) (N : Int32) (vs : List Value) (j : Int32) (bv : Int32) (cc : Int32) (h0 : Heap) (n0 : Nat) (z0 : n0 ≤ h0.size) (X00 : Old Z n0 h0) (xE : Exa Z h0 x "java/lang/String") (xV : Fld Z h0 x "java/lang/String" "value" "[B" (.ref t)) (xC : Fld Z h0 x "java/lang/String" "coder" "B" (.int 0)) (tK : Arv Z h0 t tk .byte N vs (.int 0)) (O2 : Sta Z Z.heap "java/lang/String" "COMPACT_STRINGS" "Z" (.int G1)) (O4 : Sta Z Z.heap "jdk/internal/util/Preconditions" "SIOOBE_FORMATTER" "Ljava/util/function/BiFunction;" G3) (P5 : ¬ G1 = (0 : Int32)) (rG3 : G3.isRef = true) (hi : ¬ j < 0 ∧ j < N) (hv : vs.getD j.toNatClampNeg (.int 0) = .int bv) (hcc : (bv &&& (255 : Int32)).toUInt32.toUInt16.toUInt32.toInt32 = cc) (hcz : cc.toUInt32.toUInt16.toUInt32.toInt32 = cc) :
    own_Met l Z (⟨"java/lang/String", "charAt", "(I)C"⟩ : MethodName) jdk_42_method_56_code 2 (some .char) ({ frames := 3, cells := 0, slots := 0, locals := 40 } : Room) n0 #[(.ref x), (.int j)] h0 (fun v h => v = some (.int cc) ∧ h = h0) := by
  refine own_met (by decide +kernel) #[.val (.ref x), .val (.int j)] (fun m => by first | (simp [entryFrame, mkF, argsToLocals, Value.category]; done) | rfl) ?_
  intro p e s m below meth c T0 C S0
  refine own_seg C S0 [(0, .aload_n 0, 1)] (by decide +kernel) 1 #[.val (.ref x), .val (.int j)] [(.ref x)] rfl ?_
  refine own_callV C S0 (own_wd hw 275 rfl) (own_wd hw 276 rfl) (own_wd hw 278 rfl) (own_wd hw 278 rfl) rfl (own_wd hw 277 rfl) (by decide) (own_Met.pay (own_isL l Z a0 hw G1 G3 x h0 n0 z0 X00 xC O2 O4 P5 rG3) C 0 (own_wd hw 279 rfl) (own_wd hw 6 rfl) (by decide) (by decide)) (fun _ _ _ q => q.2) xE [] [] rfl own_pd3 rfl rfl rfl (Nat.le_of_ble_eq_true rfl) (by decide) (by decide) (by decide +kernel) ?_
  rintro T49 h50 v51 L52 S53 ⟨⟨rfl, e48⟩, -⟩
  rw [e48] at S53; clear e48
  show own_Go p e below _ T49 (mkF m 4 #[.val (.ref x), .val (.int j)] [(.int 1)])
  refine own_if C S53 (q := .eq) (o := 12) (by decide +kernel) 16 (by decide) (by decide) (fun (hq : (1 : Int32) = (0 : Int32)) => False.elim (absurd hq (by decide))) (fun (q54 : ¬ (1 : Int32) = (0 : Int32)) => ?_)
  refine own_seg C S53 [(7, .aload_n 0, 1)] (by decide +kernel) 8 #[.val (.ref x), .val (.int j)] [(.ref x)] rfl ?_
  refine own_getF C S53 (host := "") (Or.inl (own_wd hw 32 rfl)) Via.refl xV (by decide +kernel) ?_
  intro T55 S56
  refine own_seg C S56 [(11, .iload_n 1, 1)] (by decide +kernel) 12 #[.val (.ref x), .val (.int j)] [(.int j), (.ref t)] rfl ?_
  refine own_callS C S56 (own_wd hw 280 rfl) (own_wd hw 281 rfl) (own_wd hw 282 rfl) (own_wd hw 283 rfl) (by decide) (own_Met.pay (own_lch l Z a0 hw G1 G3 t _ _ _ j bv cc h0 n0 z0 X00 tK O2 O4 P5 rG3 hi hv hcc hcz) C 0 (own_wd hw 283 rfl) (own_wd hw 282 rfl) (by decide) (by decide)) (fun _ _ _ q => q.2) [(.ref t), (.int j)] [] rfl own_pd4 rfl rfl rfl (Nat.le_of_ble_eq_true rfl) (by decide) (by decide) (by decide +kernel) ?_
  rintro T58 h59 v60 L61 S62 ⟨⟨rfl, e57⟩, -⟩
  rw [e57] at S62; clear e57
  show own_Go p e below _ T58 (mkF m 15 #[.val (.ref x), .val (.int j)] [(.int cc)])
  refine own_retC C S62 (by decide +kernel) hcz (by decide) (by decide) ?_
  exact ⟨rfl, rfl⟩
theorem own_fd0 : parseFieldDescriptor "[B" = some (.array .byte) := by decide +kernel
theorem own_fd1 : parseFieldDescriptor "B" = some .byte := by decide +kernel
theorem own_sn0 {Z : State} {a0 : Array Value} (hw : ∀ d ∈ tables_1, d.before a0 Z = true) : Jvm.RoadKit.slotOf Z "java/lang/AbstractStringBuilder" "coder" "B" ≠ Jvm.RoadKit.slotOf Z "java/lang/AbstractStringBuilder" "value" "[B" := slot_ne (Or.inl (own_wd hw 94 rfl)) (Or.inl (own_wd hw 92 rfl)) (by decide) own_fd1 own_fd0
theorem own_sn1 {Z : State} {a0 : Array Value} (hw : ∀ d ∈ tables_1, d.before a0 Z = true) : Jvm.RoadKit.slotOf Z "java/lang/AbstractStringBuilder" "value" "[B" ≠ Jvm.RoadKit.slotOf Z "java/lang/AbstractStringBuilder" "coder" "B" := slot_ne (Or.inl (own_wd hw 92 rfl)) (Or.inl (own_wd hw 94 rfl)) (by decide) own_fd0 own_fd1
theorem own_fd2 : parseFieldDescriptor "I" = some .int := by decide +kernel
theorem own_sn2 {Z : State} {a0 : Array Value} (hw : ∀ d ∈ tables_1, d.before a0 Z = true) : Jvm.RoadKit.slotOf Z "java/lang/AbstractStringBuilder" "count" "I" ≠ Jvm.RoadKit.slotOf Z "java/lang/AbstractStringBuilder" "value" "[B" := slot_ne (Or.inl (own_wd hw 116 rfl)) (Or.inl (own_wd hw 92 rfl)) (by decide) own_fd2 own_fd0
theorem own_sn3 {Z : State} {a0 : Array Value} (hw : ∀ d ∈ tables_1, d.before a0 Z = true) : Jvm.RoadKit.slotOf Z "java/lang/AbstractStringBuilder" "count" "I" ≠ Jvm.RoadKit.slotOf Z "java/lang/AbstractStringBuilder" "coder" "B" := slot_ne (Or.inl (own_wd hw 116 rfl)) (Or.inl (own_wd hw 94 rfl)) (by decide) own_fd2 own_fd1
theorem own_asbI (l : Launch) (Z : State) (a0 : Array Value) (hw : ∀ d ∈ tables_1, d.before a0 Z = true) (G1 : Int32) (G3 : Value) (a : Addr) (h0 : Heap) (n0 : Nat) (z0 : n0 ≤ h0.size) (ge_a : n0 ≤ a) (X00 : Old Z n0 h0) (aE : Exa Z h0 a "java/lang/StringBuilder") (aV : Fld Z h0 a "java/lang/AbstractStringBuilder" "value" "[B" .null) (aC : Fld Z h0 a "java/lang/AbstractStringBuilder" "coder" "B" (.int 0)) (aN : Fld Z h0 a "java/lang/AbstractStringBuilder" "count" "I" (.int 0)) (O2 : Sta Z Z.heap "java/lang/String" "COMPACT_STRINGS" "Z" (.int G1)) (O4 : Sta Z Z.heap "jdk/internal/util/Preconditions" "SIOOBE_FORMATTER" "Ljava/util/function/BiFunction;" G3) (P5 : ¬ G1 = (0 : Int32)) (rG3 : G3.isRef = true) :
    own_Met l Z (⟨"java/lang/AbstractStringBuilder", "<init>", "(I)V"⟩ : MethodName) jdk_68_method_2_code 2 none ({ frames := 1, cells := 1, slots := 16, locals := 12 } : Room) n0 #[(.ref a), (.int 16)] h0 (fun v h => ∃ b : Addr, ∃ bk : ClassId, v = none ∧ h0.size ≤ b ∧ Keep h0 h [a] ∧ Exa Z h a "java/lang/StringBuilder" ∧ Fld Z h a "java/lang/AbstractStringBuilder" "value" "[B" (.ref b) ∧ Fld Z h a "java/lang/AbstractStringBuilder" "coder" "B" (.int 0) ∧ Fld Z h a "java/lang/AbstractStringBuilder" "count" "I" (.int 0) ∧ Arv Z h b bk .byte (16 : Int32) ([(.int 0), (.int 0), (.int 0), (.int 0), (.int 0), (.int 0), (.int 0), (.int 0), (.int 0), (.int 0), (.int 0), (.int 0), (.int 0), (.int 0), (.int 0), (.int 0)]) (.int 0)) := by
  refine own_met (by decide +kernel) #[.val (.ref a), .val (.int 16)] (fun m => by first | (simp [entryFrame, mkF, argsToLocals, Value.category]; done) | rfl) ?_
  intro p e s m below meth c T0 C S0
  refine own_seg C S0 [(0, .aload_n 0, 1)] (by decide +kernel) 1 #[.val (.ref a), .val (.int 16)] [(.ref a)] rfl ?_
  refine own_initO C S0 (own_wd hw 89 rfl) (own_wd hw 16 rfl) (own_wd hw 17 rfl) rfl (by decide +kernel) (by decide) 0 (Nat.le_of_ble_eq_true rfl) (by decide) ?_
  intro T63 S64
  refine own_getS C S64 (own_wd hw 90 rfl) Via.refl (O2.ext X00.2) (by decide +kernel) ?_
  intro T65 S66
  refine own_if C S66 (q := .eq) (o := 18) (by decide +kernel) 25 (by decide) (by decide) (fun (hq : G1 = (0 : Int32)) => False.elim (P5 hq)) (fun (q67 : ¬ G1 = (0 : Int32)) => ?_)
  refine own_seg C S66 [(10, .aload_n 0, 1), (11, .iload_n 1, 1)] (by decide +kernel) 12 #[.val (.ref a), .val (.int 16)] [(.int 16), (.ref a)] rfl ?_
  refine own_newPE C S66 (aty := .byte) (ad := "[B") (by decide) (own_wd hw 23 rfl) (by decide +kernel) (by decide) 16 (by decide) (by decide) (by decide) (by decide) ?_
  intro T68 h70 a71 k72 S69 g73 E74 f75 x76
  have f77 : Arv Z h70 a71 k72 .byte (16 : Int32) ([(.int 0), (.int 0), (.int 0), (.int 0), (.int 0), (.int 0), (.int 0), (.int 0), (.int 0), (.int 0), (.int 0), (.int 0), (.int 0), (.int 0), (.int 0), (.int 0)]) (.int 0) := Arv.pad f75 (pad_rep [] (.int 0) 16)
  have f78 := (Fld.ext E74 aV)
  have f79 := (Exa.ext E74 aE)
  refine own_putF C S69 (ty := (.array .byte)) (host := "") (Or.inl (own_wd hw 91 rfl)) Via.refl f78 f79 (Or.inl (own_wd hw 92 rfl)) (own_wd hw 78 rfl) own_fd0 rfl rfl ge_a (by decide +kernel) ?_
  intro T80 h82 S81 W83
  have f84 : Fld Z h82 a "java/lang/AbstractStringBuilder" "value" "[B" (.ref a71) := Fld.same W83 f78
  refine own_seg C S81 [(17, .aload_n 0, 1), (18, .iconst 0, 1)] (by decide +kernel) 19 #[.val (.ref a), .val (.int 16)] [(.int 0), (.ref a)] rfl ?_
  have f85 := (Fld.other W83 (Fld.ext E74 aC) (Or.inr (own_sn0 hw)))
  have f86 := (Exa.wr W83 f79)
  refine own_putF C S81 (ty := .byte) (host := "") (Or.inl (own_wd hw 93 rfl)) Via.refl f85 f86 (Or.inl (own_wd hw 94 rfl)) (own_wd hw 78 rfl) own_fd1 rfl rfl ge_a (by decide +kernel) ?_
  intro T87 h89 S88 W90
  have f91 : Fld Z h89 a "java/lang/AbstractStringBuilder" "coder" "B" (.int 0) := Fld.same W90 f85
  refine own_seg C S88 [(22, .goto 16, 3)] (by decide +kernel) 38 #[.val (.ref a), .val (.int 16)] [] rfl ?_
  refine own_retV C S88 (by decide +kernel) (by decide) (by decide) ?_
  have o92 : h0.size ≤ a71 := by rw [g73]; exact (Nat.le_refl _)
  have f93 := (Exa.wr W90 f86)
  have f94 := (Fld.other W90 f84 (Or.inr (own_sn1 hw)))
  have f95 := (Fld.other W90 (Fld.other W83 (Fld.ext E74 aN) (Or.inr (own_sn2 hw))) (Or.inr (own_sn3 hw)))
  have n96 : a ≠ a71 := by rw [g73]; exact Nat.ne_of_lt aE.lt
  have f97 := ((f77.other W83 (Ne.symm n96)).other W90 (Ne.symm n96))
  exact ⟨a71, k72, rfl, o92, ((((Keep.refl _ _).ext E74).wr W83 (Or.inl (List.mem_of_getElem? (i := 0) rfl))).wr W90 (Or.inl (List.mem_of_getElem? (i := 0) rfl))), f93, f94, f91, f95, f97⟩
theorem own_pd5 : parseMethodDescriptor "(I)V" = some ⟨[.int], none⟩ := by decide +kernel
theorem own_sbI (l : Launch) (Z : State) (a0 : Array Value) (hw : ∀ d ∈ tables_1, d.before a0 Z = true) (G1 : Int32) (G3 : Value) (a : Addr) (h0 : Heap) (n0 : Nat) (z0 : n0 ≤ h0.size) (ge_a : n0 ≤ a) (X00 : Old Z n0 h0) (aE : Exa Z h0 a "java/lang/StringBuilder") (aV : Fld Z h0 a "java/lang/AbstractStringBuilder" "value" "[B" .null) (aC : Fld Z h0 a "java/lang/AbstractStringBuilder" "coder" "B" (.int 0)) (aN : Fld Z h0 a "java/lang/AbstractStringBuilder" "count" "I" (.int 0)) (O2 : Sta Z Z.heap "java/lang/String" "COMPACT_STRINGS" "Z" (.int G1)) (O4 : Sta Z Z.heap "jdk/internal/util/Preconditions" "SIOOBE_FORMATTER" "Ljava/util/function/BiFunction;" G3) (P5 : ¬ G1 = (0 : Int32)) (rG3 : G3.isRef = true) :
    own_Met l Z (⟨"java/lang/StringBuilder", "<init>", "()V"⟩ : MethodName) jdk_67_method_1_code 1 none ({ frames := 2, cells := 1, slots := 16, locals := 25 } : Room) n0 #[(.ref a)] h0 (fun v h => ∃ b : Addr, ∃ bk : ClassId, v = none ∧ h0.size ≤ b ∧ Keep h0 h [a] ∧ Exa Z h a "java/lang/StringBuilder" ∧ Fld Z h a "java/lang/AbstractStringBuilder" "value" "[B" (.ref b) ∧ Fld Z h a "java/lang/AbstractStringBuilder" "coder" "B" (.int 0) ∧ Fld Z h a "java/lang/AbstractStringBuilder" "count" "I" (.int 0) ∧ Arv Z h b bk .byte (16 : Int32) ([(.int 0), (.int 0), (.int 0), (.int 0), (.int 0), (.int 0), (.int 0), (.int 0), (.int 0), (.int 0), (.int 0), (.int 0), (.int 0), (.int 0), (.int 0), (.int 0)]) (.int 0)) := by
  refine own_met (by decide +kernel) #[.val (.ref a)] (fun m => by first | (simp [entryFrame, mkF, argsToLocals, Value.category]; done) | rfl) ?_
  intro p e s m below meth c T0 C S0
  refine own_seg C S0 [(0, .aload_n 0, 1), (1, .bipush 16, 2)] (by decide +kernel) 3 #[.val (.ref a)] [(.int 16), (.ref a)] rfl ?_
  refine own_callI C S0 rfl (own_wd hw 83 rfl) (own_wd hw 84 rfl) (own_wd hw 88 rfl) (by decide) (own_Met.pay (own_asbI l Z a0 hw G1 G3 a h0 n0 z0 ge_a X00 aE aV aC aN O2 O4 P5 rG3) C 0 (own_wd hw 88 rfl) (own_wd hw 87 rfl) (by decide) (by decide)) (fun _ _ _ q => q.2) [(.int 16)] [] rfl own_pd5 rfl rfl rfl (Nat.le_of_ble_eq_true rfl) (by decide) (by decide) (by decide +kernel) ?_
  rintro T107 h108 v109 L110 S111 ⟨⟨a98, k99, rfl, g100, K101, f102, f103, f104, f105, f106⟩, -⟩
  show own_Go p e below _ T107 (mkF m 6 #[.val (.ref a)] [])
  refine own_retV C S111 (by decide +kernel) (by decide) (by decide) ?_
  have o112 : h0.size ≤ a98 := Nat.le_trans (Nat.le_refl _) g100
  exact ⟨a98, k99, rfl, o112, ((Keep.refl _ _).trans K101 (allS (Or.inl (List.mem_of_getElem? (i := 0) rfl)) all0)), f102, f103, f104, f105, f106⟩
theorem own_ens (l : Launch) (Z : State) (a0 : Array Value) (hw : ∀ d ∈ tables_1, d.before a0 Z = true) (a : Addr) (mn : Int32) (b : Addr) (bk : ClassId) (bN : Int32) (bvs : List Value) (h0 : Heap) (n0 : Nat) (z0 : n0 ≤ h0.size) (aE : Exa Z h0 a "java/lang/StringBuilder") (aV : Fld Z h0 a "java/lang/AbstractStringBuilder" "value" "[B" (.ref b)) (aC : Fld Z h0 a "java/lang/AbstractStringBuilder" "coder" "B" (.int 0)) (bK : Arv Z h0 b bk .byte bN bvs (.int 0)) (hle : ¬ (0 : Int32) < (mn - bN)) :
    own_Met l Z (⟨"java/lang/AbstractStringBuilder", "ensureCapacityInternal", "(I)V"⟩ : MethodName) jdk_68_method_9_code 3 none ({ frames := 0, cells := 0, slots := 0, locals := 0 } : Room) n0 #[(.ref a), (.int mn)] h0 (fun v h => v = none ∧ h = h0) := by
  refine own_met (by decide +kernel) #[.val (.ref a), .val (.int mn), .unset] (fun m => by first | (simp [entryFrame, mkF, argsToLocals, Value.category]; done) | rfl) ?_
  intro p e s m below meth c T0 C S0
  refine own_seg C S0 [(0, .aload_n 0, 1)] (by decide +kernel) 1 #[.val (.ref a), .val (.int mn), .unset] [(.ref a)] rfl ?_
  refine own_getF C S0 (host := "") (Or.inl (own_wd hw 91 rfl)) Via.refl aV (by decide +kernel) ?_
  intro T113 S114
  refine own_alen C S114 bK (by decide +kernel) ?_
  refine own_seg C S114 [(5, .aload_n 0, 1)] (by decide +kernel) 6 #[.val (.ref a), .val (.int mn), .unset] [(.ref a), (.int bN)] rfl ?_
  refine own_getF C S114 (host := "") (Or.inl (own_wd hw 93 rfl)) Via.refl aC (by decide +kernel) ?_
  intro T115 S116
  refine own_seg C S116 [(9, .ishr, 1)] (by decide +kernel) 10 #[.val (.ref a), .val (.int mn), .unset] [(.int (bN >>> ((0 : Int32) &&& 31)))] rfl ?_
  rw [show (bN >>> ((0 : Int32) &&& 31)) = bN from own_shr0 _]
  refine own_seg C S116 [(10, .istore_n 2, 1), (11, .iload_n 1, 1), (12, .iload_n 2, 1), (13, .isub, 1)] (by decide +kernel) 14 #[.val (.ref a), .val (.int mn), .val (.int bN)] [(.int (mn - bN))] rfl ?_
  refine own_if C S116 (q := .le) (o := 24) (by decide +kernel) 38 (by decide) (by decide) (fun (q117 : ¬ (0 : Int32) < (mn - bN)) => ?_) (fun (hq : (0 : Int32) < (mn - bN)) => False.elim (hle hq))
  refine own_retV C S116 (by decide +kernel) (by decide) (by decide) ?_
  exact ⟨rfl, rfl⟩
theorem own_infl (l : Launch) (Z : State) (a0 : Array Value) (hw : ∀ d ∈ tables_1, d.before a0 Z = true) (G1 : Int32) (G3 : Value) (a : Addr) (x : Addr) (h0 : Heap) (n0 : Nat) (z0 : n0 ≤ h0.size) (X00 : Old Z n0 h0) (aC : Fld Z h0 a "java/lang/AbstractStringBuilder" "coder" "B" (.int 0)) (xE : Exa Z h0 x "java/lang/String") (xC : Fld Z h0 x "java/lang/String" "coder" "B" (.int 0)) (O2 : Sta Z Z.heap "java/lang/String" "COMPACT_STRINGS" "Z" (.int G1)) (O4 : Sta Z Z.heap "jdk/internal/util/Preconditions" "SIOOBE_FORMATTER" "Ljava/util/function/BiFunction;" G3) (P5 : ¬ G1 = (0 : Int32)) (rG3 : G3.isRef = true) :
    own_Met l Z (⟨"java/lang/AbstractStringBuilder", "inflateIfNeededFor", "(Ljava/lang/String;)V"⟩ : MethodName) jdk_68_method_71_code 2 none ({ frames := 1, cells := 0, slots := 0, locals := 13 } : Room) n0 #[(.ref a), (.ref x)] h0 (fun v h => v = none ∧ h = h0) := by
  refine own_met (by decide +kernel) #[.val (.ref a), .val (.ref x)] (fun m => by first | (simp [entryFrame, mkF, argsToLocals, Value.category]; done) | rfl) ?_
  intro p e s m below meth c T0 C S0
  refine own_getS C S0 (own_wd hw 90 rfl) Via.refl (O2.ext X00.2) (by decide +kernel) ?_
  intro T118 S119
  refine own_if C S119 (q := .eq) (o := 18) (by decide +kernel) 21 (by decide) (by decide) (fun (hq : G1 = (0 : Int32)) => False.elim (P5 hq)) (fun (q120 : ¬ G1 = (0 : Int32)) => ?_)
  refine own_seg C S119 [(6, .aload_n 0, 1)] (by decide +kernel) 7 #[.val (.ref a), .val (.ref x)] [(.ref a)] rfl ?_
  refine own_getF C S119 (host := "") (Or.inl (own_wd hw 93 rfl)) Via.refl aC (by decide +kernel) ?_
  intro T121 S122
  refine own_seg C S122 [(10, .aload_n 1, 1)] (by decide +kernel) 11 #[.val (.ref a), .val (.ref x)] [(.ref x), (.int 0)] rfl ?_
  refine own_callV C S122 (own_wd hw 132 rfl) (own_wd hw 111 rfl) (own_wd hw 113 rfl) (own_wd hw 113 rfl) rfl (own_wd hw 112 rfl) (by decide) (own_Met.pay (own_coder l Z a0 hw G1 G3 x h0 n0 z0 X00 xC O2 O4 P5 rG3) C 1 (own_wd hw 114 rfl) (own_wd hw 6 rfl) (by decide) (by decide)) (fun _ _ _ q => q.2) xE [] [(.int 0)] rfl own_pd0 rfl rfl rfl (Nat.le_of_ble_eq_true rfl) (by decide) (by decide) (by decide +kernel) ?_
  rintro T124 h125 v126 L127 S128 ⟨⟨rfl, e123⟩, -⟩
  rw [e123] at S128; clear e123
  show own_Go p e below _ T124 (mkF m 14 #[.val (.ref a), .val (.ref x)] [(.int 0), (.int 0)])
  refine own_icmp C S128 (q := .eq) (o := 7) (by decide +kernel) 21 (by decide) (by decide) (fun (q129 : (0 : Int32) = 0) => ?_) (fun (hq : ¬ (0 : Int32) = 0) => False.elim (hq rfl))
  refine own_retV C S128 (by decide +kernel) (by decide) (by decide) ?_
  exact ⟨rfl, rfl⟩
theorem own_gb (l : Launch) (Z : State) (a0 : Array Value) (hw : ∀ d ∈ tables_1, d.before a0 Z = true) (G1 : Int32) (G3 : Value) (x : Addr) (xt : Addr) (xk : ClassId) (xN : Int32) (xvs : List Value) (xcs : List Int32) (b : Addr) (bk : ClassId) (bN : Int32) (bvs : List Value) (off : Int32) (us : List Value) (h0 : Heap) (n0 : Nat) (z0 : n0 ≤ h0.size) (ge_b : n0 ≤ b) (X00 : Old Z n0 h0) (xE : Exa Z h0 x "java/lang/String") (xV : Fld Z h0 x "java/lang/String" "value" "[B" (.ref xt)) (xC : Fld Z h0 x "java/lang/String" "coder" "B" (.int 0)) (xK : Arv Z h0 xt xk .byte xN xvs (.int 0)) (bK : Arv Z h0 b bk .byte bN bvs (.int 0)) (O2 : Sta Z Z.heap "java/lang/String" "COMPACT_STRINGS" "Z" (.int G1)) (O4 : Sta Z Z.heap "jdk/internal/util/Preconditions" "SIOOBE_FORMATTER" "Ljava/util/function/BiFunction;" G3) (P5 : ¬ G1 = (0 : Int32)) (rG3 : G3.isRef = true) (xcd : StrChars.Road.CodA xcs 0 xN xvs) (xhp : ∀ c ∈ xcs, ¬ c < 0 ∧ ¬ (255 : Int32) < c) (xl2 : xcs.length ≤ 4000) (c3 : ¬ xN < 0) (c2 : ¬ off < 0) (c5 : off.toNatClampNeg + xN.toNatClampNeg ≤ bN.toNatClampNeg) (cl : off.toNatClampNeg + xN.toNatClampNeg ≤ bvs.length) (cu : bvs.take off.toNatClampNeg ++ ((List.range xN.toNatClampNeg).map fun i => xvs.getD ((0 : Int32).toNatClampNeg + i) (.int 0)) ++ bvs.drop (off.toNatClampNeg + xN.toNatClampNeg) = us) :
    own_Met l Z (⟨"java/lang/String", "getBytes", "([BIB)V"⟩ : MethodName) jdk_42_method_147_code 4 none ({ frames := 1, cells := 0, slots := 0, locals := 18 } : Room) n0 #[(.ref x), (.ref b), (.int off), (.int 0)] h0 (fun v h => v = none ∧ Keep h0 h [b] ∧ Arv Z h b bk .byte bN us (.int 0)) := by
  refine own_met (by decide +kernel) #[.val (.ref x), .val (.ref b), .val (.int off), .val (.int 0)] (fun m => by first | (simp [entryFrame, mkF, argsToLocals, Value.category]; done) | rfl) ?_
  intro p e s m below meth c T0 C S0
  refine own_seg C S0 [(0, .aload_n 0, 1)] (by decide +kernel) 1 #[.val (.ref x), .val (.ref b), .val (.int off), .val (.int 0)] [(.ref x)] rfl ?_
  refine own_callV C S0 (own_wd hw 110 rfl) (own_wd hw 111 rfl) (own_wd hw 113 rfl) (own_wd hw 113 rfl) rfl (own_wd hw 112 rfl) (by decide) (own_Met.pay (own_coder l Z a0 hw G1 G3 x h0 n0 z0 X00 xC O2 O4 P5 rG3) C 0 (own_wd hw 114 rfl) (own_wd hw 6 rfl) (by decide) (by decide)) (fun _ _ _ q => q.2) xE [] [] rfl own_pd0 rfl rfl rfl (Nat.le_of_ble_eq_true rfl) (by decide) (by decide) (by decide +kernel) ?_
  rintro T131 h132 v133 L134 S135 ⟨⟨rfl, e130⟩, -⟩
  rw [e130] at S135; clear e130
  show own_Go p e below _ T131 (mkF m 4 #[.val (.ref x), .val (.ref b), .val (.int off), .val (.int 0)] [(.int 0)])
  refine own_seg C S135 [(4, .iload_n 3, 1)] (by decide +kernel) 5 #[.val (.ref x), .val (.ref b), .val (.int off), .val (.int 0)] [(.int 0), (.int 0)] rfl ?_
  refine own_icmp C S135 (q := .ne) (o := 23) (by decide +kernel) 28 (by decide) (by decide) (fun (hq : ¬ 0 = (0 : Int32)) => False.elim (hq rfl)) (fun (q136 : 0 = (0 : Int32)) => ?_)
  refine own_seg C S135 [(8, .aload_n 0, 1)] (by decide +kernel) 9 #[.val (.ref x), .val (.ref b), .val (.int off), .val (.int 0)] [(.ref x)] rfl ?_
  refine own_getF C S135 (host := "") (Or.inl (own_wd hw 32 rfl)) Via.refl xV (by decide +kernel) ?_
  intro T137 S138
  refine own_seg C S138 [(12, .iconst 0, 1), (13, .aload_n 1, 1), (14, .iload_n 2, 1), (15, .iload_n 3, 1)] (by decide +kernel) 16 #[.val (.ref x), .val (.ref b), .val (.int off), .val (.int 0)] [(.int 0), (.int off), (.ref b), (.int 0), (.ref xt)] rfl ?_
  refine own_seg C S138 [(16, .ishl, 1)] (by decide +kernel) 17 #[.val (.ref x), .val (.ref b), .val (.int off), .val (.int 0)] [(.int (off <<< ((0 : Int32) &&& 31))), (.ref b), (.int 0), (.ref xt)] rfl ?_
  rw [show (off <<< ((0 : Int32) &&& 31)) = off from own_shl0 _]
  refine own_seg C S138 [(17, .aload_n 0, 1)] (by decide +kernel) 18 #[.val (.ref x), .val (.ref b), .val (.int off), .val (.int 0)] [(.ref x), (.int off), (.ref b), (.int 0), (.ref xt)] rfl ?_
  refine own_getF C S138 (host := "") (Or.inl (own_wd hw 32 rfl)) Via.refl xV (by decide +kernel) ?_
  intro T139 S140
  refine own_alen C S140 xK (by decide +kernel) ?_
  refine own_copy C S140 (own_wd hw 138 rfl) (own_wd hw 141 rfl) (own_wd hw 139 rfl) (own_wd hw 140 rfl) xK bK rfl (by decide) c2 c3 (Nat.le_of_eq (Nat.zero_add _)) c5 cl ge_b us cu rfl (by decide +kernel) (by decide) 0 (Nat.le_of_ble_eq_true rfl) (by decide) ?_
  intro T141 h143 S142 K144 f145
  refine own_seg C S142 [(25, .goto 18, 3)] (by decide +kernel) 43 #[.val (.ref x), .val (.ref b), .val (.int off), .val (.int 0)] [] rfl ?_
  refine own_retV C S142 (by decide +kernel) (by decide) (by decide) ?_
  exact ⟨rfl, ((Keep.refl _ _).trans K144 (allS (Or.inl (List.mem_of_getElem? (i := 0) rfl)) all0)), f145⟩
theorem own_pd6 : parseMethodDescriptor "(Ljava/lang/String;)V" = some ⟨[(.object "java/lang/String")], none⟩ := by decide +kernel
theorem own_pd7 : parseMethodDescriptor "([BIB)V" = some ⟨[(.array .byte), .int, .byte], none⟩ := by decide +kernel
theorem own_put (l : Launch) (Z : State) (a0 : Array Value) (hw : ∀ d ∈ tables_1, d.before a0 Z = true) (G1 : Int32) (G3 : Value) (x : Addr) (xt : Addr) (xk : ClassId) (xN : Int32) (xvs : List Value) (xcs : List Int32) (a : Addr) (b : Addr) (bk : ClassId) (bN : Int32) (bvs : List Value) (off : Int32) (us : List Value) (h0 : Heap) (n0 : Nat) (z0 : n0 ≤ h0.size) (ge_b : n0 ≤ b) (X00 : Old Z n0 h0) (xE : Exa Z h0 x "java/lang/String") (xV : Fld Z h0 x "java/lang/String" "value" "[B" (.ref xt)) (xC : Fld Z h0 x "java/lang/String" "coder" "B" (.int 0)) (xK : Arv Z h0 xt xk .byte xN xvs (.int 0)) (aE : Exa Z h0 a "java/lang/StringBuilder") (aV : Fld Z h0 a "java/lang/AbstractStringBuilder" "value" "[B" (.ref b)) (aC : Fld Z h0 a "java/lang/AbstractStringBuilder" "coder" "B" (.int 0)) (bK : Arv Z h0 b bk .byte bN bvs (.int 0)) (O2 : Sta Z Z.heap "java/lang/String" "COMPACT_STRINGS" "Z" (.int G1)) (O4 : Sta Z Z.heap "jdk/internal/util/Preconditions" "SIOOBE_FORMATTER" "Ljava/util/function/BiFunction;" G3) (P5 : ¬ G1 = (0 : Int32)) (rG3 : G3.isRef = true) (xcd : StrChars.Road.CodA xcs 0 xN xvs) (xhp : ∀ c ∈ xcs, ¬ c < 0 ∧ ¬ (255 : Int32) < c) (xl2 : xcs.length ≤ 4000) (c3 : ¬ xN < 0) (c2 : ¬ off < 0) (c5 : off.toNatClampNeg + xN.toNatClampNeg ≤ bN.toNatClampNeg) (cl : off.toNatClampNeg + xN.toNatClampNeg ≤ bvs.length) (cu : bvs.take off.toNatClampNeg ++ ((List.range xN.toNatClampNeg).map fun i => xvs.getD ((0 : Int32).toNatClampNeg + i) (.int 0)) ++ bvs.drop (off.toNatClampNeg + xN.toNatClampNeg) = us) :
    own_Met l Z (⟨"java/lang/AbstractStringBuilder", "putStringAt", "(ILjava/lang/String;)V"⟩ : MethodName) jdk_68_method_73_code 3 none ({ frames := 2, cells := 0, slots := 0, locals := 33 } : Room) n0 #[(.ref a), (.int off), (.ref x)] h0 (fun v h => v = none ∧ Keep h0 h [b] ∧ Arv Z h b bk .byte bN us (.int 0)) := by
  refine own_met (by decide +kernel) #[.val (.ref a), .val (.int off), .val (.ref x)] (fun m => by first | (simp [entryFrame, mkF, argsToLocals, Value.category]; done) | rfl) ?_
  intro p e s m below meth c T0 C S0
  refine own_seg C S0 [(0, .aload_n 0, 1), (1, .aload_n 2, 1)] (by decide +kernel) 2 #[.val (.ref a), .val (.int off), .val (.ref x)] [(.ref x), (.ref a)] rfl ?_
  refine own_callP C S0 (own_wd hw 127 rfl) (own_wd hw 128 rfl) (own_selfP (own_wd hw 128 rfl) (own_wd hw 129 rfl) (own_wd hw 130 rfl) (by decide)) (own_wd hw 129 rfl) (own_wd hw 131 rfl) (by decide) (own_Met.pay (own_infl l Z a0 hw G1 G3 a x h0 n0 z0 X00 aC xE xC O2 O4 P5 rG3) C 0 (own_wd hw 131 rfl) (own_wd hw 87 rfl) (by decide) (by decide)) (fun _ _ _ q => q.2) aE [(.ref x)] [] rfl own_pd6 rfl rfl rfl (Nat.le_of_ble_eq_true rfl) (by decide) (by decide) (by decide +kernel) ?_
  rintro T147 h148 v149 L150 S151 ⟨⟨rfl, e146⟩, -⟩
  rw [e146] at S151; clear e146
  show own_Go p e below _ T147 (mkF m 5 #[.val (.ref a), .val (.int off), .val (.ref x)] [])
  refine own_seg C S151 [(5, .aload_n 2, 1), (6, .aload_n 0, 1)] (by decide +kernel) 7 #[.val (.ref a), .val (.int off), .val (.ref x)] [(.ref a), (.ref x)] rfl ?_
  refine own_getF C S151 (host := "") (Or.inl (own_wd hw 91 rfl)) Via.refl aV (by decide +kernel) ?_
  intro T152 S153
  refine own_seg C S153 [(10, .iload_n 1, 1), (11, .aload_n 0, 1)] (by decide +kernel) 12 #[.val (.ref a), .val (.int off), .val (.ref x)] [(.ref a), (.int off), (.ref b), (.ref x)] rfl ?_
  refine own_getF C S153 (host := "") (Or.inl (own_wd hw 93 rfl)) Via.refl aC (by decide +kernel) ?_
  intro T154 S155
  refine own_callV C S155 (own_wd hw 133 rfl) (own_wd hw 134 rfl) (own_wd hw 136 rfl) (own_wd hw 136 rfl) rfl (own_wd hw 135 rfl) (by decide) (own_Met.pay (own_gb l Z a0 hw G1 G3 x _ _ _ _ xcs b _ _ _ off us h0 n0 z0 ge_b X00 xE xV xC xK bK O2 O4 P5 rG3 xcd xhp xl2 c3 c2 c5 cl cu) C 0 (own_wd hw 137 rfl) (own_wd hw 6 rfl) (by decide) (by decide)) (fun _ _ _ q => q.2) xE [(.ref b), (.int off), (.int 0)] [] rfl own_pd7 rfl rfl rfl (Nat.le_of_ble_eq_true rfl) (by decide) (by decide) (by decide +kernel) ?_
  rintro T158 h159 v160 L161 S162 ⟨⟨rfl, K156, f157⟩, -⟩
  show own_Go p e below _ T158 (mkF m 18 #[.val (.ref a), .val (.int off), .val (.ref x)] [])
  refine own_retV C S162 (by decide +kernel) (by decide) (by decide) ?_
  exact ⟨rfl, ((Keep.refl _ _).trans K156 (allS (Or.inl (List.mem_of_getElem? (i := 0) rfl)) all0)), f157⟩
theorem own_pd8 : parseMethodDescriptor "()I" = some ⟨[], (some .int)⟩ := by decide +kernel
theorem own_pd9 : parseMethodDescriptor "(ILjava/lang/String;)V" = some ⟨[.int, (.object "java/lang/String")], none⟩ := by decide +kernel
theorem own_sn4 {Z : State} {a0 : Array Value} (hw : ∀ d ∈ tables_1, d.before a0 Z = true) : Jvm.RoadKit.slotOf Z "java/lang/AbstractStringBuilder" "value" "[B" ≠ Jvm.RoadKit.slotOf Z "java/lang/AbstractStringBuilder" "count" "I" := slot_ne (Or.inl (own_wd hw 92 rfl)) (Or.inl (own_wd hw 116 rfl)) (by decide) own_fd0 own_fd2
theorem own_sn5 {Z : State} {a0 : Array Value} (hw : ∀ d ∈ tables_1, d.before a0 Z = true) : Jvm.RoadKit.slotOf Z "java/lang/AbstractStringBuilder" "coder" "B" ≠ Jvm.RoadKit.slotOf Z "java/lang/AbstractStringBuilder" "count" "I" := slot_ne (Or.inl (own_wd hw 94 rfl)) (Or.inl (own_wd hw 116 rfl)) (by decide) own_fd1 own_fd2
theorem own_asbA (l : Launch) (Z : State) (a0 : Array Value) (hw : ∀ d ∈ tables_1, d.before a0 Z = true) (G1 : Int32) (G3 : Value) (x : Addr) (xt : Addr) (xk : ClassId) (xN : Int32) (xvs : List Value) (xcs : List Int32) (a : Addr) (b : Addr) (bk : ClassId) (bN : Int32) (bvs : List Value) (cnt : Int32) (us : List Value) (h0 : Heap) (n0 : Nat) (z0 : n0 ≤ h0.size) (ge_a : n0 ≤ a) (ge_b : n0 ≤ b) (X00 : Old Z n0 h0) (xE : Exa Z h0 x "java/lang/String") (xV : Fld Z h0 x "java/lang/String" "value" "[B" (.ref xt)) (xC : Fld Z h0 x "java/lang/String" "coder" "B" (.int 0)) (xK : Arv Z h0 xt xk .byte xN xvs (.int 0)) (aE : Exa Z h0 a "java/lang/StringBuilder") (aV : Fld Z h0 a "java/lang/AbstractStringBuilder" "value" "[B" (.ref b)) (aC : Fld Z h0 a "java/lang/AbstractStringBuilder" "coder" "B" (.int 0)) (aN : Fld Z h0 a "java/lang/AbstractStringBuilder" "count" "I" (.int cnt)) (bK : Arv Z h0 b bk .byte bN bvs (.int 0)) (ne_xt_b : xt ≠ b) (ne_xt_a : xt ≠ a) (ne_x_a : x ≠ a) (ne_x_b : x ≠ b) (ne_b_a : b ≠ a) (O2 : Sta Z Z.heap "java/lang/String" "COMPACT_STRINGS" "Z" (.int G1)) (O4 : Sta Z Z.heap "jdk/internal/util/Preconditions" "SIOOBE_FORMATTER" "Ljava/util/function/BiFunction;" G3) (P5 : ¬ G1 = (0 : Int32)) (rG3 : G3.isRef = true) (xcd : StrChars.Road.CodA xcs 0 xN xvs) (xhp : ∀ c ∈ xcs, ¬ c < 0 ∧ ¬ (255 : Int32) < c) (xl2 : xcs.length ≤ 4000) (hle : ¬ (0 : Int32) < ((cnt + xN) - bN)) (c3 : ¬ xN < 0) (c2 : ¬ cnt < 0) (c5 : cnt.toNatClampNeg + xN.toNatClampNeg ≤ bN.toNatClampNeg) (cl : cnt.toNatClampNeg + xN.toNatClampNeg ≤ bvs.length) (cu : bvs.take cnt.toNatClampNeg ++ ((List.range xN.toNatClampNeg).map fun i => xvs.getD ((0 : Int32).toNatClampNeg + i) (.int 0)) ++ bvs.drop (cnt.toNatClampNeg + xN.toNatClampNeg) = us) :
    own_Met l Z (⟨"java/lang/AbstractStringBuilder", "append", "(Ljava/lang/String;)Ljava/lang/AbstractStringBuilder;"⟩ : MethodName) jdk_68_method_22_code 3 (some (.object "java/lang/AbstractStringBuilder")) ({ frames := 3, cells := 0, slots := 0, locals := 47 } : Room) n0 #[(.ref a), (.ref x)] h0 (fun v h => v = some (.ref a) ∧ Keep h0 h [a, b] ∧ Exa Z h a "java/lang/StringBuilder" ∧ Fld Z h a "java/lang/AbstractStringBuilder" "value" "[B" (.ref b) ∧ Fld Z h a "java/lang/AbstractStringBuilder" "coder" "B" (.int 0) ∧ Fld Z h a "java/lang/AbstractStringBuilder" "count" "I" (.int (cnt + xN)) ∧ Arv Z h b bk .byte bN us (.int 0)) := by
  refine own_met (by decide +kernel) #[.val (.ref a), .val (.ref x), .unset] (fun m => by first | (simp [entryFrame, mkF, argsToLocals, Value.category]; done) | rfl) ?_
  intro p e s m below meth c T0 C S0
  refine own_seg C S0 [(0, .aload_n 1, 1), (1, .ifnonnull 8, 3), (9, .aload_n 1, 1)] (by decide +kernel) 10 #[.val (.ref a), .val (.ref x), .unset] [(.ref x)] rfl ?_
  refine own_callV C S0 (own_wd hw 105 rfl) (own_wd hw 106 rfl) (own_wd hw 108 rfl) (own_wd hw 108 rfl) rfl (own_wd hw 107 rfl) (by decide) (own_Met.pay (own_len l Z a0 hw G1 G3 x _ _ _ _ h0 n0 z0 X00 xE xV xC xK O2 O4 P5 rG3) C 0 (own_wd hw 109 rfl) (own_wd hw 6 rfl) (by decide) (by decide)) (fun _ _ _ q => q.2) xE [] [] rfl own_pd8 rfl rfl rfl (Nat.le_of_ble_eq_true rfl) (by decide) (by decide) (by decide +kernel) ?_
  rintro T164 h165 v166 L167 S168 ⟨⟨rfl, e163⟩, -⟩
  rw [e163] at S168; clear e163
  show own_Go p e below _ T164 (mkF m 13 #[.val (.ref a), .val (.ref x), .unset] [(.int (xN >>> ((0 : Int32) &&& 31)))])
  rw [show (xN >>> ((0 : Int32) &&& 31)) = xN from own_shr0 _]
  refine own_seg C S168 [(13, .istore_n 2, 1), (14, .aload_n 0, 1), (15, .aload_n 0, 1)] (by decide +kernel) 16 #[.val (.ref a), .val (.ref x), .val (.int xN)] [(.ref a), (.ref a)] rfl ?_
  refine own_getF C S168 (host := "") (Or.inl (own_wd hw 115 rfl)) Via.refl aN (by decide +kernel) ?_
  intro T169 S170
  refine own_seg C S170 [(19, .iload_n 2, 1), (20, .iadd, 1)] (by decide +kernel) 21 #[.val (.ref a), .val (.ref x), .val (.int xN)] [(.int (cnt + xN)), (.ref a)] rfl ?_
  refine own_callP C S170 (own_wd hw 117 rfl) (own_wd hw 118 rfl) (own_selfP (own_wd hw 118 rfl) (own_wd hw 119 rfl) (own_wd hw 120 rfl) (by decide)) (own_wd hw 119 rfl) (own_wd hw 121 rfl) (by decide) (own_Met.pay (own_ens l Z a0 hw a (cnt + xN) _ _ _ _ h0 n0 z0 aE aV aC bK hle) C 0 (own_wd hw 121 rfl) (own_wd hw 87 rfl) (by decide) (by decide)) (fun _ _ _ q => q.2) aE [(.int (cnt + xN))] [] rfl own_pd5 rfl rfl rfl (Nat.le_of_ble_eq_true rfl) (by decide) (by decide) (by decide +kernel) ?_
  rintro T172 h173 v174 L175 S176 ⟨⟨rfl, e171⟩, -⟩
  rw [e171] at S176; clear e171
  show own_Go p e below _ T172 (mkF m 24 #[.val (.ref a), .val (.ref x), .val (.int xN)] [])
  refine own_seg C S176 [(24, .aload_n 0, 1), (25, .aload_n 0, 1)] (by decide +kernel) 26 #[.val (.ref a), .val (.ref x), .val (.int xN)] [(.ref a), (.ref a)] rfl ?_
  refine own_getF C S176 (host := "") (Or.inl (own_wd hw 115 rfl)) Via.refl aN (by decide +kernel) ?_
  intro T177 S178
  refine own_seg C S178 [(29, .aload_n 1, 1)] (by decide +kernel) 30 #[.val (.ref a), .val (.ref x), .val (.int xN)] [(.ref x), (.int cnt), (.ref a)] rfl ?_
  refine own_callP C S178 (own_wd hw 122 rfl) (own_wd hw 123 rfl) (own_selfP (own_wd hw 123 rfl) (own_wd hw 124 rfl) (own_wd hw 125 rfl) (by decide)) (own_wd hw 124 rfl) (own_wd hw 126 rfl) (by decide) (own_Met.pay (own_put l Z a0 hw G1 G3 x _ _ _ _ xcs a _ _ _ _ cnt us h0 n0 z0 ge_b X00 xE xV xC xK aE aV aC bK O2 O4 P5 rG3 xcd xhp xl2 c3 c2 c5 cl cu) C 0 (own_wd hw 126 rfl) (own_wd hw 87 rfl) (by decide) (by decide)) (fun _ _ _ q => q.2) aE [(.int cnt), (.ref x)] [] rfl own_pd9 rfl rfl rfl (Nat.le_of_ble_eq_true rfl) (by decide) (by decide) (by decide +kernel) ?_
  rintro T181 h182 v183 L184 S185 ⟨⟨rfl, K179, f180⟩, -⟩
  show own_Go p e below _ T181 (mkF m 33 #[.val (.ref a), .val (.ref x), .val (.int xN)] [])
  refine own_seg C S185 [(33, .aload_n 0, 1), (34, .dup, 1)] (by decide +kernel) 35 #[.val (.ref a), .val (.ref x), .val (.int xN)] [(.ref a), (.ref a)] rfl ?_
  have f186 := (aN.keep K179 (ninS (Ne.symm ne_b_a) nin0))
  refine own_getF C S185 (host := "") (Or.inl (own_wd hw 115 rfl)) Via.refl f186 (by decide +kernel) ?_
  intro T187 S188
  refine own_seg C S188 [(38, .iload_n 2, 1), (39, .iadd, 1)] (by decide +kernel) 40 #[.val (.ref a), .val (.ref x), .val (.int xN)] [(.int (cnt + xN)), (.ref a)] rfl ?_
  have f189 := (aE.keep K179)
  refine own_putF C S188 (ty := .int) (host := "") (Or.inl (own_wd hw 115 rfl)) Via.refl f186 f189 (Or.inl (own_wd hw 116 rfl)) (own_wd hw 78 rfl) own_fd2 rfl rfl ge_a (by decide +kernel) ?_
  intro T190 h192 S191 W193
  have f194 : Fld Z h192 a "java/lang/AbstractStringBuilder" "count" "I" (.int (cnt + xN)) := Fld.same W193 f186
  refine own_seg C S191 [(43, .aload_n 0, 1)] (by decide +kernel) 44 #[.val (.ref a), .val (.ref x), .val (.int xN)] [(.ref a)] rfl ?_
  refine own_retA C S191 rfl rfl (by decide +kernel) (by decide) (by decide) ?_
  have f195 := (Exa.wr W193 f189)
  have f196 := (Fld.other W193 (aV.keep K179 (ninS (Ne.symm ne_b_a) nin0)) (Or.inr (own_sn4 hw)))
  have f197 := (Fld.other W193 (aC.keep K179 (ninS (Ne.symm ne_b_a) nin0)) (Or.inr (own_sn5 hw)))
  have f198 := (f180.other W193 ne_b_a)
  exact ⟨rfl, (((Keep.refl _ _).trans K179 (allS (Or.inl (List.mem_of_getElem? (i := 1) rfl)) all0)).wr W193 (Or.inl (List.mem_of_getElem? (i := 0) rfl))), f195, f196, f197, f194, f198⟩
theorem own_pd10 : parseMethodDescriptor "(Ljava/lang/String;)Ljava/lang/AbstractStringBuilder;" = some ⟨[(.object "java/lang/String")], (some (.object "java/lang/AbstractStringBuilder"))⟩ := by decide +kernel
theorem own_sbA (l : Launch) (Z : State) (a0 : Array Value) (hw : ∀ d ∈ tables_1, d.before a0 Z = true) (G1 : Int32) (G3 : Value) (x : Addr) (xt : Addr) (xk : ClassId) (xN : Int32) (xvs : List Value) (xcs : List Int32) (a : Addr) (b : Addr) (bk : ClassId) (bN : Int32) (bvs : List Value) (cnt : Int32) (us : List Value) (h0 : Heap) (n0 : Nat) (z0 : n0 ≤ h0.size) (ge_a : n0 ≤ a) (ge_b : n0 ≤ b) (X00 : Old Z n0 h0) (xE : Exa Z h0 x "java/lang/String") (xV : Fld Z h0 x "java/lang/String" "value" "[B" (.ref xt)) (xC : Fld Z h0 x "java/lang/String" "coder" "B" (.int 0)) (xK : Arv Z h0 xt xk .byte xN xvs (.int 0)) (aE : Exa Z h0 a "java/lang/StringBuilder") (aV : Fld Z h0 a "java/lang/AbstractStringBuilder" "value" "[B" (.ref b)) (aC : Fld Z h0 a "java/lang/AbstractStringBuilder" "coder" "B" (.int 0)) (aN : Fld Z h0 a "java/lang/AbstractStringBuilder" "count" "I" (.int cnt)) (bK : Arv Z h0 b bk .byte bN bvs (.int 0)) (ne_xt_b : xt ≠ b) (ne_xt_a : xt ≠ a) (ne_x_a : x ≠ a) (ne_x_b : x ≠ b) (ne_b_a : b ≠ a) (O2 : Sta Z Z.heap "java/lang/String" "COMPACT_STRINGS" "Z" (.int G1)) (O4 : Sta Z Z.heap "jdk/internal/util/Preconditions" "SIOOBE_FORMATTER" "Ljava/util/function/BiFunction;" G3) (P5 : ¬ G1 = (0 : Int32)) (rG3 : G3.isRef = true) (xcd : StrChars.Road.CodA xcs 0 xN xvs) (xhp : ∀ c ∈ xcs, ¬ c < 0 ∧ ¬ (255 : Int32) < c) (xl2 : xcs.length ≤ 4000) (hle : ¬ (0 : Int32) < ((cnt + xN) - bN)) (c3 : ¬ xN < 0) (c2 : ¬ cnt < 0) (c5 : cnt.toNatClampNeg + xN.toNatClampNeg ≤ bN.toNatClampNeg) (cl : cnt.toNatClampNeg + xN.toNatClampNeg ≤ bvs.length) (cu : bvs.take cnt.toNatClampNeg ++ ((List.range xN.toNatClampNeg).map fun i => xvs.getD ((0 : Int32).toNatClampNeg + i) (.int 0)) ++ bvs.drop (cnt.toNatClampNeg + xN.toNatClampNeg) = us) :
    own_Met l Z (⟨"java/lang/StringBuilder", "append", "(Ljava/lang/String;)Ljava/lang/StringBuilder;"⟩ : MethodName) jdk_67_method_7_code 2 (some (.object "java/lang/StringBuilder")) ({ frames := 4, cells := 0, slots := 0, locals := 61 } : Room) n0 #[(.ref a), (.ref x)] h0 (fun v h => v = some (.ref a) ∧ Keep h0 h [a, b] ∧ Exa Z h a "java/lang/StringBuilder" ∧ Fld Z h a "java/lang/AbstractStringBuilder" "value" "[B" (.ref b) ∧ Fld Z h a "java/lang/AbstractStringBuilder" "coder" "B" (.int 0) ∧ Fld Z h a "java/lang/AbstractStringBuilder" "count" "I" (.int (cnt + xN)) ∧ Arv Z h b bk .byte bN us (.int 0)) := by
  refine own_met (by decide +kernel) #[.val (.ref a), .val (.ref x)] (fun m => by first | (simp [entryFrame, mkF, argsToLocals, Value.category]; done) | rfl) ?_
  intro p e s m below meth c T0 C S0
  refine own_seg C S0 [(0, .aload_n 0, 1), (1, .aload_n 1, 1)] (by decide +kernel) 2 #[.val (.ref a), .val (.ref x)] [(.ref x), (.ref a)] rfl ?_
  refine own_callX C S0 (own_wd hw 100 rfl) (own_same (own_wd hw 101 rfl) (own_wd hw 120 rfl) rfl (by decide)) (own_wd hw 101 rfl) (own_wd hw 102 rfl) (by decide) (own_wd hw 104 rfl) (own_Met.pay (own_asbA l Z a0 hw G1 G3 x _ _ _ _ xcs a _ _ _ _ _ us h0 n0 z0 ge_a ge_b X00 xE xV xC xK aE aV aC aN bK ne_xt_b ne_xt_a ne_x_a ne_x_b ne_b_a O2 O4 P5 rG3 xcd xhp xl2 hle c3 c2 c5 cl cu) C 0 (own_wd hw 104 rfl) (own_wd hw 87 rfl) (by decide) (by decide)) (fun _ _ _ q => q.2) (Ins.self aE) [(.ref x)] [] rfl own_pd10 rfl rfl rfl (Nat.le_of_ble_eq_true rfl) (by decide) (by decide) (by decide +kernel) ?_
  rintro T205 h206 v207 L208 S209 ⟨⟨rfl, K199, f200, f201, f202, f203, f204⟩, -⟩
  show own_Go p e below _ T205 (mkF m 5 #[.val (.ref a), .val (.ref x)] [(.ref a)])
  refine own_seg C S209 [(5, .pop, 1), (6, .aload_n 0, 1)] (by decide +kernel) 7 #[.val (.ref a), .val (.ref x)] [(.ref a)] rfl ?_
  refine own_retA C S209 rfl rfl (by decide +kernel) (by decide) (by decide) ?_
  exact ⟨rfl, ((Keep.refl _ _).trans K199 (allS (Or.inl (List.mem_of_getElem? (i := 0) rfl)) (allS (Or.inl (List.mem_of_getElem? (i := 1) rfl)) all0))), f200, f201, f202, f203, f204⟩
theorem own_ckl (l : Launch) (Z : State) (a0 : Array Value) (hw : ∀ d ∈ tables_1, d.before a0 Z = true) (x1 : Int32) (x2 : Int32) (h0 : Heap) (n0 : Nat) (z0 : n0 ≤ h0.size) (hge : ¬ x2 < x1) :
    own_Met l Z (⟨"java/util/Arrays", "checkLength", "(II)V"⟩ : MethodName) jdk_65_method_131_code 2 none ({ frames := 0, cells := 0, slots := 0, locals := 0 } : Room) n0 #[(.int x1), (.int x2)] h0 (fun v h => v = none ∧ h = h0) := by
  refine own_met (by decide +kernel) #[.val (.int x1), .val (.int x2)] (fun m => by first | (simp [entryFrame, mkF, argsToLocals, Value.category]; done) | rfl) ?_
  intro p e s m below meth c T0 C S0
  refine own_seg C S0 [(0, .iload_n 1, 1), (1, .iload_n 0, 1)] (by decide +kernel) 2 #[.val (.int x1), .val (.int x2)] [(.int x1), (.int x2)] rfl ?_
  refine own_icmp C S0 (q := .ge) (o := 35) (by decide +kernel) 37 (by decide) (by decide) (fun (q210 : ¬ x2 < x1) => ?_) (fun (hq : x2 < x1) => False.elim (hge hq))
  refine own_retV C S0 (by decide +kernel) (by decide) (by decide) ?_
  exact ⟨rfl, rfl⟩
theorem own_pd11 : parseMethodDescriptor "(II)I" = some ⟨[.int, .int], (some .int)⟩ := by decide +kernel
theorem own_corb (l : Launch) (Z : State) (a0 : Array Value) (hw : ∀ d ∈ tables_1, d.before a0 Z = true) (b : Addr) (bk : ClassId) (bN : Int32) (bvs : List Value) (n : Int32) (us : List Value) (h0 : Heap) (n0 : Nat) (z0 : n0 ≤ h0.size) (bK : Arv Z h0 b bk .byte bN bvs (.int 0)) (t0 : ¬ n < (0 : Int32)) (t1 : ¬ bN < n) (t2 : ¬ n = bN) (t3 : n.toNatClampNeg ≤ 64) (t4 : ((List.range n.toNatClampNeg).map fun i => bvs.getD ((0 : Int32).toNatClampNeg + i) (.int 0)) = us) :
    own_Met l Z (⟨"java/util/Arrays", "copyOfRangeByte", "([BII)[B"⟩ : MethodName) jdk_65_method_133_code 5 (some (.array .byte)) ({ frames := 1, cells := 1, slots := 64, locals := 18 } : Room) n0 #[(.ref b), (.int 0), (.int n)] h0 (fun v h => ∃ r : Addr, ∃ rk : ClassId, v = some (.ref r) ∧ h0.size ≤ r ∧ Keep h0 h [] ∧ Arv Z h r rk .byte n us (.int 0) ∧ Exa Z h r "[B") := by
  refine own_met (by decide +kernel) #[.val (.ref b), .val (.int 0), .val (.int n), .unset, .unset] (fun m => by first | (simp [entryFrame, mkF, argsToLocals, Value.category]; done) | rfl) ?_
  intro p e s m below meth c T0 C S0
  refine own_seg C S0 [(0, .iload_n 1, 1), (1, .iload_n 2, 1)] (by decide +kernel) 2 #[.val (.ref b), .val (.int 0), .val (.int n), .unset, .unset] [(.int n), (.int 0)] rfl ?_
  refine own_callS C S0 (own_wd hw 180 rfl) (own_wd hw 181 rfl) (own_wd hw 175 rfl) (own_wd hw 182 rfl) (by decide) (own_Met.pay (own_ckl l Z a0 hw (0 : Int32) n h0 n0 z0 t0) C 0 (own_wd hw 182 rfl) (own_wd hw 175 rfl) (by decide) (by decide)) (fun _ _ _ q => q.2) [(.int 0), (.int n)] [] rfl own_pd2 rfl rfl rfl (Nat.le_of_ble_eq_true rfl) (by decide) (by decide) (by decide +kernel) ?_
  rintro T212 h213 v214 L215 S216 ⟨⟨rfl, e211⟩, -⟩
  rw [e211] at S216; clear e211
  show own_Go p e below _ T212 (mkF m 5 #[.val (.ref b), .val (.int 0), .val (.int n), .unset, .unset] [])
  refine own_seg C S216 [(5, .iload_n 2, 1), (6, .iload_n 1, 1), (7, .isub, 1), (8, .istore_n 3, 1), (9, .iload_n 3, 1)] (by decide +kernel) 10 #[.val (.ref b), .val (.int 0), .val (.int n), .val (.int (n - (0 : Int32))), .unset] [(.int (n - (0 : Int32)))] rfl ?_
  rw [show (n - (0 : Int32)) = n from Int32.sub_zero n]
  refine own_newPE C S216 (aty := .byte) (ad := "[B") (by decide) (own_wd hw 23 rfl) (by decide +kernel) t0 64 t3 (by decide) (by decide) (by decide) ?_
  intro T217 h219 a220 k221 S218 g222 E223 f224 x225
  have f226 : Arv Z h219 a220 k221 .byte n (List.replicate n.toNatClampNeg (.int 0)) (.int 0) := Arv.pad f224 (pad_rep [] (.int 0) n.toNatClampNeg)
  refine own_seg C S218 [(12, .astore 4, 2), (14, .aload_n 0, 1), (15, .iload_n 1, 1), (16, .aload 4, 2), (18, .iconst 0, 1), (19, .aload_n 0, 1)] (by decide +kernel) 20 #[.val (.ref b), .val (.int 0), .val (.int n), .val (.int n), .val (.ref a220)] [(.ref b), (.int 0), (.ref a220), (.int 0), (.ref b)] rfl ?_
  have f227 := (bK.ext E223)
  refine own_alen C S218 f227 (by decide +kernel) ?_
  refine own_seg C S218 [(21, .iload_n 1, 1), (22, .isub, 1), (23, .iload_n 3, 1)] (by decide +kernel) 24 #[.val (.ref b), .val (.int 0), .val (.int n), .val (.int n), .val (.ref a220)] [(.int n), (.int (bN - (0 : Int32))), (.int 0), (.ref a220), (.int 0), (.ref b)] rfl ?_
  have f228 : n0 ≤ h219.size := (Nat.le_trans z0 E223.1)
  refine own_callS C S218 (own_wd hw 183 rfl) (own_wd hw 184 rfl) (own_wd hw 185 rfl) (own_wd hw 186 rfl) (by decide) (own_Met.pay (own_min l Z a0 hw (bN - (0 : Int32)) n h219 n0 f228) C 4 (own_wd hw 186 rfl) (own_wd hw 185 rfl) (by decide) (by decide)) (fun _ _ _ q => q.2) [(.int (bN - (0 : Int32))), (.int n)] [(.int 0), (.ref a220), (.int 0), (.ref b)] rfl own_pd11 rfl rfl rfl (Nat.le_of_ble_eq_true rfl) (by decide) (by decide) (by decide +kernel) ?_
  rintro T230 h231 v232 L233 S234 ⟨⟨rfl, e229⟩, -⟩
  rw [e229] at S234; clear e229
  show own_Go p e below _ T230 (mkF m 27 #[.val (.ref b), .val (.int 0), .val (.int n), .val (.int n), .val (.ref a220)] [(.int (if n < (bN - (0 : Int32)) then n else (bN - (0 : Int32)))), (.int 0), (.ref a220), (.int 0), (.ref b)])
  rw [show (bN - (0 : Int32)) = bN from Int32.sub_zero bN, own_min_g t1]
  show own_Go p e below _ T230 (mkF m 27 #[.val (.ref b), .val (.int 0), .val (.int n), .val (.int n), .val (.ref a220)] [(.int n), (.int 0), (.ref a220), (.int 0), (.ref b)])
  have g235 : n0 ≤ a220 := by rw [g222]; exact z0
  refine own_copy C S234 (own_wd hw 187 rfl) (own_wd hw 141 rfl) (own_wd hw 139 rfl) (own_wd hw 140 rfl) f227 f226 rfl (by decide) (by decide) t0 (by rw [show (0 : Int32).toNatClampNeg = 0 from rfl]; exact own_nat_le t0 t1) (Nat.le_of_eq (Nat.zero_add _)) (by rw [List.length_replicate]; exact Nat.le_of_eq (Nat.zero_add _)) g235 us (by rw [← t4]; exact own_take0 _ _ _) rfl (by decide +kernel) (by decide) 0 (Nat.le_of_ble_eq_true rfl) (by decide) ?_
  intro T236 h238 S237 K239 f240
  refine own_seg C S237 [(30, .aload 4, 2)] (by decide +kernel) 32 #[.val (.ref b), .val (.int 0), .val (.int n), .val (.int n), .val (.ref a220)] [(.ref a220)] rfl ?_
  refine own_retA C S237 rfl rfl (by decide +kernel) (by decide) (by decide) ?_
  have o241 : h0.size ≤ a220 := by rw [g222]; exact (Nat.le_refl _)
  have f242 := (x225.keep K239)
  exact ⟨a220, k221, rfl, o241, (((Keep.refl _ _).ext E223).trans K239 (allS (Or.inr o241) all0)), f240, f242⟩
theorem own_pd12 : parseMethodDescriptor "([BII)[B" = some ⟨[(.array .byte), .int, .int], (some (.array .byte))⟩ := by decide +kernel
theorem own_cor (l : Launch) (Z : State) (a0 : Array Value) (hw : ∀ d ∈ tables_1, d.before a0 Z = true) (b : Addr) (bk : ClassId) (bN : Int32) (bvs : List Value) (n : Int32) (us : List Value) (h0 : Heap) (n0 : Nat) (z0 : n0 ≤ h0.size) (bK : Arv Z h0 b bk .byte bN bvs (.int 0)) (t0 : ¬ n < (0 : Int32)) (t1 : ¬ bN < n) (t2 : ¬ n = bN) (t3 : n.toNatClampNeg ≤ 64) (t4 : ((List.range n.toNatClampNeg).map fun i => bvs.getD ((0 : Int32).toNatClampNeg + i) (.int 0)) = us) :
    own_Met l Z (⟨"java/util/Arrays", "copyOfRange", "([BII)[B"⟩ : MethodName) jdk_65_method_132_code 3 (some (.array .byte)) ({ frames := 2, cells := 1, slots := 64, locals := 34 } : Room) n0 #[(.ref b), (.int 0), (.int n)] h0 (fun v h => ∃ r : Addr, ∃ rk : ClassId, v = some (.ref r) ∧ h0.size ≤ r ∧ Keep h0 h [] ∧ Arv Z h r rk .byte n us (.int 0) ∧ Exa Z h r "[B") := by
  refine own_met (by decide +kernel) #[.val (.ref b), .val (.int 0), .val (.int n)] (fun m => by first | (simp [entryFrame, mkF, argsToLocals, Value.category]; done) | rfl) ?_
  intro p e s m below meth c T0 C S0
  refine own_seg C S0 [(0, .iload_n 1, 1)] (by decide +kernel) 1 #[.val (.ref b), .val (.int 0), .val (.int n)] [(.int 0)] rfl ?_
  refine own_if C S0 (q := .ne) (o := 9) (by decide +kernel) 10 (by decide) (by decide) (fun (hq : ¬ (0 : Int32) = (0 : Int32)) => False.elim (hq rfl)) (fun (q243 : (0 : Int32) = (0 : Int32)) => ?_)
  refine own_seg C S0 [(4, .iload_n 2, 1), (5, .aload_n 0, 1)] (by decide +kernel) 6 #[.val (.ref b), .val (.int 0), .val (.int n)] [(.ref b), (.int n)] rfl ?_
  refine own_alen C S0 bK (by decide +kernel) ?_
  refine own_icmp C S0 (q := .eq) (o := 10) (by decide +kernel) 17 (by decide) (by decide) (fun (hq : n = bN) => False.elim (t2 hq)) (fun (q244 : ¬ n = bN) => ?_)
  refine own_seg C S0 [(10, .aload_n 0, 1), (11, .iload_n 1, 1), (12, .iload_n 2, 1)] (by decide +kernel) 13 #[.val (.ref b), .val (.int 0), .val (.int n)] [(.int n), (.int 0), (.ref b)] rfl ?_
  refine own_callS C S0 (own_wd hw 177 rfl) (own_wd hw 178 rfl) (own_wd hw 175 rfl) (own_wd hw 179 rfl) (by decide) (own_Met.pay (own_corb l Z a0 hw b _ _ _ n us h0 n0 z0 bK t0 t1 t2 t3 t4) C 0 (own_wd hw 179 rfl) (own_wd hw 175 rfl) (by decide) (by decide)) (fun _ _ _ q => q.2) [(.ref b), (.int 0), (.int n)] [] rfl own_pd12 rfl rfl rfl (Nat.le_of_ble_eq_true rfl) (by decide) (by decide) (by decide +kernel) ?_
  rintro T251 h252 v253 L254 S255 ⟨⟨a245, k246, rfl, g247, K248, f249, f250⟩, -⟩
  show own_Go p e below _ T251 (mkF m 16 #[.val (.ref b), .val (.int 0), .val (.int n)] [(.ref a245)])
  refine own_retA C S255 rfl rfl (by decide +kernel) (by decide) (by decide) ?_
  have o256 : h0.size ≤ a245 := Nat.le_trans (Nat.le_refl _) g247
  exact ⟨a245, k246, rfl, o256, ((Keep.refl _ _).trans K248 all0), f249, f250⟩
theorem own_gv (l : Launch) (Z : State) (a0 : Array Value) (hw : ∀ d ∈ tables_1, d.before a0 Z = true) (a : Addr) (y : Addr) (h0 : Heap) (n0 : Nat) (z0 : n0 ≤ h0.size) (pF : Fld Z h0 a "java/lang/AbstractStringBuilder" "value" "[B" (.ref y)) :
    own_Met l Z (⟨"java/lang/AbstractStringBuilder", "getValue", "()[B"⟩ : MethodName) jdk_68_method_64_code 1 (some (.array .byte)) ({ frames := 0, cells := 0, slots := 0, locals := 0 } : Room) n0 #[(.ref a)] h0 (fun v h => v = some (.ref y) ∧ h = h0) := by
  refine own_met (by decide +kernel) #[.val (.ref a)] (fun m => by first | (simp [entryFrame, mkF, argsToLocals, Value.category]; done) | rfl) ?_
  intro p e s m below meth c T0 C S0
  refine own_seg C S0 [(0, .aload_n 0, 1)] (by decide +kernel) 1 #[.val (.ref a)] [(.ref a)] rfl ?_
  refine own_getF C S0 (host := "") (Or.inl (own_wd hw 91 rfl)) Via.refl pF (by decide +kernel) ?_
  intro T257 S258
  refine own_retA C S258 rfl rfl (by decide +kernel) (by decide) (by decide) ?_
  exact ⟨rfl, rfl⟩
theorem own_asbL (l : Launch) (Z : State) (a0 : Array Value) (hw : ∀ d ∈ tables_1, d.before a0 Z = true) (a : Addr) (y : Int32) (h0 : Heap) (n0 : Nat) (z0 : n0 ≤ h0.size) (pF : Fld Z h0 a "java/lang/AbstractStringBuilder" "count" "I" (.int y)) :
    own_Met l Z (⟨"java/lang/AbstractStringBuilder", "length", "()I"⟩ : MethodName) jdk_68_method_6_code 1 (some .int) ({ frames := 0, cells := 0, slots := 0, locals := 0 } : Room) n0 #[(.ref a)] h0 (fun v h => v = some (.int y) ∧ h = h0) := by
  refine own_met (by decide +kernel) #[.val (.ref a)] (fun m => by first | (simp [entryFrame, mkF, argsToLocals, Value.category]; done) | rfl) ?_
  intro p e s m below meth c T0 C S0
  refine own_seg C S0 [(0, .aload_n 0, 1)] (by decide +kernel) 1 #[.val (.ref a)] [(.ref a)] rfl ?_
  refine own_getF C S0 (host := "") (Or.inl (own_wd hw 115 rfl)) Via.refl pF (by decide +kernel) ?_
  intro T259 S260
  refine own_retI C S260 (by decide +kernel) (by decide) (by decide) ?_
  exact ⟨rfl, rfl⟩
theorem own_sbL (l : Launch) (Z : State) (a0 : Array Value) (hw : ∀ d ∈ tables_1, d.before a0 Z = true) (a : Addr) (y : Int32) (h0 : Heap) (n0 : Nat) (z0 : n0 ≤ h0.size) (pF : Fld Z h0 a "java/lang/AbstractStringBuilder" "count" "I" (.int y)) (aE : Exa Z h0 a "java/lang/StringBuilder") :
    own_Met l Z (⟨"java/lang/StringBuilder", "length", "()I"⟩ : MethodName) jdk_67_method_93_code 1 (some .int) ({ frames := 1, cells := 0, slots := 0, locals := 12 } : Room) n0 #[(.ref a)] h0 (fun v h => v = some (.int y) ∧ h = h0) := by
  refine own_met (by decide +kernel) #[.val (.ref a)] (fun m => by first | (simp [entryFrame, mkF, argsToLocals, Value.category]; done) | rfl) ?_
  intro p e s m below meth c T0 C S0
  refine own_seg C S0 [(0, .aload_n 0, 1)] (by decide +kernel) 1 #[.val (.ref a)] [(.ref a)] rfl ?_
  refine own_callX C S0 (own_wd hw 166 rfl) (own_same (own_wd hw 162 rfl) (own_wd hw 120 rfl) rfl (by decide)) (own_wd hw 162 rfl) (own_wd hw 102 rfl) (by decide) (own_wd hw 167 rfl) (own_Met.pay (own_asbL l Z a0 hw a y h0 n0 z0 pF) C 0 (own_wd hw 167 rfl) (own_wd hw 87 rfl) (by decide) (by decide)) (fun _ _ _ q => q.2) (Ins.self aE) [] [] rfl own_pd8 rfl rfl rfl (Nat.le_of_ble_eq_true rfl) (by decide) (by decide) (by decide +kernel) ?_
  rintro T262 h263 v264 L265 S266 ⟨⟨rfl, e261⟩, -⟩
  rw [e261] at S266; clear e261
  show own_Go p e below _ T262 (mkF m 4 #[.val (.ref a)] [(.int y)])
  refine own_retI C S266 (by decide +kernel) (by decide) (by decide) ?_
  exact ⟨rfl, rfl⟩
theorem own_asbisL (l : Launch) (Z : State) (a0 : Array Value) (hw : ∀ d ∈ tables_1, d.before a0 Z = true) (G1 : Int32) (G3 : Value) (x : Addr) (h0 : Heap) (n0 : Nat) (z0 : n0 ≤ h0.size) (X00 : Old Z n0 h0) (pC : Fld Z h0 x "java/lang/AbstractStringBuilder" "coder" "B" (.int 0)) (O2 : Sta Z Z.heap "java/lang/String" "COMPACT_STRINGS" "Z" (.int G1)) (O4 : Sta Z Z.heap "jdk/internal/util/Preconditions" "SIOOBE_FORMATTER" "Ljava/util/function/BiFunction;" G3) (P5 : ¬ G1 = (0 : Int32)) (rG3 : G3.isRef = true) :
    own_Met l Z (⟨"java/lang/AbstractStringBuilder", "isLatin1", "()Z"⟩ : MethodName) jdk_68_method_68_code 1 (some .boolean) ({ frames := 0, cells := 0, slots := 0, locals := 0 } : Room) n0 #[(.ref x)] h0 (fun v h => v = some (.int 1) ∧ h = h0) := by
  refine own_met (by decide +kernel) #[.val (.ref x)] (fun m => by first | (simp [entryFrame, mkF, argsToLocals, Value.category]; done) | rfl) ?_
  intro p e s m below meth c T0 C S0
  refine own_getS C S0 (own_wd hw 90 rfl) Via.refl (O2.ext X00.2) (by decide +kernel) ?_
  intro T267 S268
  refine own_if C S268 (q := .eq) (o := 14) (by decide +kernel) 17 (by decide) (by decide) (fun (hq : G1 = (0 : Int32)) => False.elim (P5 hq)) (fun (q269 : ¬ G1 = (0 : Int32)) => ?_)
  refine own_seg C S268 [(6, .aload_n 0, 1)] (by decide +kernel) 7 #[.val (.ref x)] [(.ref x)] rfl ?_
  refine own_getF C S268 (host := "") (Or.inl (own_wd hw 93 rfl)) Via.refl pC (by decide +kernel) ?_
  intro T270 S271
  refine own_if C S271 (q := .ne) (o := 7) (by decide +kernel) 17 (by decide) (by decide) (fun (hq : ¬ 0 = (0 : Int32)) => False.elim (hq rfl)) (fun (q272 : 0 = (0 : Int32)) => ?_)
  refine own_seg C S271 [(13, .iconst 1, 1), (14, .goto 4, 3)] (by decide +kernel) 18 #[.val (.ref x)] [(.int 1)] rfl ?_
  refine own_retZ C S271 (by decide +kernel) (by decide) (by decide) (by decide) ?_
  exact ⟨rfl, rfl⟩
theorem own_pd13 : parseMethodDescriptor "()[B" = some ⟨[], (some (.array .byte))⟩ := by decide +kernel
theorem own_sn6 {Z : State} {a0 : Array Value} (hw : ∀ d ∈ tables_1, d.before a0 Z = true) : Jvm.RoadKit.slotOf Z "java/lang/String" "value" "[B" ≠ Jvm.RoadKit.slotOf Z "java/lang/String" "coder" "B" := slot_ne (Or.inr (own_wd hw 33 rfl)) (Or.inr (own_wd hw 31 rfl)) (by decide) own_fd0 own_fd1
theorem own_sn7 {Z : State} {a0 : Array Value} (hw : ∀ d ∈ tables_1, d.before a0 Z = true) : Jvm.RoadKit.slotOf Z "java/lang/String" "coder" "B" ≠ Jvm.RoadKit.slotOf Z "java/lang/String" "value" "[B" := slot_ne (Or.inr (own_wd hw 31 rfl)) (Or.inr (own_wd hw 33 rfl)) (by decide) own_fd1 own_fd0
theorem own_sib (l : Launch) (Z : State) (a0 : Array Value) (hw : ∀ d ∈ tables_1, d.before a0 Z = true) (G1 : Int32) (G3 : Value) (x : Addr) (a : Addr) (b : Addr) (bk : ClassId) (bN : Int32) (bvs : List Value) (cnt : Int32) (us : List Value) (h0 : Heap) (n0 : Nat) (z0 : n0 ≤ h0.size) (ge_x : n0 ≤ x) (X00 : Old Z n0 h0) (xE : Exa Z h0 x "java/lang/String") (xV : Fld Z h0 x "java/lang/String" "value" "[B" .null) (xC : Fld Z h0 x "java/lang/String" "coder" "B" (.int 0)) (aE : Exa Z h0 a "java/lang/StringBuilder") (aV : Fld Z h0 a "java/lang/AbstractStringBuilder" "value" "[B" (.ref b)) (aC : Fld Z h0 a "java/lang/AbstractStringBuilder" "coder" "B" (.int 0)) (aN : Fld Z h0 a "java/lang/AbstractStringBuilder" "count" "I" (.int cnt)) (bK : Arv Z h0 b bk .byte bN bvs (.int 0)) (ne_a_x : a ≠ x) (ne_b_x : b ≠ x) (O2 : Sta Z Z.heap "java/lang/String" "COMPACT_STRINGS" "Z" (.int G1)) (O4 : Sta Z Z.heap "jdk/internal/util/Preconditions" "SIOOBE_FORMATTER" "Ljava/util/function/BiFunction;" G3) (P5 : ¬ G1 = (0 : Int32)) (rG3 : G3.isRef = true) (t0 : ¬ cnt < (0 : Int32)) (t1 : ¬ bN < cnt) (t2 : ¬ cnt = bN) (t3 : cnt.toNatClampNeg ≤ 64) (t4 : ((List.range cnt.toNatClampNeg).map fun i => bvs.getD ((0 : Int32).toNatClampNeg + i) (.int 0)) = us) :
    own_Met l Z (⟨"java/lang/String", "<init>", "(Ljava/lang/AbstractStringBuilder;Ljava/lang/Void;)V"⟩ : MethodName) jdk_42_method_150_code 5 none ({ frames := 3, cells := 1, slots := 64, locals := 49 } : Room) n0 #[(.ref x), (.ref a), .null] h0 (fun v h => ∃ r : Addr, ∃ rk : ClassId, v = none ∧ h0.size ≤ r ∧ Keep h0 h [x] ∧ Exa Z h x "java/lang/String" ∧ Fld Z h x "java/lang/String" "coder" "B" (.int 0) ∧ Fld Z h x "java/lang/String" "value" "[B" (.ref r) ∧ Arv Z h r rk .byte cnt us (.int 0) ∧ Exa Z h r "[B") := by
  refine own_met (by decide +kernel) #[.val (.ref x), .val (.ref a), .val .null, .unset, .unset] (fun m => by first | (simp [entryFrame, mkF, argsToLocals, Value.category]; done) | rfl) ?_
  intro p e s m below meth c T0 C S0
  refine own_seg C S0 [(0, .aload_n 0, 1)] (by decide +kernel) 1 #[.val (.ref x), .val (.ref a), .val .null, .unset, .unset] [(.ref x)] rfl ?_
  refine own_initO C S0 (own_wd hw 15 rfl) (own_wd hw 16 rfl) (own_wd hw 17 rfl) rfl (by decide +kernel) (by decide) 0 (Nat.le_of_ble_eq_true rfl) (by decide) ?_
  intro T273 S274
  refine own_seg C S274 [(4, .aload_n 1, 1)] (by decide +kernel) 5 #[.val (.ref x), .val (.ref a), .val .null, .unset, .unset] [(.ref a)] rfl ?_
  refine own_callV C S274 (own_wd hw 155 rfl) (own_wd hw 156 rfl) (own_wd hw 158 rfl) (own_wd hw 158 rfl) rfl (own_wd hw 157 rfl) (by decide) (own_Met.pay (own_gv l Z a0 hw a b h0 n0 z0 aV) C 0 (own_wd hw 159 rfl) (own_wd hw 87 rfl) (by decide) (by decide)) (fun _ _ _ q => q.2) aE [] [] rfl own_pd13 rfl rfl rfl (Nat.le_of_ble_eq_true rfl) (by decide) (by decide) (by decide +kernel) ?_
  rintro T276 h277 v278 L279 S280 ⟨⟨rfl, e275⟩, -⟩
  rw [e275] at S280; clear e275
  show own_Go p e below _ T276 (mkF m 8 #[.val (.ref x), .val (.ref a), .val .null, .unset, .unset] [(.ref b)])
  refine own_seg C S280 [(8, .astore_n 3, 1), (9, .aload_n 1, 1)] (by decide +kernel) 10 #[.val (.ref x), .val (.ref a), .val .null, .val (.ref b), .unset] [(.ref a)] rfl ?_
  refine own_callV C S280 (own_wd hw 160 rfl) (own_wd hw 161 rfl) (own_wd hw 163 rfl) (own_wd hw 120 rfl) rfl (own_wd hw 164 rfl) (by decide) (own_Met.pay (own_sbL l Z a0 hw a cnt h0 n0 z0 aN aE) C 0 (own_wd hw 165 rfl) (own_wd hw 79 rfl) (by decide) (by decide)) (fun _ _ _ q => q.2) aE [] [] rfl own_pd8 rfl rfl rfl (Nat.le_of_ble_eq_true rfl) (by decide) (by decide) (by decide +kernel) ?_
  rintro T282 h283 v284 L285 S286 ⟨⟨rfl, e281⟩, -⟩
  rw [e281] at S286; clear e281
  show own_Go p e below _ T282 (mkF m 13 #[.val (.ref x), .val (.ref a), .val .null, .val (.ref b), .unset] [(.int cnt)])
  refine own_seg C S286 [(13, .istore 4, 2), (15, .aload_n 1, 1)] (by decide +kernel) 16 #[.val (.ref x), .val (.ref a), .val .null, .val (.ref b), .val (.int cnt)] [(.ref a)] rfl ?_
  refine own_callV C S286 (own_wd hw 168 rfl) (own_wd hw 169 rfl) (own_wd hw 171 rfl) (own_wd hw 171 rfl) rfl (own_wd hw 170 rfl) (by decide) (own_Met.pay (own_asbisL l Z a0 hw G1 G3 a h0 n0 z0 X00 aC O2 O4 P5 rG3) C 0 (own_wd hw 172 rfl) (own_wd hw 87 rfl) (by decide) (by decide)) (fun _ _ _ q => q.2) aE [] [] rfl own_pd3 rfl rfl rfl (Nat.le_of_ble_eq_true rfl) (by decide) (by decide) (by decide +kernel) ?_
  rintro T288 h289 v290 L291 S292 ⟨⟨rfl, e287⟩, -⟩
  rw [e287] at S292; clear e287
  show own_Go p e below _ T288 (mkF m 19 #[.val (.ref x), .val (.ref a), .val .null, .val (.ref b), .val (.int cnt)] [(.int 1)])
  refine own_if C S292 (q := .eq) (o := 22) (by decide +kernel) 41 (by decide) (by decide) (fun (hq : (1 : Int32) = (0 : Int32)) => False.elim (absurd hq (by decide))) (fun (q293 : ¬ (1 : Int32) = (0 : Int32)) => ?_)
  refine own_seg C S292 [(22, .aload_n 0, 1), (23, .iconst 0, 1)] (by decide +kernel) 24 #[.val (.ref x), .val (.ref a), .val .null, .val (.ref b), .val (.int cnt)] [(.int 0), (.ref x)] rfl ?_
  refine own_putF C S292 (ty := .byte) (host := "") (Or.inl (own_wd hw 30 rfl)) Via.refl xC xE (Or.inr ⟨(own_wd hw 31 rfl), rfl, rfl⟩) (own_wd hw 5 rfl) own_fd1 rfl rfl ge_x (by decide +kernel) ?_
  intro T294 h296 S295 W297
  have f298 : Fld Z h296 x "java/lang/String" "coder" "B" (.int 0) := Fld.same W297 xC
  refine own_seg C S295 [(27, .aload_n 0, 1), (28, .aload_n 3, 1), (29, .iconst 0, 1), (30, .iload 4, 2)] (by decide +kernel) 32 #[.val (.ref x), .val (.ref a), .val .null, .val (.ref b), .val (.int cnt)] [(.int cnt), (.int 0), (.ref b), (.ref x)] rfl ?_
  have f299 := (bK.other W297 ne_b_x)
  have f300 : n0 ≤ h296.size := (by rw [W297.size]; exact z0)
  refine own_callS C S295 (own_wd hw 173 rfl) (own_wd hw 174 rfl) (own_wd hw 175 rfl) (own_wd hw 176 rfl) (by decide) (own_Met.pay (own_cor l Z a0 hw b _ _ _ cnt us h296 n0 f300 f299 t0 t1 t2 t3 t4) C 1 (own_wd hw 176 rfl) (own_wd hw 175 rfl) (by decide) (by decide)) (fun _ _ _ q => q.2) [(.ref b), (.int 0), (.int cnt)] [(.ref x)] rfl own_pd12 rfl rfl rfl (Nat.le_of_ble_eq_true rfl) (by decide) (by decide) (by decide +kernel) ?_
  rintro T307 h308 v309 L310 S311 ⟨⟨a301, k302, rfl, g303, K304, f305, f306⟩, -⟩
  show own_Go p e below _ T307 (mkF m 35 #[.val (.ref x), .val (.ref a), .val .null, .val (.ref b), .val (.int cnt)] [(.ref a301), (.ref x)])
  have f312 := ((Fld.other W297 xV (Or.inr (own_sn6 hw))).keep K304 nin0)
  have f313 := ((Exa.wr W297 xE).keep K304)
  refine own_putF C S311 (ty := (.array .byte)) (host := "") (Or.inl (own_wd hw 32 rfl)) Via.refl f312 f313 (Or.inr ⟨(own_wd hw 33 rfl), rfl, rfl⟩) (own_wd hw 5 rfl) own_fd0 rfl rfl ge_x (by decide +kernel) ?_
  intro T314 h316 S315 W317
  have f318 : Fld Z h316 x "java/lang/String" "value" "[B" (.ref a301) := Fld.same W317 f312
  refine own_seg C S315 [(38, .goto 59, 3)] (by decide +kernel) 97 #[.val (.ref x), .val (.ref a), .val .null, .val (.ref b), .val (.int cnt)] [] rfl ?_
  refine own_retV C S315 (by decide +kernel) (by decide) (by decide) ?_
  have o320 : h0.size ≤ h296.size := (by rw [W297.size]; exact (Nat.le_refl _))
  have o319 : h0.size ≤ a301 := Nat.le_trans o320 g303
  have f321 := (Exa.wr W317 f313)
  have f322 := (Fld.other W317 (f298.keep K304 nin0) (Or.inr (own_sn7 hw)))
  have f323 : x < h296.size := (by rw [W297.size]; exact xC.lt)
  have n324 : x ≠ a301 := Nat.ne_of_lt (Nat.lt_of_lt_of_le f323 g303)
  have f325 := (f305.other W317 (Ne.symm n324))
  have f326 := (Exa.wr W317 f306)
  exact ⟨a301, k302, rfl, o319, ((((Keep.refl _ _).wr W297 (Or.inl (List.mem_of_getElem? (i := 0) rfl))).trans K304 all0).wr W317 (Or.inl (List.mem_of_getElem? (i := 0) rfl))), f321, f322, f318, f325, f326⟩
theorem own_pd14 : parseMethodDescriptor "(Ljava/lang/AbstractStringBuilder;Ljava/lang/Void;)V" = some ⟨[(.object "java/lang/AbstractStringBuilder"), (.object "java/lang/Void")], none⟩ := by decide +kernel
theorem own_sib2 (l : Launch) (Z : State) (a0 : Array Value) (hw : ∀ d ∈ tables_1, d.before a0 Z = true) (G1 : Int32) (G3 : Value) (x : Addr) (a : Addr) (b : Addr) (bk : ClassId) (bN : Int32) (bvs : List Value) (cnt : Int32) (us : List Value) (h0 : Heap) (n0 : Nat) (z0 : n0 ≤ h0.size) (ge_x : n0 ≤ x) (X00 : Old Z n0 h0) (xE : Exa Z h0 x "java/lang/String") (xV : Fld Z h0 x "java/lang/String" "value" "[B" .null) (xC : Fld Z h0 x "java/lang/String" "coder" "B" (.int 0)) (aE : Exa Z h0 a "java/lang/StringBuilder") (aV : Fld Z h0 a "java/lang/AbstractStringBuilder" "value" "[B" (.ref b)) (aC : Fld Z h0 a "java/lang/AbstractStringBuilder" "coder" "B" (.int 0)) (aN : Fld Z h0 a "java/lang/AbstractStringBuilder" "count" "I" (.int cnt)) (bK : Arv Z h0 b bk .byte bN bvs (.int 0)) (ne_a_x : a ≠ x) (ne_b_x : b ≠ x) (O2 : Sta Z Z.heap "java/lang/String" "COMPACT_STRINGS" "Z" (.int G1)) (O4 : Sta Z Z.heap "jdk/internal/util/Preconditions" "SIOOBE_FORMATTER" "Ljava/util/function/BiFunction;" G3) (P5 : ¬ G1 = (0 : Int32)) (rG3 : G3.isRef = true) (t0 : ¬ cnt < (0 : Int32)) (t1 : ¬ bN < cnt) (t2 : ¬ cnt = bN) (t3 : cnt.toNatClampNeg ≤ 64) (t4 : ((List.range cnt.toNatClampNeg).map fun i => bvs.getD ((0 : Int32).toNatClampNeg + i) (.int 0)) = us) :
    own_Met l Z (⟨"java/lang/String", "<init>", "(Ljava/lang/StringBuilder;)V"⟩ : MethodName) jdk_42_method_53_code 2 none ({ frames := 4, cells := 1, slots := 64, locals := 65 } : Room) n0 #[(.ref x), (.ref a)] h0 (fun v h => ∃ r : Addr, ∃ rk : ClassId, v = none ∧ h0.size ≤ r ∧ Keep h0 h [x] ∧ Exa Z h x "java/lang/String" ∧ Fld Z h x "java/lang/String" "coder" "B" (.int 0) ∧ Fld Z h x "java/lang/String" "value" "[B" (.ref r) ∧ Arv Z h r rk .byte cnt us (.int 0) ∧ Exa Z h r "[B") := by
  refine own_met (by decide +kernel) #[.val (.ref x), .val (.ref a)] (fun m => by first | (simp [entryFrame, mkF, argsToLocals, Value.category]; done) | rfl) ?_
  intro p e s m below meth c T0 C S0
  refine own_seg C S0 [(0, .aload_n 0, 1), (1, .aload_n 1, 1), (2, .aconst_null, 1)] (by decide +kernel) 3 #[.val (.ref x), .val (.ref a)] [.null, (.ref a), (.ref x)] rfl ?_
  refine own_callI C S0 rfl (own_wd hw 152 rfl) (own_wd hw 153 rfl) (own_wd hw 154 rfl) (by decide) (own_Met.pay (own_sib l Z a0 hw G1 G3 x a _ _ _ _ _ us h0 n0 z0 ge_x X00 xE xV xC aE aV aC aN bK ne_a_x ne_b_x O2 O4 P5 rG3 t0 t1 t2 t3 t4) C 0 (own_wd hw 154 rfl) (own_wd hw 6 rfl) (by decide) (by decide)) (fun _ _ _ q => q.2) [(.ref a), .null] [] rfl own_pd14 rfl rfl rfl (Nat.le_of_ble_eq_true rfl) (by decide) (by decide) (by decide +kernel) ?_
  rintro T336 h337 v338 L339 S340 ⟨⟨a327, k328, rfl, g329, K330, f331, f332, f333, f334, f335⟩, -⟩
  show own_Go p e below _ T336 (mkF m 6 #[.val (.ref x), .val (.ref a)] [])
  refine own_retV C S340 (by decide +kernel) (by decide) (by decide) ?_
  have o341 : h0.size ≤ a327 := Nat.le_trans (Nat.le_refl _) g329
  exact ⟨a327, k328, rfl, o341, ((Keep.refl _ _).trans K330 (allS (Or.inl (List.mem_of_getElem? (i := 0) rfl)) all0)), f331, f332, f333, f334, f335⟩
theorem own_pd15 : parseMethodDescriptor "(Ljava/lang/StringBuilder;)V" = some ⟨[(.object "java/lang/StringBuilder")], none⟩ := by decide +kernel
theorem own_ts (l : Launch) (Z : State) (a0 : Array Value) (hw : ∀ d ∈ tables_1, d.before a0 Z = true) (G1 : Int32) (G3 : Value) (a : Addr) (b : Addr) (bk : ClassId) (bN : Int32) (bvs : List Value) (cnt : Int32) (us : List Value) (h0 : Heap) (n0 : Nat) (z0 : n0 ≤ h0.size) (X00 : Old Z n0 h0) (aE : Exa Z h0 a "java/lang/StringBuilder") (aV : Fld Z h0 a "java/lang/AbstractStringBuilder" "value" "[B" (.ref b)) (aC : Fld Z h0 a "java/lang/AbstractStringBuilder" "coder" "B" (.int 0)) (aN : Fld Z h0 a "java/lang/AbstractStringBuilder" "count" "I" (.int cnt)) (bK : Arv Z h0 b bk .byte bN bvs (.int 0)) (O2 : Sta Z Z.heap "java/lang/String" "COMPACT_STRINGS" "Z" (.int G1)) (O4 : Sta Z Z.heap "jdk/internal/util/Preconditions" "SIOOBE_FORMATTER" "Ljava/util/function/BiFunction;" G3) (P5 : ¬ G1 = (0 : Int32)) (rG3 : G3.isRef = true) (t0 : ¬ cnt < (0 : Int32)) (t1 : ¬ bN < cnt) (t2 : ¬ cnt = bN) (t3 : cnt.toNatClampNeg ≤ 64) (t4 : ((List.range cnt.toNatClampNeg).map fun i => bvs.getD ((0 : Int32).toNatClampNeg + i) (.int 0)) = us) :
    own_Met l Z (⟨"java/lang/StringBuilder", "toString", "()Ljava/lang/String;"⟩ : MethodName) jdk_67_method_42_code 1 (some (.object "java/lang/String")) ({ frames := 5, cells := 2, slots := 68, locals := 79 } : Room) n0 #[(.ref a)] h0 (fun v h => ∃ x : Addr, ∃ r : Addr, ∃ rk : ClassId, v = some (.ref x) ∧ h0.size ≤ x ∧ h0.size ≤ r ∧ Keep h0 h [] ∧ Exa Z h x "java/lang/String" ∧ Fld Z h x "java/lang/String" "coder" "B" (.int 0) ∧ Fld Z h x "java/lang/String" "value" "[B" (.ref r) ∧ Arv Z h r rk .byte cnt us (.int 0) ∧ Exa Z h r "[B") := by
  refine own_met (by decide +kernel) #[.val (.ref a)] (fun m => by first | (simp [entryFrame, mkF, argsToLocals, Value.category]; done) | rfl) ?_
  intro p e s m below meth c T0 C S0
  refine own_new C S0 (own_wd hw 148 rfl) (own_wd hw 5 rfl) (own_wd hw 6 rfl) (by decide +kernel) (by decide) (by decide) ?_
  intro T342 h344 a345 S343 g346 E347 x348 D349
  have f350 : Fld Z h344 a345 "java/lang/String" "coder" "B" (.int 0) := D349 (ty := .byte) (Or.inr (own_wd hw 31 rfl)) own_fd1
  have f351 : Fld Z h344 a345 "java/lang/String" "value" "[B" .null := D349 (ty := (.array .byte)) (Or.inr (own_wd hw 33 rfl)) own_fd0
  refine own_seg C S343 [(3, .dup, 1), (4, .aload_n 0, 1)] (by decide +kernel) 5 #[.val (.ref a)] [(.ref a), (.ref a345), (.ref a345)] rfl ?_
  have f352 := (X00.ext E347)
  have f353 := (Exa.ext E347 aE)
  have f354 := (Fld.ext E347 aV)
  have f355 := (Fld.ext E347 aC)
  have f356 := (Fld.ext E347 aN)
  have f357 := (bK.ext E347)
  have f358 : n0 ≤ h344.size := (Nat.le_trans z0 E347.1)
  have g359 : n0 ≤ a345 := by rw [g346]; exact z0
  have n360 : a ≠ a345 := by rw [g346]; exact Nat.ne_of_lt aE.lt
  have n361 : b ≠ a345 := by rw [g346]; exact Nat.ne_of_lt bK.lt
  refine own_callI C S343 rfl (own_wd hw 149 rfl) (own_wd hw 150 rfl) (own_wd hw 151 rfl) (by decide) (own_Met.pay (own_sib2 l Z a0 hw G1 G3 a345 a _ _ _ _ _ us h344 n0 f358 g359 f352 x348 f351 f350 f353 f354 f355 f356 f357 n360 n361 O2 O4 P5 rG3 t0 t1 t2 t3 t4) C 1 (own_wd hw 151 rfl) (own_wd hw 6 rfl) (by decide) (by decide)) (fun _ _ _ q => q.2) [(.ref a)] [(.ref a345)] rfl own_pd15 rfl rfl rfl (Nat.le_of_ble_eq_true rfl) (by decide) (by decide) (by decide +kernel) ?_
  rintro T371 h372 v373 L374 S375 ⟨⟨a362, k363, rfl, g364, K365, f366, f367, f368, f369, f370⟩, -⟩
  show own_Go p e below _ T371 (mkF m 8 #[.val (.ref a)] [(.ref a345)])
  refine own_retA C S375 rfl rfl (by decide +kernel) (by decide) (by decide) ?_
  have o376 : h0.size ≤ a345 := by rw [g346]; exact (Nat.le_refl _)
  have o378 : h0.size ≤ h344.size := (Nat.le_trans (Nat.le_refl _) E347.1)
  have o377 : h0.size ≤ a362 := Nat.le_trans o378 g364
  exact ⟨a345, a362, k363, rfl, o376, o377, (((Keep.refl _ _).ext E347).trans K365 (allS (Or.inr o376) all0)), f366, f367, f368, f369, f370⟩
theorem own_se4 (l : Launch) (Z : State) (a0 : Array Value) (hw : ∀ d ∈ tables_1, d.before a0 Z = true) (hEL : EW Z a0 own_EL) (wS : ∀ a ∈ Bundle.stringAtoms, a.before a0 Z = true) (x : Addr) (y : Addr) (h0 : Heap) (n0 : Nat) (z0 : n0 ≤ h0.size) (ge_x : n0 ≤ x) (xE : Exa Z h0 x "java/lang/String") (xV : Fld Z h0 x "java/lang/String" "value" "[B" .null) (xC : Fld Z h0 x "java/lang/String" "coder" "B" (.int 0)) :
    own_MetW l Z own_EL (⟨"java/lang/String", "<init>", "([CIILjava/lang/Void;)V"⟩ : MethodName) jdk_42_method_149_code 6 none ({ frames := 1, cells := 4, slots := 8, locals := 12 } : Room) n0 #[(.ref x), (.ref y), (.int 0), (.int 0), .null] h0 [x] (fun v h => ∃ t : Addr, ∃ tk : ClassId, v = none ∧ Keep h0 h [x] ∧ Exa Z h x "java/lang/String" ∧ Fld Z h x "java/lang/String" "coder" "B" (.int 0) ∧ Fld Z h x "java/lang/String" "value" "[B" (.ref t) ∧ Arv Z h t tk .byte (0 : Int32) ([]) (.int 0)) := by
  refine own_metW hEL wS (by decide +kernel) #[.val (.ref x), .val (.ref y), .val (.int 0), .val (.int 0), .val .null, .unset] (fun m => by first | (simp [entryFrame, mkF, argsToLocals, Value.category]; done) | rfl) ?_
  intro p e s m below meth c T0 CW SW0
  refine own_lift CW SW0 ?_
  intro vm379 C S380 rb381
  refine own_seg C S380 [(0, .aload_n 0, 1)] (by decide +kernel) 1 #[.val (.ref x), .val (.ref y), .val (.int 0), .val (.int 0), .val .null, .unset] [(.ref x)] rfl ?_
  refine own_initO C S380 (own_wd hw 15 rfl) (own_wd hw 16 rfl) (own_wd hw 17 rfl) rfl (by decide +kernel) (by decide) 0 (Nat.le_of_ble_eq_true rfl) (by decide) ?_
  intro T382 S383
  refine own_seg C S383 [(4, .iload_n 3, 1)] (by decide +kernel) 5 #[.val (.ref x), .val (.ref y), .val (.int 0), .val (.int 0), .val .null, .unset] [(.int 0)] rfl ?_
  refine own_if C S383 (q := .ne) (o := 22) (by decide +kernel) 27 (by decide) (by decide) (fun (hq : ¬ (0 : Int32) = (0 : Int32)) => False.elim (hq rfl)) (fun (q384 : (0 : Int32) = (0 : Int32)) => ?_)
  refine own_seg C S383 [(8, .aload_n 0, 1)] (by decide +kernel) 9 #[.val (.ref x), .val (.ref y), .val (.int 0), .val (.int 0), .val .null, .unset] [(.ref x)] rfl ?_
  have SW385 := rb381 _ _ _ _ [] [] S383 (Keep.refl _ _) all0 all0
  refine own_ldcWE CW SW385 (own_wd hw 34 rfl) (List.mem_of_getElem? (i := 1) rfl) (z := (0 : Int32)) (vs := []) ⟨by decide, by decide⟩ (by decide) rfl (by decide +kernel) 0 (by decide) (by decide) (by decide) (by decide) ?_
  intro T386 h387 a388 b389 k390 SW391 E392 x393 f394 f395 f396 ne397 x398
  have hp399 : ∀ c ∈ ([] : List Int32), ¬ c < 0 ∧ ¬ (255 : Int32) < c := by decide
  have hcd400 : StrChars.Road.CodA ([] : List Int32) 0 (0 : Int32) [] := StrChars.Road.codOf (cs := ([] : List Int32)) (n := 0) rfl (fun c hc => (hp399 c hc).2)
  refine own_lift CW SW391 ?_
  intro vm401 C S402 rb403
  refine own_getF C S402 (host := "") (Or.inl (own_wd hw 32 rfl)) Via.refl f395 (by decide +kernel) ?_
  intro T404 S405
  have f406 := (Fld.ext E392 xV)
  have f407 := (Exa.ext E392 xE)
  refine own_putF C S405 (ty := (.array .byte)) (host := "") (Or.inl (own_wd hw 32 rfl)) Via.refl f406 f407 (Or.inr ⟨(own_wd hw 33 rfl), rfl, rfl⟩) (own_wd hw 5 rfl) own_fd0 rfl rfl ge_x (by decide +kernel) ?_
  intro T408 h410 S409 W411
  have f412 : Fld Z h410 x "java/lang/String" "value" "[B" (.ref b389) := Fld.same W411 f406
  refine own_seg C S409 [(17, .aload_n 0, 1)] (by decide +kernel) 18 #[.val (.ref x), .val (.ref y), .val (.int 0), .val (.int 0), .val .null, .unset] [(.ref x)] rfl ?_
  have SW413 := rb403 _ _ _ _ [x] [] S409 ((Keep.refl _ _).wr W411 (Or.inl (List.mem_of_getElem? (i := 0) rfl))) (allS (List.mem_of_getElem? (i := 0) rfl) all0) all0
  refine own_ldcWE CW SW413 (own_wd hw 34 rfl) (List.mem_of_getElem? (i := 1) rfl) (z := (0 : Int32)) (vs := []) ⟨by decide, by decide⟩ (by decide) rfl (by decide +kernel) 0 (by decide) (by decide) (by decide) (by decide) ?_
  intro T414 h415 a416 b417 k418 SW419 E420 x421 f422 f423 f424 ne425 x426
  have hp427 : ∀ c ∈ ([] : List Int32), ¬ c < 0 ∧ ¬ (255 : Int32) < c := by decide
  have hcd428 : StrChars.Road.CodA ([] : List Int32) 0 (0 : Int32) [] := StrChars.Road.codOf (cs := ([] : List Int32)) (n := 0) rfl (fun c hc => (hp427 c hc).2)
  refine own_lift CW SW419 ?_
  intro vm429 C S430 rb431
  refine own_getF C S430 (host := "") (Or.inl (own_wd hw 30 rfl)) Via.refl f422 (by decide +kernel) ?_
  intro T432 S433
  have f434 := (Fld.ext E420 (Fld.other W411 (Fld.ext E392 xC) (Or.inr (own_sn7 hw))))
  have f435 := (Exa.ext E420 (Exa.wr W411 f407))
  refine own_putF C S433 (ty := .byte) (host := "") (Or.inl (own_wd hw 30 rfl)) Via.refl f434 f435 (Or.inr ⟨(own_wd hw 31 rfl), rfl, rfl⟩) (own_wd hw 5 rfl) own_fd1 rfl rfl ge_x (by decide +kernel) ?_
  intro T436 h438 S437 W439
  have f440 : Fld Z h438 x "java/lang/String" "coder" "B" (.int 0) := Fld.same W439 f434
  have SW441 := rb431 _ _ _ _ [x] [] S437 ((Keep.refl _ _).wr W439 (Or.inl (List.mem_of_getElem? (i := 0) rfl))) (allS (List.mem_of_getElem? (i := 0) rfl) all0) all0
  refine own_retVW CW SW441 (by decide +kernel) (by decide) (by decide) ?_
  have f442 := (Exa.wr W439 f435)
  have f443 := (Fld.other W439 (Fld.ext E420 f412) (Or.inr (own_sn6 hw)))
  have f444 := (((f396.other W411 (Ne.symm (ne397 x (List.mem_of_getElem? (i := 0) rfl)).2)).ext E420).other W439 (Ne.symm (ne397 x (List.mem_of_getElem? (i := 0) rfl)).2))
  exact ⟨b389, k390, rfl, (((((Keep.refl _ _).ext E392).wr W411 (Or.inl (List.mem_of_getElem? (i := 0) rfl))).ext E420).wr W439 (Or.inl (List.mem_of_getElem? (i := 0) rfl))), f442, f440, f443, f444⟩
theorem own_pd16 : parseMethodDescriptor "([CIILjava/lang/Void;)V" = some ⟨[(.array .char), .int, .int, (.object "java/lang/Void")], none⟩ := by decide +kernel
theorem own_se1 (l : Launch) (Z : State) (a0 : Array Value) (hw : ∀ d ∈ tables_1, d.before a0 Z = true) (hEL : EW Z a0 own_EL) (wS : ∀ a ∈ Bundle.stringAtoms, a.before a0 Z = true) (x : Addr) (y : Addr) (yk : ClassId) (yvs : List Value) (yd : Value) (h0 : Heap) (n0 : Nat) (z0 : n0 ≤ h0.size) (ge_x : n0 ≤ x) (xE : Exa Z h0 x "java/lang/String") (xV : Fld Z h0 x "java/lang/String" "value" "[B" .null) (xC : Fld Z h0 x "java/lang/String" "coder" "B" (.int 0)) (yK : Arv Z h0 y yk .char (0 : Int32) yvs yd) :
    own_MetW l Z own_EL (⟨"java/lang/String", "<init>", "([C)V"⟩ : MethodName) jdk_42_method_3_code 2 none ({ frames := 2, cells := 4, slots := 8, locals := 29 } : Room) n0 #[(.ref x), (.ref y)] h0 [x] (fun v h => ∃ t : Addr, ∃ tk : ClassId, v = none ∧ Keep h0 h [x] ∧ Exa Z h x "java/lang/String" ∧ Fld Z h x "java/lang/String" "coder" "B" (.int 0) ∧ Fld Z h x "java/lang/String" "value" "[B" (.ref t) ∧ Arv Z h t tk .byte (0 : Int32) ([]) (.int 0)) := by
  refine own_metW hEL wS (by decide +kernel) #[.val (.ref x), .val (.ref y)] (fun m => by first | (simp [entryFrame, mkF, argsToLocals, Value.category]; done) | rfl) ?_
  intro p e s m below meth c T0 CW SW0
  refine own_lift CW SW0 ?_
  intro vm445 C S446 rb447
  refine own_seg C S446 [(0, .aload_n 0, 1), (1, .aload_n 1, 1), (2, .iconst 0, 1), (3, .aload_n 1, 1)] (by decide +kernel) 4 #[.val (.ref x), .val (.ref y)] [(.ref y), (.int 0), (.ref y), (.ref x)] rfl ?_
  refine own_alen C S446 yK (by decide +kernel) ?_
  refine own_seg C S446 [(5, .aconst_null, 1)] (by decide +kernel) 6 #[.val (.ref x), .val (.ref y)] [.null, (.int 0), (.int 0), (.ref y), (.ref x)] rfl ?_
  have SW448 := rb447 _ _ _ _ [] [] S446 (Keep.refl _ _) all0 all0
  refine own_callIW CW SW448 rfl (own_wd hw 11 rfl) (own_wd hw 12 rfl) (own_wd hw 6 rfl) (own_wd hw 14 rfl) (by decide) (own_se4 l Z a0 hw hEL wS x y h0 n0 z0 ge_x xE xV xC) (allS (List.mem_of_getElem? (i := 0) rfl) all0) 0 (by decide) (by decide) [(.ref y), (.int 0), (.int 0), .null] [] rfl own_pd16 rfl rfl rfl (Nat.le_of_ble_eq_true rfl) (by decide) (by decide) (by decide +kernel) ?_
  rintro T461 h462 v463 SW464 hg465 ⟨a449, k450, rfl, K451, f452, f453, f454, f455⟩
  show own_Go p e below _ T461 (mkF m 9 #[.val (.ref x), .val (.ref y)] [])
  refine own_retVW CW SW464 (by decide +kernel) (by decide) (by decide) ?_
  exact ⟨a449, k450, rfl, ((Keep.refl _ _).trans K451 (allS (Or.inl (List.mem_of_getElem? (i := 0) rfl)) all0)), f452, f453, f454, f455⟩
theorem own_cec (l : Launch) (Z : State) (a0 : Array Value) (hw : ∀ d ∈ tables_1, d.before a0 Z = true) (k : Int32) (h0 : Heap) (n0 : Nat) (z0 : n0 ≤ h0.size) (k0 : ¬ (255 : Int32) < k) :
    own_Met l Z (⟨"java/lang/StringLatin1", "canEncode", "(C)Z"⟩ : MethodName) jdk_43_method_3_code 1 (some .boolean) ({ frames := 0, cells := 0, slots := 0, locals := 0 } : Room) n0 #[(.int k)] h0 (fun v h => v = some (.int 1) ∧ h = h0) := by
  refine own_met (by decide +kernel) #[.val (.int k)] (fun m => by first | (simp [entryFrame, mkF, argsToLocals, Value.category]; done) | rfl) ?_
  intro p e s m below meth c T0 C S0
  refine own_seg C S0 [(0, .iload_n 0, 1), (1, .sipush 255, 3)] (by decide +kernel) 4 #[.val (.int k)] [(.int 255), (.int k)] rfl ?_
  refine own_icmp C S0 (q := .gt) (o := 7) (by decide +kernel) 11 (by decide) (by decide) (fun (hq : (255 : Int32) < k) => False.elim (k0 hq)) (fun (q466 : ¬ (255 : Int32) < k) => ?_)
  refine own_seg C S0 [(7, .iconst 1, 1), (8, .goto 4, 3)] (by decide +kernel) 12 #[.val (.int k)] [(.int 1)] rfl ?_
  refine own_retZ C S0 (by decide +kernel) (by decide) (by decide) (by decide) ?_
  exact ⟨rfl, rfl⟩
theorem own_si (l : Launch) (Z : State) (a0 : Array Value) (hw : ∀ d ∈ tables_1, d.before a0 Z = true) (x : Addr) (b : Addr) (h0 : Heap) (n0 : Nat) (z0 : n0 ≤ h0.size) (ge_x : n0 ≤ x) (xE : Exa Z h0 x "java/lang/String") (xV : Fld Z h0 x "java/lang/String" "value" "[B" .null) (xC : Fld Z h0 x "java/lang/String" "coder" "B" (.int 0)) :
    own_Met l Z (⟨"java/lang/String", "<init>", "([BB)V"⟩ : MethodName) jdk_42_method_151_code 3 none ({ frames := 1, cells := 0, slots := 0, locals := 12 } : Room) n0 #[(.ref x), (.ref b), (.int 0)] h0 (fun v h => v = none ∧ Keep h0 h [x] ∧ Exa Z h x "java/lang/String" ∧ Fld Z h x "java/lang/String" "value" "[B" (.ref b) ∧ Fld Z h x "java/lang/String" "coder" "B" (.int 0)) := by
  refine own_met (by decide +kernel) #[.val (.ref x), .val (.ref b), .val (.int 0)] (fun m => by first | (simp [entryFrame, mkF, argsToLocals, Value.category]; done) | rfl) ?_
  intro p e s m below meth c T0 C S0
  refine own_seg C S0 [(0, .aload_n 0, 1)] (by decide +kernel) 1 #[.val (.ref x), .val (.ref b), .val (.int 0)] [(.ref x)] rfl ?_
  refine own_initO C S0 (own_wd hw 15 rfl) (own_wd hw 16 rfl) (own_wd hw 17 rfl) rfl (by decide +kernel) (by decide) 0 (Nat.le_of_ble_eq_true rfl) (by decide) ?_
  intro T467 S468
  refine own_seg C S468 [(4, .aload_n 0, 1), (5, .aload_n 1, 1)] (by decide +kernel) 6 #[.val (.ref x), .val (.ref b), .val (.int 0)] [(.ref b), (.ref x)] rfl ?_
  refine own_putF C S468 (ty := (.array .byte)) (host := "") (Or.inl (own_wd hw 32 rfl)) Via.refl xV xE (Or.inr ⟨(own_wd hw 33 rfl), rfl, rfl⟩) (own_wd hw 5 rfl) own_fd0 rfl rfl ge_x (by decide +kernel) ?_
  intro T469 h471 S470 W472
  have f473 : Fld Z h471 x "java/lang/String" "value" "[B" (.ref b) := Fld.same W472 xV
  refine own_seg C S470 [(9, .aload_n 0, 1), (10, .iload_n 2, 1)] (by decide +kernel) 11 #[.val (.ref x), .val (.ref b), .val (.int 0)] [(.int 0), (.ref x)] rfl ?_
  have f474 := (Fld.other W472 xC (Or.inr (own_sn7 hw)))
  have f475 := (Exa.wr W472 xE)
  refine own_putF C S470 (ty := .byte) (host := "") (Or.inl (own_wd hw 30 rfl)) Via.refl f474 f475 (Or.inr ⟨(own_wd hw 31 rfl), rfl, rfl⟩) (own_wd hw 5 rfl) own_fd1 rfl rfl ge_x (by decide +kernel) ?_
  intro T476 h478 S477 W479
  have f480 : Fld Z h478 x "java/lang/String" "coder" "B" (.int 0) := Fld.same W479 f474
  refine own_retV C S477 (by decide +kernel) (by decide) (by decide) ?_
  have f481 := (Exa.wr W479 f475)
  have f482 := (Fld.other W479 f473 (Or.inr (own_sn6 hw)))
  exact ⟨rfl, (((Keep.refl _ _).wr W472 (Or.inl (List.mem_of_getElem? (i := 0) rfl))).wr W479 (Or.inl (List.mem_of_getElem? (i := 0) rfl))), f481, f482, f480⟩
theorem own_tb (l : Launch) (Z : State) (a0 : Array Value) (hw : ∀ d ∈ tables_1, d.before a0 Z = true) (k : Int32) (h0 : Heap) (n0 : Nat) (z0 : n0 ≤ h0.size) :
    own_Met l Z (⟨"java/lang/StringLatin1", "toBytes", "(C)[B"⟩ : MethodName) jdk_43_method_46_code 1 (some (.array .byte)) ({ frames := 0, cells := 1, slots := 1, locals := 0 } : Room) n0 #[(.int k)] h0 (fun v h => ∃ r : Addr, ∃ rk : ClassId, v = some (.ref r) ∧ h0.size ≤ r ∧ Keep h0 h [] ∧ Arv Z h r rk .byte (1 : Int32) ([(.int k.toInt8.toInt32)]) (.int 0) ∧ Exa Z h r "[B") := by
  refine own_met (by decide +kernel) #[.val (.int k)] (fun m => by first | (simp [entryFrame, mkF, argsToLocals, Value.category]; done) | rfl) ?_
  intro p e s m below meth c T0 C S0
  refine own_seg C S0 [(0, .iconst 1, 1)] (by decide +kernel) 1 #[.val (.int k)] [(.int 1)] rfl ?_
  refine own_newPE C S0 (aty := .byte) (ad := "[B") (by decide) (own_wd hw 23 rfl) (by decide +kernel) (by decide) 1 (by decide) (by decide) (by decide) (by decide) ?_
  intro T483 h485 a486 k487 S484 g488 E489 f490 x491
  have f492 : Arv Z h485 a486 k487 .byte (1 : Int32) ([(.int 0)]) (.int 0) := Arv.pad f490 (pad_rep [] (.int 0) 1)
  refine own_seg C S484 [(3, .dup, 1), (4, .iconst 0, 1), (5, .iload_n 0, 1), (6, .i2b, 1)] (by decide +kernel) 7 #[.val (.int k)] [(.int k.toInt8.toInt32), (.int 0), (.ref a486), (.ref a486)] rfl ?_
  have g493 : n0 ≤ a486 := by rw [g488]; exact z0
  refine own_bastore C S484 f492 ⟨(by decide), (by decide)⟩ 0 rfl (Nat.le_of_ble_eq_true rfl) k.toInt8.toInt32 (own_i2b2 _) g493 (by decide +kernel) ?_
  intro T494 h496 S495 W497 f498
  have f499 : Arv Z h496 a486 k487 .byte (1 : Int32) ([(.int k.toInt8.toInt32)]) (.int 0) := f498
  refine own_retA C S495 rfl rfl (by decide +kernel) (by decide) (by decide) ?_
  have o500 : h0.size ≤ a486 := by rw [g488]; exact (Nat.le_refl _)
  have f501 := (Exa.wr W497 x491)
  exact ⟨a486, k487, rfl, o500, (((Keep.refl _ _).ext E489).wr W497 (Or.inr o500)), f499, f501⟩
theorem own_pd17 : parseMethodDescriptor "(C)Z" = some ⟨[.char], (some .boolean)⟩ := by decide +kernel
theorem own_pd18 : parseMethodDescriptor "(C)[B" = some ⟨[.char], (some (.array .byte))⟩ := by decide +kernel
theorem own_pd19 : parseMethodDescriptor "([BB)V" = some ⟨[(.array .byte), .byte], none⟩ := by decide +kernel
theorem own_vo (l : Launch) (Z : State) (a0 : Array Value) (hw : ∀ d ∈ tables_1, d.before a0 Z = true) (G1 : Int32) (G3 : Value) (k : Int32) (h0 : Heap) (n0 : Nat) (z0 : n0 ≤ h0.size) (X00 : Old Z n0 h0) (O2 : Sta Z Z.heap "java/lang/String" "COMPACT_STRINGS" "Z" (.int G1)) (O4 : Sta Z Z.heap "jdk/internal/util/Preconditions" "SIOOBE_FORMATTER" "Ljava/util/function/BiFunction;" G3) (P5 : ¬ G1 = (0 : Int32)) (rG3 : G3.isRef = true) (k0 : ¬ (255 : Int32) < k) :
    own_Met l Z (⟨"java/lang/String", "valueOf", "(C)Ljava/lang/String;"⟩ : MethodName) jdk_42_method_139_code 1 (some (.object "java/lang/String")) ({ frames := 2, cells := 2, slots := 5, locals := 27 } : Room) n0 #[(.int k)] h0 (fun v h => ∃ x : Addr, ∃ r : Addr, ∃ rk : ClassId, v = some (.ref x) ∧ h0.size ≤ x ∧ h0.size ≤ r ∧ Keep h0 h [] ∧ Exa Z h x "java/lang/String" ∧ Fld Z h x "java/lang/String" "value" "[B" (.ref r) ∧ Fld Z h x "java/lang/String" "coder" "B" (.int 0) ∧ Arv Z h r rk .byte (1 : Int32) ([(.int k.toInt8.toInt32)]) (.int 0) ∧ Exa Z h r "[B") := by
  refine own_met (by decide +kernel) #[.val (.int k)] (fun m => by first | (simp [entryFrame, mkF, argsToLocals, Value.category]; done) | rfl) ?_
  intro p e s m below meth c T0 C S0
  refine own_getS C S0 (own_wd hw 18 rfl) Via.refl (O2.ext X00.2) (by decide +kernel) ?_
  intro T502 S503
  refine own_if C S503 (q := .eq) (o := 23) (by decide +kernel) 26 (by decide) (by decide) (fun (hq : G1 = (0 : Int32)) => False.elim (P5 hq)) (fun (q504 : ¬ G1 = (0 : Int32)) => ?_)
  refine own_seg C S503 [(6, .iload_n 0, 1)] (by decide +kernel) 7 #[.val (.int k)] [(.int k)] rfl ?_
  refine own_callS C S503 (own_wd hw 293 rfl) (own_wd hw 294 rfl) (own_wd hw 282 rfl) (own_wd hw 295 rfl) (by decide) (own_Met.pay (own_cec l Z a0 hw k h0 n0 z0 k0) C 0 (own_wd hw 295 rfl) (own_wd hw 282 rfl) (by decide) (by decide)) (fun _ _ _ q => q.2) [(.int k)] [] rfl own_pd17 rfl rfl rfl (Nat.le_of_ble_eq_true rfl) (by decide) (by decide) (by decide +kernel) ?_
  rintro T506 h507 v508 L509 S510 ⟨⟨rfl, e505⟩, -⟩
  rw [e505] at S510; clear e505
  show own_Go p e below _ T506 (mkF m 10 #[.val (.int k)] [(.int 1)])
  refine own_if C S510 (q := .eq) (o := 16) (by decide +kernel) 26 (by decide) (by decide) (fun (hq : (1 : Int32) = (0 : Int32)) => False.elim (by revert hq; decide)) (fun (q511 : ¬ (1 : Int32) = (0 : Int32)) => ?_)
  refine own_new C S510 (own_wd hw 296 rfl) (own_wd hw 5 rfl) (own_wd hw 6 rfl) (by decide +kernel) (by decide) (by decide) ?_
  intro T512 h514 a515 S513 g516 E517 x518 D519
  have f520 : Fld Z h514 a515 "java/lang/String" "coder" "B" (.int 0) := D519 (ty := .byte) (Or.inr (own_wd hw 31 rfl)) own_fd1
  have f521 : Fld Z h514 a515 "java/lang/String" "value" "[B" .null := D519 (ty := (.array .byte)) (Or.inr (own_wd hw 33 rfl)) own_fd0
  refine own_seg C S513 [(16, .dup, 1), (17, .iload_n 0, 1)] (by decide +kernel) 18 #[.val (.int k)] [(.int k), (.ref a515), (.ref a515)] rfl ?_
  have f522 : n0 ≤ h514.size := (Nat.le_trans z0 E517.1)
  refine own_callS C S513 (own_wd hw 297 rfl) (own_wd hw 298 rfl) (own_wd hw 282 rfl) (own_wd hw 299 rfl) (by decide) (own_Met.pay (own_tb l Z a0 hw k h514 n0 f522) C 2 (own_wd hw 299 rfl) (own_wd hw 282 rfl) (by decide) (by decide)) (fun _ _ _ q => q.2) [(.int k)] [(.ref a515), (.ref a515)] rfl own_pd18 rfl rfl rfl (Nat.le_of_ble_eq_true rfl) (by decide) (by decide) (by decide +kernel) ?_
  rintro T529 h530 v531 L532 S533 ⟨⟨a523, k524, rfl, g525, K526, f527, f528⟩, -⟩
  show own_Go p e below _ T529 (mkF m 21 #[.val (.int k)] [(.ref a523), (.ref a515), (.ref a515)])
  refine own_seg C S533 [(21, .iconst 0, 1)] (by decide +kernel) 22 #[.val (.int k)] [(.int 0), (.ref a523), (.ref a515), (.ref a515)] rfl ?_
  have f534 := (x518.keep K526)
  have f535 := (f521.keep K526 nin0)
  have f536 := (f520.keep K526 nin0)
  have f537 : n0 ≤ h530.size := (Nat.le_trans f522 K526.1)
  have g538 : n0 ≤ a515 := by rw [g516]; exact z0
  refine own_callI C S533 rfl (own_wd hw 300 rfl) (own_wd hw 301 rfl) (own_wd hw 302 rfl) (by decide) (own_Met.pay (own_si l Z a0 hw a515 a523 h530 n0 f537 g538 f534 f535 f536) C 1 (own_wd hw 302 rfl) (own_wd hw 6 rfl) (by decide) (by decide)) (fun _ _ _ q => q.2) [(.ref a523), (.int 0)] [(.ref a515)] rfl own_pd19 rfl rfl rfl (Nat.le_of_ble_eq_true rfl) (by decide) (by decide) (by decide +kernel) ?_
  rintro T543 h544 v545 L546 S547 ⟨⟨rfl, K539, f540, f541, f542⟩, -⟩
  show own_Go p e below _ T543 (mkF m 25 #[.val (.int k)] [(.ref a515)])
  refine own_retA C S547 rfl rfl (by decide +kernel) (by decide) (by decide) ?_
  have o548 : h0.size ≤ a515 := by rw [g516]; exact (Nat.le_refl _)
  have o550 : h0.size ≤ h514.size := (Nat.le_trans (Nat.le_refl _) E517.1)
  have o549 : h0.size ≤ a523 := Nat.le_trans o550 g525
  have n551 : a515 ≠ a523 := Nat.ne_of_lt (Nat.lt_of_lt_of_le x518.lt g525)
  have f552 := (f527.keep K539 (ninS (Ne.symm n551) nin0))
  have f553 := (f528.keep K539)
  exact ⟨a515, a523, k524, rfl, o548, o549, ((((Keep.refl _ _).ext E517).trans K526 all0).trans K539 (allS (Or.inr o548) all0)), f540, f541, f542, f552, f553⟩
theorem own_hws : ∀ d ∈ StrChars.Road.words, d ∈ tables_1 := by decide +kernel
theorem own_pd20 : parseMethodDescriptor "([C)V" = some ⟨[(.array .char)], none⟩ := by decide +kernel
theorem own_pd21 : parseMethodDescriptor "(C)Ljava/lang/String;" = some ⟨[.char], (some (.object "java/lang/String"))⟩ := by decide +kernel
theorem own_str (l : Launch) (Z : State) (a0 : Array Value) (hw : ∀ d ∈ tables_1, d.before a0 Z = true) (hEL : EW Z a0 own_EL) (wS : ∀ a ∈ Bundle.stringAtoms, a.before a0 Z = true) (G1 : Int32) (G3 : Value) (c0 : Int32) (c1 : Int32) (n : Int32) (h0 : Heap) (n0 : Nat) (z0 : n0 ≤ h0.size) (X00 : Old Z n0 h0) (O2 : Sta Z Z.heap "java/lang/String" "COMPACT_STRINGS" "Z" (.int G1)) (O4 : Sta Z Z.heap "jdk/internal/util/Preconditions" "SIOOBE_FORMATTER" "Ljava/util/function/BiFunction;" G3) (P5 : ¬ G1 = (0 : Int32)) (rG3 : G3.isRef = true) (h0c : own_R c0) (h1c : own_R c1) :
    own_MetW l Z own_EL (⟨"com/example/exact_rest/exactrest/NodeIdsOfPinLaw", "str", "(CCI)Ljava/lang/String;"⟩ : MethodName) method_3_code 3 (some (.object "java/lang/String")) ({ frames := 4, cells := 6, slots := 12, locals := 66 } : Room) n0 #[(.int c0), (.int c1), (.int n)] h0 [] (fun v h => ∃ r : Addr, ∃ rt : Addr, ∃ rk : ClassId, ∃ rcs : List Int32, v = some (.ref r) ∧ h0.size ≤ r ∧ Keep h0 h [] ∧ Exa Z h r "java/lang/String" ∧ Fld Z h r "java/lang/String" "value" "[B" (.ref rt) ∧ Fld Z h r "java/lang/String" "coder" "B" (.int 0) ∧ Arv Z h rt rk .byte (Int32.ofNat (rcs).length) (own_sv rcs) (.int 0) ∧ (rcs = own_tk c0 c1 n)) := by
  refine own_metW hEL wS (by decide +kernel) #[.val (.int c0), .val (.int c1), .val (.int n)] (fun m => by first | (simp [entryFrame, mkF, argsToLocals, Value.category]; done) | rfl) ?_
  intro p e s m below meth c T0 CW SW0
  refine own_lift CW SW0 ?_
  intro vm554 C S555 rb556
  refine own_seg C S555 [(0, .iload_n 2, 1)] (by decide +kernel) 1 #[.val (.int c0), .val (.int c1), .val (.int n)] [(.int n)] rfl ?_
  refine own_if C S555 (q := .ne) (o := 14) (by decide +kernel) 15 (by decide) (by decide) (fun (q557 : ¬ n = (0 : Int32)) => ?_) (fun (q558 : n = (0 : Int32)) => ?_)
  · refine own_seg C S555 [(15, .iload_n 2, 1), (16, .iconst 1, 1)] (by decide +kernel) 17 #[.val (.int c0), .val (.int c1), .val (.int n)] [(.int 1), (.int n)] rfl ?_
    refine own_icmp C S555 (q := .ne) (o := 8) (by decide +kernel) 25 (by decide) (by decide) (fun (q559 : ¬ n = (1 : Int32)) => ?_) (fun (q560 : n = (1 : Int32)) => ?_)
    · refine own_new C S555 (own_wd hw 4 rfl) (own_wd hw 5 rfl) (own_wd hw 6 rfl) (by decide +kernel) (by decide) (by decide) ?_
      intro T561 h563 a564 S562 g565 E566 x567 D568
      have f569 : Fld Z h563 a564 "java/lang/String" "coder" "B" (.int 0) := D568 (ty := .byte) (Or.inr (own_wd hw 31 rfl)) own_fd1
      have f570 : Fld Z h563 a564 "java/lang/String" "value" "[B" .null := D568 (ty := (.array .byte)) (Or.inr (own_wd hw 33 rfl)) own_fd0
      refine own_seg C S562 [(28, .dup, 1), (29, .iconst 2, 1)] (by decide +kernel) 30 #[.val (.int c0), .val (.int c1), .val (.int n)] [(.int 2), (.ref a564), (.ref a564)] rfl ?_
      refine own_newP C S562 (aty := .char) (own_wd hw 7 rfl) (by decide +kernel) (by decide) 2 (by decide) (by decide) (by decide) (by decide) ?_
      intro T571 h573 a574 k575 S572 g576 E577 f578 
      have f579 : Arv Z h573 a574 k575 .char (2 : Int32) ([(.int 0), (.int 0)]) (.int 0) := Arv.pad f578 (pad_rep [] (.int 0) 2)
      refine own_seg C S572 [(32, .dup, 1), (33, .iconst 0, 1), (34, .iload_n 0, 1)] (by decide +kernel) 35 #[.val (.int c0), .val (.int c1), .val (.int n)] [(.int c0), (.int 0), (.ref a574), (.ref a574), (.ref a564), (.ref a564)] rfl ?_
      have f580 : n0 ≤ h563.size := (Nat.le_trans z0 E566.1)
      have g581 : n0 ≤ a574 := by rw [g576]; exact f580
      refine own_castore C S572 f579 ⟨(by decide), (by decide)⟩ 0 rfl (Nat.le_of_ble_eq_true rfl) c0 (own_c16 h0c) g581 (by decide +kernel) ?_
      intro T582 h584 S583 W585 f586
      have f587 : Arv Z h584 a574 k575 .char (2 : Int32) ([(.int c0), (.int 0)]) (.int 0) := f586
      refine own_seg C S583 [(36, .dup, 1), (37, .iconst 1, 1), (38, .iload_n 1, 1)] (by decide +kernel) 39 #[.val (.int c0), .val (.int c1), .val (.int n)] [(.int c1), (.int 1), (.ref a574), (.ref a574), (.ref a564), (.ref a564)] rfl ?_
      refine own_castore C S583 f587 ⟨(by decide), (by decide)⟩ 1 rfl (Nat.le_of_ble_eq_true rfl) c1 (own_c16 h1c) g581 (by decide +kernel) ?_
      intro T588 h590 S589 W591 f592
      have f593 : Arv Z h590 a574 k575 .char (2 : Int32) ([(.int c0), (.int c1)]) (.int 0) := f592
      have hp594 : ∀ c ∈ ([c0, c1] : List Int32), ¬ c < 0 ∧ ¬ (255 : Int32) < c := by
        intro c hc; simp only [List.mem_cons, List.not_mem_nil, or_false] at hc
        rcases hc with rfl | rfl
        · exact h0c
        · exact h1c
      have f595 : n0 ≤ h590.size := (by rw [W591.size]; exact (by rw [W585.size]; exact (Nat.le_trans f580 E577.1)))
      have g596 : n0 ≤ a564 := by rw [g565]; exact z0
      have f597 := (Exa.wr W591 (Exa.wr W585 (Exa.ext E577 x567)))
      have n598 : a564 ≠ a574 := by rw [g576]; exact Nat.ne_of_lt x567.lt
      have f599 := (Fld.other W591 (Fld.other W585 (Fld.ext E577 f570) (Or.inl n598)) (Or.inl n598))
      have f600 := (Fld.other W591 (Fld.other W585 (Fld.ext E577 f569) (Or.inl n598)) (Or.inl n598))
      have f601 := ((((X00.ext E566).ext E577).wr W585 g581).wr W591 g581)
      refine own_callI C S589 rfl (own_wd hw 8 rfl) (own_wd hw 9 rfl) (own_wd hw 10 rfl) (by decide) (StrChars.Road.backV (W := 1) C.2.2.2.2.2.2.2 (fun d hd => hw d (own_hws d hd)) (kI := 4) (own_wd hw 5 rfl) (cs := ([c0, c1] : List Int32)) (bs := (([c0, c1] : List Int32)).map (fun c => c.toInt8.toInt32)) (n := 2) g596 f595 f597 f599 f600 f593 (O2.ext f601.2) P5 rfl rfl (by decide) (by decide) hp594 rfl (by decide) (by decide)) (fun _ _ _ q => q.2.1) [(.ref a574)] [(.ref a564)] rfl own_pd20 rfl rfl rfl (Nat.le_of_ble_eq_true rfl) (by decide) (by decide) (by decide +kernel) ?_
      rintro T612 h613 v614 L615 S616 ⟨rfl, -, K602, x603, f604, t605, k606, g607, g608, g609, f610, f611⟩
      have f617 : Arv Z h613 t605 k606 .byte (2 : Int32) ([(.int c0.toInt8.toInt32), (.int c1.toInt8.toInt32)]) (.int 0) := f611
      show own_Go p e below _ T612 (mkF m 43 #[.val (.int c0), .val (.int c1), .val (.int n)] [(.ref a564)])
      have o619 : h0.size ≤ h563.size := (Nat.le_trans (Nat.le_refl _) E566.1)
      have o618 : h0.size ≤ a574 := by rw [g576]; exact o619
      have o620 : h0.size ≤ a564 := by rw [g565]; exact (Nat.le_refl _)
      have o622 : h0.size ≤ h590.size := (by rw [W591.size]; exact (by rw [W585.size]; exact (Nat.le_trans o619 E577.1)))
      have o621 : h0.size ≤ t605 := Nat.le_trans o622 g608
      have f623 : a574 < h613.size := (Nat.lt_of_lt_of_le (by rw [W591.size]; exact (by rw [W585.size]; exact f579.lt)) K602.1)
      have f624 : a564 < h613.size := (Nat.lt_of_lt_of_le (by rw [W591.size]; exact (by rw [W585.size]; exact (Nat.lt_of_lt_of_le x567.lt E577.1))) K602.1)
      have SW625 := rb556 _ _ _ _ [] [a564, a574, t605] S616 ((((((Keep.refl _ _).ext E566).ext E577).wr W585 (Or.inr o618)).wr W591 (Or.inr o618)).trans K602 (allS (Or.inr o620) all0)) all0 (allS ⟨o620, f624⟩ (allS ⟨o618, f623⟩ (allS ⟨o621, f617.lt⟩ all0)))
      refine own_retAW CW SW625 rfl rfl (by decide +kernel) (by decide) (by decide) ?_
      exact ⟨a564, t605, k606, ([c0, c1] : List Int32), rfl, o620, ((((((Keep.refl _ _).ext E566).ext E577).wr W585 (Or.inr o618)).wr W591 (Or.inr o618)).trans K602 (allS (Or.inr o620) all0)), x603, f610, f604, f617, (by rw [own_tk, if_neg q557, if_neg q559])⟩
    · refine own_seg C S555 [(20, .iload_n 0, 1)] (by decide +kernel) 21 #[.val (.int c0), .val (.int c1), .val (.int n)] [(.int c0)] rfl ?_
      refine own_callS C S555 (own_wd hw 290 rfl) (own_wd hw 291 rfl) (own_wd hw 6 rfl) (own_wd hw 292 rfl) (by decide) (own_Met.pay (own_vo l Z a0 hw G1 G3 c0 h0 n0 z0 X00 O2 O4 P5 rG3 ((h0c).2)) C 0 (own_wd hw 292 rfl) (own_wd hw 6 rfl) (by decide) (by decide)) (fun _ _ _ q => q.2) [(.int c0)] [] rfl own_pd21 rfl rfl rfl (Nat.le_of_ble_eq_true rfl) (by decide) (by decide) (by decide +kernel) ?_
      rintro T637 h638 v639 L640 S641 ⟨⟨a626, a627, k628, rfl, g629, g630, K631, f632, f633, f634, f635, f636⟩, -⟩
      show own_Go p e below _ T637 (mkF m 24 #[.val (.int c0), .val (.int c1), .val (.int n)] [(.ref a626)])
      have o642 : h0.size ≤ a627 := Nat.le_trans (Nat.le_refl _) g630
      have o643 : h0.size ≤ a626 := Nat.le_trans (Nat.le_refl _) g629
      have SW644 := rb556 _ _ _ _ [] [a626, a627] S641 ((Keep.refl _ _).trans K631 all0) all0 (allS ⟨o643, f632.lt⟩ (allS ⟨o642, f635.lt⟩ all0))
      refine own_retAW CW SW644 rfl rfl (by decide +kernel) (by decide) (by decide) ?_
      have hp645 : ∀ c ∈ ([c0] : List Int32), ¬ c < 0 ∧ ¬ (255 : Int32) < c := by
        intro c hc; simp only [List.mem_cons, List.not_mem_nil, or_false] at hc
        rcases hc with rfl
        · exact h0c
      have hcd646 : StrChars.Road.CodA ([c0] : List Int32) 0 (1 : Int32) [(.int c0.toInt8.toInt32)] := StrChars.Road.codOf (cs := ([c0] : List Int32)) (n := 1) rfl (fun c hc => (hp645 c hc).2)
      exact ⟨a626, a627, k628, ([c0] : List Int32), rfl, o643, ((Keep.refl _ _).trans K631 all0), f632, f633, f634, f635, (by rw [own_tk, if_neg q557, if_pos q560])⟩
  · refine own_new C S555 (own_wd hw 4 rfl) (own_wd hw 5 rfl) (own_wd hw 6 rfl) (by decide +kernel) (by decide) (by decide) ?_
    intro T647 h649 a650 S648 g651 E652 x653 D654
    have f655 : Fld Z h649 a650 "java/lang/String" "coder" "B" (.int 0) := D654 (ty := .byte) (Or.inr (own_wd hw 31 rfl)) own_fd1
    have f656 : Fld Z h649 a650 "java/lang/String" "value" "[B" .null := D654 (ty := (.array .byte)) (Or.inr (own_wd hw 33 rfl)) own_fd0
    refine own_seg C S648 [(7, .dup, 1), (8, .iconst 0, 1)] (by decide +kernel) 9 #[.val (.int c0), .val (.int c1), .val (.int n)] [(.int 0), (.ref a650), (.ref a650)] rfl ?_
    refine own_newP C S648 (aty := .char) (own_wd hw 7 rfl) (by decide +kernel) (by decide) 0 (by decide) (by decide) (by decide) (by decide) ?_
    intro T657 h659 a660 k661 S658 g662 E663 f664 
    have f665 : Arv Z h659 a660 k661 .char (0 : Int32) ([]) (.int 0) := Arv.pad f664 (pad_rep [] (.int 0) 0)
    have o667 : h0.size ≤ h649.size := (Nat.le_trans (Nat.le_refl _) E652.1)
    have o666 : h0.size ≤ a660 := by rw [g662]; exact o667
    have o668 : h0.size ≤ a650 := by rw [g651]; exact (Nat.le_refl _)
    have f669 : a650 < h659.size := (Nat.lt_of_lt_of_le x653.lt E663.1)
    have SW670 := rb556 _ _ _ _ [] [a650, a660] S658 (((Keep.refl _ _).ext E652).ext E663) all0 (allS ⟨o668, f669⟩ (allS ⟨o666, f665.lt⟩ all0))
    have f671 := (Exa.ext E663 x653)
    have f672 := (Fld.ext E663 f656)
    have f673 := (Fld.ext E663 f655)
    have f674 : n0 ≤ h659.size := (Nat.le_trans (Nat.le_trans z0 E652.1) E663.1)
    have g675 : n0 ≤ a650 := by rw [g651]; exact z0
    refine own_callIW CW SW670 rfl (own_wd hw 8 rfl) (own_wd hw 9 rfl) (own_wd hw 6 rfl) (own_wd hw 10 rfl) (by decide) (own_se1 l Z a0 hw hEL wS a650 a660 _ _ (.int 0) h659 n0 f674 g675 f671 f672 f673 f665) (allS (List.mem_of_getElem? (i := 0) rfl) all0) 1 (by decide) (by decide) [(.ref a660)] [(.ref a650)] rfl own_pd20 rfl rfl rfl (Nat.le_of_ble_eq_true rfl) (by decide) (by decide) (by decide +kernel) ?_
    rintro T688 h689 v690 SW691 hg692 ⟨a676, k677, rfl, K678, f679, f680, f681, f682⟩
    show own_Go p e below _ T688 (mkF m 14 #[.val (.int c0), .val (.int c1), .val (.int n)] [(.ref a650)])
    have hp693 : ∀ c ∈ ([] : List Int32), ¬ c < 0 ∧ ¬ (255 : Int32) < c := by
      intro c hc; cases hc
    have hcd694 : StrChars.Road.CodA ([] : List Int32) 0 (0 : Int32) [] := StrChars.Road.codOf (cs := ([] : List Int32)) (n := 0) rfl (fun c hc => (hp693 c hc).2)
    refine own_retAW CW SW691 rfl rfl (by decide +kernel) (by decide) (by decide) ?_
    exact ⟨a650, a676, k677, ([] : List Int32), rfl, o668, ((((Keep.refl _ _).ext E652).ext E663).trans K678 (allS (Or.inr o668) all0)), f679, f681, f680, f682, (by rw [own_tk, if_pos q558])⟩
theorem own_cp (l : Launch) (Z : State) (a0 : Array Value) (hw : ∀ d ∈ tables_1, d.before a0 Z = true) (b : Addr) (bk : ClassId) (cs : List Int32) (h0 : Heap) (n0 : Nat) (z0 : n0 ≤ h0.size) (bK : Arv Z h0 b bk .byte (Int32.ofNat (cs).length) (own_sv cs) (.int 0)) (hp : ∀ k ∈ cs, ¬ k < 0 ∧ ¬ (255 : Int32) < k) (hl : cs.length ≤ 5) :
    own_Met l Z (⟨"java/lang/StringCoding", "countPositives", "([BII)I"⟩ : MethodName) jdk_123_method_3_code 5 (some .int) ({ frames := 0, cells := 0, slots := 0, locals := 0 } : Room) n0 #[(.ref b), (.int 0), (.int (Int32.ofNat (cs).length))] h0 (fun v h => ∃ r : Int32, v = some (.int r) ∧ Keep h0 h [] ∧ (own_CP r cs)) := by
  refine own_met (by decide +kernel) #[.val (.ref b), .val (.int 0), .val (.int (Int32.ofNat (cs).length)), .unset, .unset] (fun m => by first | (simp [entryFrame, mkF, argsToLocals, Value.category]; done) | rfl) ?_
  intro p e s m below meth c T0 C S0
  refine own_seg C S0 [(0, .iload_n 1, 1), (1, .iload_n 2, 1), (2, .iadd, 1), (3, .istore_n 3, 1), (4, .iload_n 1, 1), (5, .istore 4, 2)] (by decide +kernel) 7 #[.val (.ref b), .val (.int 0), .val (.int (Int32.ofNat (cs).length)), .val (.int ((0 : Int32) + (Int32.ofNat (cs).length))), .val (.int 0)] [] rfl ?_
  rw [show ((0 : Int32) + (Int32.ofNat (cs).length)) = (Int32.ofNat (cs).length) from Int32.zero_add _]
  have loop : ∀ (r : List Int32) (T696 : State) (h695 : Heap) (pre : List Int32), own_S p l e ({ frames := 0, cells := 0, slots := 0, locals := 0 } : Room) s m #[(.ref b), (.int 0), (.int (Int32.ofNat (cs).length))] below meth c n0 T696 h695 0 0 → Keep h0 h695 [] → (cs = pre ++ r) → (∀ k ∈ pre, k < 128) → own_Go p e below (own_En s n0 (fun v h => ∃ r : Int32, v = some (.int r) ∧ Keep h0 h [] ∧ (own_CP r cs)) ({ frames := 0, cells := 0, slots := 0, locals := 0 } : Room).cells ({ frames := 0, cells := 0, slots := 0, locals := 0 } : Room).slots) T696 (mkF m 7 #[.val (.ref b), .val (.int 0), .val (.int (Int32.ofNat (cs).length)), .val (.int (Int32.ofNat (cs).length)), .val (.int (Int32.ofNat pre.length))] []) := by
    intro r
    induction r with
    | nil =>
      intro T696 h695 pre S697 K698 hc ha
      have hcl : cs.length = pre.length := by rw [hc]; simp
      refine own_seg C S697 [(7, .iload 4, 2), (9, .iload_n 3, 1)] (by decide +kernel) 10 #[.val (.ref b), .val (.int 0), .val (.int (Int32.ofNat (cs).length)), .val (.int (Int32.ofNat (cs).length)), .val (.int (Int32.ofNat pre.length))] [(.int (Int32.ofNat (cs).length)), (.int (Int32.ofNat pre.length))] rfl ?_
      refine own_icmp C S697 (q := .ge) (o := 21) (by decide +kernel) 31 (by decide) (by decide) (fun (q699 : ¬ (Int32.ofNat pre.length) < (Int32.ofNat (cs).length)) => ?_) (fun (hq : (Int32.ofNat pre.length) < (Int32.ofNat (cs).length)) => False.elim (by have := (own_ofNat_lt (by omega) (by omega)).mp hq; omega))
      refine own_seg C S697 [(31, .iload_n 2, 1)] (by decide +kernel) 32 #[.val (.ref b), .val (.int 0), .val (.int (Int32.ofNat (cs).length)), .val (.int (Int32.ofNat (cs).length)), .val (.int (Int32.ofNat pre.length))] [(.int (Int32.ofNat (cs).length))] rfl ?_
      refine own_retI C S697 (by decide +kernel) (by decide) (by decide) ?_
      exact ⟨(Int32.ofNat (cs).length), rfl, ((Keep.refl _ _).trans K698 all0), Or.inl ⟨rfl, by rw [hc, List.append_nil]; exact ha⟩⟩
    | cons ch r ih =>
      intro T696 h695 pre S697 K698 hc ha
      have hcl : pre.length < cs.length := by rw [hc]; simp
      have hch := hp ch (by rw [hc]; simp)
      refine own_seg C S697 [(7, .iload 4, 2), (9, .iload_n 3, 1)] (by decide +kernel) 10 #[.val (.ref b), .val (.int 0), .val (.int (Int32.ofNat (cs).length)), .val (.int (Int32.ofNat (cs).length)), .val (.int (Int32.ofNat pre.length))] [(.int (Int32.ofNat (cs).length)), (.int (Int32.ofNat pre.length))] rfl ?_
      refine own_icmp C S697 (q := .ge) (o := 21) (by decide +kernel) 31 (by decide) (by decide) (fun (hq : ¬ (Int32.ofNat pre.length) < (Int32.ofNat (cs).length)) => False.elim (hq (own_ofs hcl (by omega)))) (fun (q700 : (Int32.ofNat pre.length) < (Int32.ofNat (cs).length)) => ?_)
      refine own_seg C S697 [(13, .aload_n 0, 1), (14, .iload 4, 2)] (by decide +kernel) 16 #[.val (.ref b), .val (.int 0), .val (.int (Int32.ofNat (cs).length)), .val (.int (Int32.ofNat (cs).length)), .val (.int (Int32.ofNat pre.length))] [(.int (Int32.ofNat pre.length)), (.ref b)] rfl ?_
      have f701 := (bK.keep K698 nin0)
      refine own_baload C S697 f701 ⟨(own_ofNat_nn (by omega)).1, own_ofs hcl (by omega)⟩ (.int ch.toInt8.toInt32) (own_svget hc (by omega)) (by decide +kernel) ?_
      refine own_if C S697 (q := .ge) (o := 8) (by decide +kernel) 25 (by decide) (by decide) (fun (q702 : ¬ ch.toInt8.toInt32 < (0 : Int32)) => ?_) (fun (q703 : ch.toInt8.toInt32 < (0 : Int32)) => ?_)
      · refine own_seg C S697 [(25, .iinc 4 1, 3), (28, .goto (-21), 3)] (by decide +kernel) 7 #[.val (.ref b), .val (.int 0), .val (.int (Int32.ofNat (cs).length)), .val (.int (Int32.ofNat (cs).length)), .val (.int ((Int32.ofNat pre.length) + (1 : Int32)))] [] rfl ?_
        rw [show ((Int32.ofNat pre.length) + (1 : Int32)) = (Int32.ofNat (pre ++ [ch]).length) from (by rw [own_ofNat_succ, List.length_append]; rfl)]
        exact ih T696 h695 (pre ++ [ch]) S697 ((Keep.refl _ _).trans K698 all0)  (by rw [hc]; simp) (own_allS ha (by by_cases q : ch < 128; exact q; exact absurd ((own_b7 hch.1).2.1 q hch.2) q702))
      · refine own_seg C S697 [(20, .iload 4, 2), (22, .iload_n 1, 1), (23, .isub, 1)] (by decide +kernel) 24 #[.val (.ref b), .val (.int 0), .val (.int (Int32.ofNat (cs).length)), .val (.int (Int32.ofNat (cs).length)), .val (.int (Int32.ofNat pre.length))] [(.int ((Int32.ofNat pre.length) - (0 : Int32)))] rfl ?_
        refine own_retI C S697 (by decide +kernel) (by decide) (by decide) ?_
        exact ⟨((Int32.ofNat pre.length) - (0 : Int32)), rfl, ((Keep.refl _ _).trans K698 all0), Or.inr (by rw [Int32.sub_zero]; exact fun q => absurd ((own_oNinj (by omega) (by omega)).mp q) (by omega))⟩
  exact loop cs T0 h0 ([]) S0 (Keep.refl _ _)  rfl (fun _ q => nomatch q)
theorem own_pd22 : parseMethodDescriptor "([BII)I" = some ⟨[(.array .byte), .int, .int], (some .int)⟩ := by decide +kernel
theorem own_hn (l : Launch) (Z : State) (a0 : Array Value) (hw : ∀ d ∈ tables_1, d.before a0 Z = true) (b : Addr) (bk : ClassId) (cs : List Int32) (h0 : Heap) (n0 : Nat) (z0 : n0 ≤ h0.size) (bK : Arv Z h0 b bk .byte (Int32.ofNat (cs).length) (own_sv cs) (.int 0)) (hp : ∀ k ∈ cs, ¬ k < 0 ∧ ¬ (255 : Int32) < k) (hl : cs.length ≤ 5) :
    own_Met l Z (⟨"java/lang/StringCoding", "hasNegatives", "([BII)Z"⟩ : MethodName) jdk_123_method_2_code 3 (some .boolean) ({ frames := 1, cells := 0, slots := 0, locals := 16 } : Room) n0 #[(.ref b), (.int 0), (.int (Int32.ofNat (cs).length))] h0 (fun v h => ∃ r : Int32, v = some (.int r) ∧ Keep h0 h [] ∧ (own_HN r cs)) := by
  refine own_met (by decide +kernel) #[.val (.ref b), .val (.int 0), .val (.int (Int32.ofNat (cs).length))] (fun m => by first | (simp [entryFrame, mkF, argsToLocals, Value.category]; done) | rfl) ?_
  intro p e s m below meth c T0 C S0
  refine own_seg C S0 [(0, .aload_n 0, 1), (1, .iload_n 1, 1), (2, .iload_n 2, 1)] (by decide +kernel) 3 #[.val (.ref b), .val (.int 0), .val (.int (Int32.ofNat (cs).length))] [(.int (Int32.ofNat (cs).length)), (.int 0), (.ref b)] rfl ?_
  refine own_callS C S0 (own_wd hw 207 rfl) (own_wd hw 208 rfl) (own_wd hw 205 rfl) (own_wd hw 209 rfl) (by decide) (own_Met.pay (own_cp l Z a0 hw b _ cs h0 n0 z0 bK hp hl) C 0 (own_wd hw 209 rfl) (own_wd hw 205 rfl) (by decide) (by decide)) (fun _ _ _ q => q.2) [(.ref b), (.int 0), (.int (Int32.ofNat (cs).length))] [] rfl own_pd22 rfl rfl rfl (Nat.le_of_ble_eq_true rfl) (by decide) (by decide) (by decide +kernel) ?_
  rintro T707 h708 v709 L710 S711 ⟨⟨y704, rfl, K705, p706⟩, -⟩
  show own_Go p e below _ T707 (mkF m 6 #[.val (.ref b), .val (.int 0), .val (.int (Int32.ofNat (cs).length))] [(.int y704)])
  refine own_seg C S711 [(6, .iload_n 2, 1)] (by decide +kernel) 7 #[.val (.ref b), .val (.int 0), .val (.int (Int32.ofNat (cs).length))] [(.int (Int32.ofNat (cs).length)), (.int y704)] rfl ?_
  refine own_icmp C S711 (q := .eq) (o := 7) (by decide +kernel) 14 (by decide) (by decide) (fun (q712 : y704 = (Int32.ofNat (cs).length)) => ?_) (fun (q713 : ¬ y704 = (Int32.ofNat (cs).length)) => ?_)
  · refine own_seg C S711 [(14, .iconst 0, 1)] (by decide +kernel) 15 #[.val (.ref b), .val (.int 0), .val (.int (Int32.ofNat (cs).length))] [(.int 0)] rfl ?_
    refine own_retZ C S711 (by decide +kernel) (by decide) (by decide) (by decide) ?_
    exact ⟨(0 : Int32), rfl, ((Keep.refl _ _).trans K705 all0), p706.elim (fun q => Or.inl ⟨rfl, q.2⟩) (fun q => absurd q712 q)⟩
  · refine own_seg C S711 [(10, .iconst 1, 1), (11, .goto 4, 3)] (by decide +kernel) 15 #[.val (.ref b), .val (.int 0), .val (.int (Int32.ofNat (cs).length))] [(.int 1)] rfl ?_
    refine own_retZ C S711 (by decide +kernel) (by decide) (by decide) (by decide) ?_
    exact ⟨(1 : Int32), rfl, ((Keep.refl _ _).trans K705 all0), Or.inr rfl⟩
theorem own_nbl (l : Launch) (Z : State) (a0 : Array Value) (hw : ∀ d ∈ tables_1, d.before a0 Z = true) (nn : Nat) (h0 : Heap) (n0 : Nat) (z0 : n0 ≤ h0.size) (hn : nn ≤ 5) :
    own_Met l Z (⟨"java/lang/StringUTF16", "newBytesLength", "(I)I"⟩ : MethodName) jdk_52_method_3_code 1 (some .int) ({ frames := 0, cells := 0, slots := 0, locals := 0 } : Room) n0 #[(.int (Int32.ofNat nn))] h0 (fun v h => v = some (.int (Int32.ofNat (2 * nn))) ∧ h = h0) := by
  refine own_met (by decide +kernel) #[.val (.int (Int32.ofNat nn))] (fun m => by first | (simp [entryFrame, mkF, argsToLocals, Value.category]; done) | rfl) ?_
  intro p e s m below meth c T0 C S0
  refine own_seg C S0 [(0, .iload_n 0, 1)] (by decide +kernel) 1 #[.val (.int (Int32.ofNat nn))] [(.int (Int32.ofNat nn))] rfl ?_
  refine own_if C S0 (q := .ge) (o := 11) (by decide +kernel) 12 (by decide) (by decide) (fun (q714 : ¬ (Int32.ofNat nn) < (0 : Int32)) => ?_) (fun (hq : (Int32.ofNat nn) < (0 : Int32)) => False.elim ((own_ofNat_nn (by omega)).1 hq))
  refine own_seg C S0 [(12, .iload_n 0, 1)] (by decide +kernel) 13 #[.val (.int (Int32.ofNat nn))] [(.int (Int32.ofNat nn))] rfl ?_
  refine own_ldc C S0 (own_wd hw 309 rfl) (by decide +kernel) ?_
  refine own_icmp C S0 (q := .lt) (o := 40) (by decide +kernel) 55 (by decide) (by decide) (fun (q715 : (Int32.ofNat nn) < 1073741823) => ?_) (fun (hq : ¬ (Int32.ofNat nn) < 1073741823) => False.elim (hq (own_lt30 hn)))
  refine own_seg C S0 [(55, .iload_n 0, 1), (56, .iconst 1, 1), (57, .ishl, 1)] (by decide +kernel) 58 #[.val (.int (Int32.ofNat nn))] [(.int ((Int32.ofNat nn) <<< ((1 : Int32) &&& 31)))] rfl ?_
  rw [show ((Int32.ofNat nn) <<< ((1 : Int32) &&& 31)) = (Int32.ofNat (2 * nn)) from own_shl1 hn]
  refine own_retI C S0 (by decide +kernel) (by decide) (by decide) ?_
  exact ⟨rfl, rfl⟩
theorem own_pd23 : parseMethodDescriptor "(I)I" = some ⟨[.int], (some .int)⟩ := by decide +kernel
theorem own_nbf (l : Launch) (Z : State) (a0 : Array Value) (hw : ∀ d ∈ tables_1, d.before a0 Z = true) (nn : Nat) (h0 : Heap) (n0 : Nat) (z0 : n0 ≤ h0.size) (hn : nn ≤ 5) :
    own_Met l Z (⟨"java/lang/StringUTF16", "newBytesFor", "(I)[B"⟩ : MethodName) jdk_52_method_2_code 1 (some (.array .byte)) ({ frames := 1, cells := 1, slots := 10, locals := 12 } : Room) n0 #[(.int (Int32.ofNat nn))] h0 (fun v h => ∃ r : Addr, ∃ rk : ClassId, v = some (.ref r) ∧ h0.size ≤ r ∧ Keep h0 h [] ∧ Arv Z h r rk .byte (Int32.ofNat (2 * nn)) (own_pd (2 * nn) []) (.int 0) ∧ Exa Z h r "[B") := by
  refine own_met (by decide +kernel) #[.val (.int (Int32.ofNat nn))] (fun m => by first | (simp [entryFrame, mkF, argsToLocals, Value.category]; done) | rfl) ?_
  intro p e s m below meth c T0 C S0
  refine own_seg C S0 [(0, .iload_n 0, 1)] (by decide +kernel) 1 #[.val (.int (Int32.ofNat nn))] [(.int (Int32.ofNat nn))] rfl ?_
  refine own_callS C S0 (own_wd hw 306 rfl) (own_wd hw 307 rfl) (own_wd hw 21 rfl) (own_wd hw 308 rfl) (by decide) (own_Met.pay (own_nbl l Z a0 hw nn h0 n0 z0 hn) C 0 (own_wd hw 308 rfl) (own_wd hw 21 rfl) (by decide) (by decide)) (fun _ _ _ q => q.2) [(.int (Int32.ofNat nn))] [] rfl own_pd23 rfl rfl rfl (Nat.le_of_ble_eq_true rfl) (by decide) (by decide) (by decide +kernel) ?_
  rintro T717 h718 v719 L720 S721 ⟨⟨rfl, e716⟩, -⟩
  rw [e716] at S721; clear e716
  show own_Go p e below _ T717 (mkF m 4 #[.val (.int (Int32.ofNat nn))] [(.int (Int32.ofNat (2 * nn)))])
  refine own_newPE C S721 (aty := .byte) (ad := "[B") (by decide) (own_wd hw 23 rfl) (by decide +kernel) (own_ofNat_nn (by omega)).1 10 (by rw [(own_ofNat_nn (by omega)).2]; omega) (by decide) (by decide) (by decide) ?_
  intro T722 h724 a725 k726 S723 g727 E728 f729 x730
  have f731 : Arv Z h724 a725 k726 .byte (Int32.ofNat (2 * nn)) (own_pd (2 * nn) []) (.int 0) := Arv.pad f729 (pad_rep [] (.int 0) (2 * nn))
  refine own_retA C S723 rfl rfl (by decide +kernel) (by decide) (by decide) ?_
  have o732 : h0.size ≤ a725 := by rw [g727]; exact (Nat.le_refl _)
  exact ⟨a725, k726, rfl, o732, ((Keep.refl _ _).ext E728), f731, x730⟩
theorem own_co (l : Launch) (Z : State) (a0 : Array Value) (hw : ∀ d ∈ tables_1, d.before a0 Z = true) (b : Addr) (bk : ClassId) (NN : Nat) (AL : List Int32) (h0 : Heap) (n0 : Nat) (z0 : n0 ≤ h0.size) (bK : Arv Z h0 b bk .byte (Int32.ofNat NN) (own_pd NN AL) (.int 0)) (hA : AL.length < NN) (hN : NN ≤ 10) :
    own_Met l Z (⟨"java/util/Arrays", "copyOf", "([BI)[B"⟩ : MethodName) jdk_65_method_121_code 3 (some (.array .byte)) ({ frames := 1, cells := 1, slots := 10, locals := 18 } : Room) n0 #[(.ref b), (.int (Int32.ofNat AL.length))] h0 (fun v h => ∃ r : Addr, ∃ rk : ClassId, v = some (.ref r) ∧ h0.size ≤ r ∧ Keep h0 h [] ∧ Arv Z h r rk .byte (Int32.ofNat AL.length) (AL.map Value.int) (.int 0)) := by
  refine own_met (by decide +kernel) #[.val (.ref b), .val (.int (Int32.ofNat AL.length)), .unset] (fun m => by first | (simp [entryFrame, mkF, argsToLocals, Value.category]; done) | rfl) ?_
  intro p e s m below meth c T0 C S0
  refine own_seg C S0 [(0, .iload_n 1, 1), (1, .aload_n 0, 1)] (by decide +kernel) 2 #[.val (.ref b), .val (.int (Int32.ofNat AL.length)), .unset] [(.ref b), (.int (Int32.ofNat AL.length))] rfl ?_
  refine own_alen C S0 bK (by decide +kernel) ?_
  refine own_icmp C S0 (q := .ne) (o := 11) (by decide +kernel) 14 (by decide) (by decide) (fun (q733 : ¬ (Int32.ofNat AL.length) = (Int32.ofNat NN)) => ?_) (fun (hq : (Int32.ofNat AL.length) = (Int32.ofNat NN)) => False.elim (absurd hq (fun q => absurd ((own_oNinj (by omega) (by omega)).mp q) (by omega))))
  refine own_seg C S0 [(14, .iload_n 1, 1)] (by decide +kernel) 15 #[.val (.ref b), .val (.int (Int32.ofNat AL.length)), .unset] [(.int (Int32.ofNat AL.length))] rfl ?_
  refine own_newPE C S0 (aty := .byte) (ad := "[B") (by decide) (own_wd hw 23 rfl) (by decide +kernel) (own_ofNat_nn (by omega)).1 10 (by rw [(own_ofNat_nn (by omega)).2]; omega) (by decide) (by decide) (by decide) ?_
  intro T734 h736 a737 k738 S735 g739 E740 f741 x742
  have f743 : Arv Z h736 a737 k738 .byte (Int32.ofNat AL.length) (List.replicate AL.length (.int 0)) (.int 0) := Arv.pad f741 (pad_rep [] (.int 0) AL.length)
  refine own_seg C S735 [(17, .astore_n 2, 1), (18, .aload_n 0, 1), (19, .iconst 0, 1), (20, .aload_n 2, 1), (21, .iconst 0, 1), (22, .aload_n 0, 1)] (by decide +kernel) 23 #[.val (.ref b), .val (.int (Int32.ofNat AL.length)), .val (.ref a737)] [(.ref b), (.int 0), (.ref a737), (.int 0), (.ref b)] rfl ?_
  have f744 := (bK.ext E740)
  refine own_alen C S735 f744 (by decide +kernel) ?_
  refine own_seg C S735 [(24, .iload_n 1, 1)] (by decide +kernel) 25 #[.val (.ref b), .val (.int (Int32.ofNat AL.length)), .val (.ref a737)] [(.int (Int32.ofNat AL.length)), (.int (Int32.ofNat NN)), (.int 0), (.ref a737), (.int 0), (.ref b)] rfl ?_
  have f745 : n0 ≤ h736.size := (Nat.le_trans z0 E740.1)
  refine own_callS C S735 (own_wd hw 183 rfl) (own_wd hw 184 rfl) (own_wd hw 185 rfl) (own_wd hw 186 rfl) (by decide) (own_Met.pay (own_min l Z a0 hw (Int32.ofNat NN) (Int32.ofNat AL.length) h736 n0 f745) C 4 (own_wd hw 186 rfl) (own_wd hw 185 rfl) (by decide) (by decide)) (fun _ _ _ q => q.2) [(.int (Int32.ofNat NN)), (.int (Int32.ofNat AL.length))] [(.int 0), (.ref a737), (.int 0), (.ref b)] rfl own_pd11 rfl rfl rfl (Nat.le_of_ble_eq_true rfl) (by decide) (by decide) (by decide +kernel) ?_
  rintro T747 h748 v749 L750 S751 ⟨⟨rfl, e746⟩, -⟩
  rw [e746] at S751; clear e746
  show own_Go p e below _ T747 (mkF m 28 #[.val (.ref b), .val (.int (Int32.ofNat AL.length)), .val (.ref a737)] [(.int (if (Int32.ofNat AL.length) < (Int32.ofNat NN) then (Int32.ofNat AL.length) else (Int32.ofNat NN))), (.int 0), (.ref a737), (.int 0), (.ref b)])
  rw [own_min_g (own_nofs (by omega) (by omega) (by omega))]
  show own_Go p e below _ T747 (mkF m 28 #[.val (.ref b), .val (.int (Int32.ofNat AL.length)), .val (.ref a737)] [(.int (Int32.ofNat AL.length)), (.int 0), (.ref a737), (.int 0), (.ref b)])
  have g752 : n0 ≤ a737 := by rw [g739]; exact z0
  refine own_copy C S751 (own_wd hw 187 rfl) (own_wd hw 141 rfl) (own_wd hw 139 rfl) (own_wd hw 140 rfl) f744 f743 rfl (by decide) (by decide) (own_ofNat_nn (by omega)).1 (by rw [show (0 : Int32).toNatClampNeg = 0 from rfl, (own_ofNat_nn (i := AL.length) (by omega)).2, (own_ofNat_nn (i := NN) (by omega)).2]; omega) (Nat.le_of_eq (Nat.zero_add _)) (by rw [List.length_replicate, show (0 : Int32).toNatClampNeg = 0 from rfl, (own_ofNat_nn (i := AL.length) (by omega)).2]; omega) g752 (AL.map Value.int) (by rw [(own_ofNat_nn (i := AL.length) (by omega)).2]; exact (own_take0 _ _ _).trans own_pd_rg) rfl (by decide +kernel) (by decide) 0 (Nat.le_of_ble_eq_true rfl) (by decide) ?_
  intro T753 h755 S754 K756 f757
  refine own_seg C S754 [(31, .aload_n 2, 1)] (by decide +kernel) 32 #[.val (.ref b), .val (.int (Int32.ofNat AL.length)), .val (.ref a737)] [(.ref a737)] rfl ?_
  refine own_retA C S754 rfl rfl (by decide +kernel) (by decide) (by decide) ?_
  have o758 : h0.size ≤ a737 := by rw [g739]; exact (Nat.le_refl _)
  exact ⟨a737, k738, rfl, o758, (((Keep.refl _ _).ext E740).trans K756 (allS (Or.inr o758) all0)), f757⟩
theorem own_pd24 : parseMethodDescriptor "([BII)Z" = some ⟨[(.array .byte), .int, .int], (some .boolean)⟩ := by decide +kernel
theorem own_pd25 : parseMethodDescriptor "(I)[B" = some ⟨[.int], (some (.array .byte))⟩ := by decide +kernel
theorem own_pd26 : parseMethodDescriptor "([BI)[B" = some ⟨[(.array .byte), .int], (some (.array .byte))⟩ := by decide +kernel
theorem own_e8 (l : Launch) (Z : State) (a0 : Array Value) (hw : ∀ d ∈ tables_1, d.before a0 Z = true) (G1 : Int32) (G3 : Value) (U8 : Addr) (TB : Addr) (TBk : ClassId) (b : Addr) (bk : ClassId) (cs : List Int32) (h0 : Heap) (n0 : Nat) (z0 : n0 ≤ h0.size) (X00 : Old Z n0 h0) (TK : Arv Z h0 TB TBk .char (64 : Int32) own_T64v (.int 0)) (bK : Arv Z h0 b bk .byte (Int32.ofNat (cs).length) (own_sv cs) (.int 0)) (bE : Exa Z h0 b "[B") (O2 : Sta Z Z.heap "java/lang/String" "COMPACT_STRINGS" "Z" (.int G1)) (O4 : Sta Z Z.heap "jdk/internal/util/Preconditions" "SIOOBE_FORMATTER" "Ljava/util/function/BiFunction;" G3) (P5 : ¬ G1 = (0 : Int32)) (rG3 : G3.isRef = true) (OU1 : Sta Z Z.heap "java/nio/charset/StandardCharsets" "UTF_8" "Ljava/nio/charset/Charset;" (.ref U8)) (OU2 : Sta Z Z.heap "sun/nio/cs/UTF_8" "INSTANCE" "Lsun/nio/cs/UTF_8;" (.ref U8)) (OT : Sta Z Z.heap "java/util/Base64$Encoder" "toBase64" "[C" (.ref TB)) (TBlt : TB < n0) (hp : ∀ k ∈ cs, ¬ k < 0 ∧ ¬ (255 : Int32) < k) (hl : cs.length ≤ 5) (h58 : (own_u8 cs).length < 2 * cs.length) :
    own_Met l Z (⟨"java/lang/String", "encodeUTF8", "(B[BZ)[B"⟩ : MethodName) jdk_42_method_46_code 9 (some (.array .byte)) ({ frames := 2, cells := 2, slots := 20, locals := 32 } : Room) n0 #[(.int 0), (.ref b), (.int 1)] h0 (fun v h => ∃ r : Addr, ∃ rk : ClassId, v = some (.ref r) ∧ h0.size ≤ r ∧ Keep h0 h [] ∧ Arv Z h r rk .byte (Int32.ofNat (own_u8 cs).length) (own_sv (own_u8 cs)) (.int 0)) := by
  refine own_met (by decide +kernel) #[.val (.int 0), .val (.ref b), .val (.int 1), .unset, .unset, .unset, .unset, .unset, .unset] (fun m => by first | (simp [entryFrame, mkF, argsToLocals, Value.category]; done) | rfl) ?_
  intro p e s m below meth c T0 C S0
  refine own_seg C S0 [(0, .iload_n 0, 1), (1, .iconst 1, 1)] (by decide +kernel) 2 #[.val (.int 0), .val (.ref b), .val (.int 1), .unset, .unset, .unset, .unset, .unset, .unset] [(.int 1), (.int 0)] rfl ?_
  refine own_icmp C S0 (q := .ne) (o := 9) (by decide +kernel) 11 (by decide) (by decide) (fun (q759 : ¬ (0 : Int32) = (1 : Int32)) => ?_) (fun (hq : (0 : Int32) = (1 : Int32)) => False.elim (by revert hq; decide))
  refine own_seg C S0 [(11, .aload_n 1, 1), (12, .iconst 0, 1), (13, .aload_n 1, 1)] (by decide +kernel) 14 #[.val (.int 0), .val (.ref b), .val (.int 1), .unset, .unset, .unset, .unset, .unset, .unset] [(.ref b), (.int 0), (.ref b)] rfl ?_
  refine own_alen C S0 bK (by decide +kernel) ?_
  refine own_callS C S0 (own_wd hw 203 rfl) (own_wd hw 204 rfl) (own_wd hw 205 rfl) (own_wd hw 206 rfl) (by decide) (own_Met.pay (own_hn l Z a0 hw b _ cs h0 n0 z0 bK hp hl) C 0 (own_wd hw 206 rfl) (own_wd hw 205 rfl) (by decide) (by decide)) (fun _ _ _ q => q.2) [(.ref b), (.int 0), (.int (Int32.ofNat (cs).length))] [] rfl own_pd24 rfl rfl rfl (Nat.le_of_ble_eq_true rfl) (by decide) (by decide) (by decide +kernel) ?_
  rintro T763 h764 v765 L766 S767 ⟨⟨y760, rfl, K761, p762⟩, -⟩
  show own_Go p e below _ T763 (mkF m 18 #[.val (.int 0), .val (.ref b), .val (.int 1), .unset, .unset, .unset, .unset, .unset, .unset] [(.int y760)])
  rcases p762 with ⟨hr, hall⟩ | hr
  · subst hr
    show own_Go p e below _ T763 (mkF m 18 #[.val (.int 0), .val (.ref b), .val (.int 1), .unset, .unset, .unset, .unset, .unset, .unset] [(.int 0)])
    refine own_if C S767 (q := .ne) (o := 11) (by decide +kernel) 29 (by decide) (by decide) (fun (hq : ¬ (0 : Int32) = (0 : Int32)) => False.elim (absurd hq (by decide))) (fun (q768 : (0 : Int32) = (0 : Int32)) => ?_)
    refine own_seg C S767 [(21, .aload_n 1, 1)] (by decide +kernel) 22 #[.val (.int 0), .val (.ref b), .val (.int 1), .unset, .unset, .unset, .unset, .unset, .unset] [(.ref b)] rfl ?_
    have f769 := (bK.keep K761 nin0)
    have f770 := (bE.keep K761)
    refine own_clone C S767 (own_wd hw 210 rfl) (own_wd hw 211 rfl) (own_wd hw 215 rfl) (own_wd hw 213 rfl) (own_wd hw 214 rfl) (own_wd hw 216 rfl) f769 f770 rfl (by decide +kernel) (by decide) 0 5 (Nat.le_of_ble_eq_true rfl) (by decide) (by rw [(own_ofNat_nn (by omega)).2]; exact hl) (by decide) (by decide) ?_
    intro T771 h773 a774 S772 g775 E776 f777 x778
    refine own_cast C S772 (own_wd hw 217 rfl) (Ins.self x778) (by decide +kernel) ?_
    intro T779 S780
    refine own_retA C S780 rfl rfl (by decide +kernel) (by decide) (by decide) ?_
    have f781 : Arv Z h773 a774 bk .byte (Int32.ofNat (own_u8 cs).length) (own_sv (own_u8 cs)) (.int 0) := by rw [own_u8_lo hall]; exact f777
    have o783 : h0.size ≤ h764.size := (Nat.le_trans (Nat.le_refl _) K761.1)
    have o782 : h0.size ≤ a774 := by rw [g775]; exact o783
    exact ⟨a774, bk, rfl, o782, (((Keep.refl _ _).trans K761 all0).ext E776), f781⟩
  · subst hr
    show own_Go p e below _ T763 (mkF m 18 #[.val (.int 0), .val (.ref b), .val (.int 1), .unset, .unset, .unset, .unset, .unset, .unset] [(.int 1)])
    refine own_if C S767 (q := .ne) (o := 11) (by decide +kernel) 29 (by decide) (by decide) (fun (q784 : ¬ (1 : Int32) = (0 : Int32)) => ?_) (fun (hq : (1 : Int32) = (0 : Int32)) => False.elim (absurd hq (by decide)))
    refine own_seg C S767 [(29, .iconst 0, 1), (30, .istore_n 3, 1), (31, .aload_n 1, 1)] (by decide +kernel) 32 #[.val (.int 0), .val (.ref b), .val (.int 1), .val (.int 0), .unset, .unset, .unset, .unset, .unset] [(.ref b)] rfl ?_
    have f785 := (bK.keep K761 nin0)
    refine own_alen C S767 f785 (by decide +kernel) ?_
    have f786 : n0 ≤ h764.size := (Nat.le_trans z0 K761.1)
    refine own_callS C S767 (own_wd hw 303 rfl) (own_wd hw 304 rfl) (own_wd hw 21 rfl) (own_wd hw 305 rfl) (by decide) (own_Met.pay (own_nbf l Z a0 hw ((cs).length) h764 n0 f786 hl) C 0 (own_wd hw 305 rfl) (own_wd hw 21 rfl) (by decide) (by decide)) (fun _ _ _ q => q.2) [(.int (Int32.ofNat (cs).length))] [] rfl own_pd25 rfl rfl rfl (Nat.le_of_ble_eq_true rfl) (by decide) (by decide) (by decide +kernel) ?_
    rintro T793 h794 v795 L796 S797 ⟨⟨a787, k788, rfl, g789, K790, f791, f792⟩, -⟩
    show own_Go p e below _ T793 (mkF m 36 #[.val (.int 0), .val (.ref b), .val (.int 1), .val (.int 0), .unset, .unset, .unset, .unset, .unset] [(.ref a787)])
    refine own_seg C S797 [(36, .astore 4, 2), (38, .aload_n 1, 1), (39, .astore 5, 2)] (by decide +kernel) 41 #[.val (.int 0), .val (.ref b), .val (.int 1), .val (.int 0), .val (.ref a787), .val (.ref b), .unset, .unset, .unset] [] rfl ?_
    refine own_seg C S797 [(41, .aload 5, 2)] (by decide +kernel) 43 #[.val (.int 0), .val (.ref b), .val (.int 1), .val (.int 0), .val (.ref a787), .val (.ref b), .unset, .unset, .unset] [(.ref b)] rfl ?_
    have f798 := (f785.keep K790 nin0)
    refine own_alen C S797 f798 (by decide +kernel) ?_
    refine own_seg C S797 [(44, .istore 6, 2), (46, .iconst 0, 1), (47, .istore 7, 2)] (by decide +kernel) 49 #[.val (.int 0), .val (.ref b), .val (.int 1), .val (.int 0), .val (.ref a787), .val (.ref b), .val (.int (Int32.ofNat (cs).length)), .val (.int 0), .unset] [] rfl ?_
    have o804 : h0.size ≤ h764.size := (Nat.le_trans (Nat.le_refl _) K761.1)
    have o803 : h0.size ≤ a787 := Nat.le_trans o804 g789
    have loop : ∀ (r : List Int32) (T800 : State) (h799 : Heap) (pre : List Int32) (z8 : Slot), own_S p l e ({ frames := 2, cells := 2, slots := 20, locals := 32 } : Room) s m #[(.int 0), (.ref b), (.int 1)] below meth c n0 T800 h799 1 10 → Keep h0 h799 [] → Arv Z h799 a787 k788 .byte (Int32.ofNat (2 * cs.length)) (own_pd (2 * cs.length) ((own_u8 pre).map StrChars.lo8)) (.int 0) → (cs = pre ++ r) → (z8 = .unset ∨ ∃ y, z8 = .val (.int y)) → own_Go p e below (own_En s n0 (fun v h => ∃ r : Addr, ∃ rk : ClassId, v = some (.ref r) ∧ h0.size ≤ r ∧ Keep h0 h [] ∧ Arv Z h r rk .byte (Int32.ofNat (own_u8 cs).length) (own_sv (own_u8 cs)) (.int 0)) ({ frames := 2, cells := 2, slots := 20, locals := 32 } : Room).cells ({ frames := 2, cells := 2, slots := 20, locals := 32 } : Room).slots) T800 (mkF m 49 #[.val (.int 0), .val (.ref b), .val (.int 1), .val (.int (Int32.ofNat (own_u8 pre).length)), .val (.ref a787), .val (.ref b), .val (.int (Int32.ofNat (cs).length)), .val (.int (Int32.ofNat pre.length)), z8] []) := by
      intro r
      induction r with
      | nil =>
        intro T800 h799 pre z8 S801 K802 dK hc hz
        have hpc : cs = pre := by rw [hc]; simp
        subst hpc
        refine own_seg C S801 [(49, .iload 7, 2), (51, .iload 6, 2)] (by decide +kernel) 53 #[.val (.int 0), .val (.ref b), .val (.int 1), .val (.int (Int32.ofNat (own_u8 cs).length)), .val (.ref a787), .val (.ref b), .val (.int (Int32.ofNat (cs).length)), .val (.int (Int32.ofNat cs.length)), z8] [(.int (Int32.ofNat (cs).length)), (.int (Int32.ofNat cs.length))] rfl ?_
        refine own_icmp C S801 (q := .ge) (o := 71) (by decide +kernel) 124 (by decide) (by decide) (fun (q805 : ¬ (Int32.ofNat cs.length) < (Int32.ofNat (cs).length)) => ?_) (fun (hq : (Int32.ofNat cs.length) < (Int32.ofNat (cs).length)) => False.elim (own_nofs (by omega) (by omega) (by omega) hq))
        refine own_seg C S801 [(124, .iload_n 3, 1), (125, .aload 4, 2)] (by decide +kernel) 127 #[.val (.int 0), .val (.ref b), .val (.int 1), .val (.int (Int32.ofNat (own_u8 cs).length)), .val (.ref a787), .val (.ref b), .val (.int (Int32.ofNat (cs).length)), .val (.int (Int32.ofNat cs.length)), z8] [(.ref a787), (.int (Int32.ofNat (own_u8 cs).length))] rfl ?_
        refine own_alen C S801 dK (by decide +kernel) ?_
        refine own_icmp C S801 (q := .ne) (o := 6) (by decide +kernel) 134 (by decide) (by decide) (fun (q806 : ¬ (Int32.ofNat (own_u8 cs).length) = (Int32.ofNat (2 * cs.length))) => ?_) (fun (hq : (Int32.ofNat (own_u8 cs).length) = (Int32.ofNat (2 * cs.length))) => False.elim (absurd hq (fun q => absurd ((own_oNinj (by omega) (by omega)).mp q) (by omega))))
        refine own_seg C S801 [(134, .aload 4, 2), (136, .iload_n 3, 1)] (by decide +kernel) 137 #[.val (.int 0), .val (.ref b), .val (.int 1), .val (.int (Int32.ofNat (own_u8 cs).length)), .val (.ref a787), .val (.ref b), .val (.int (Int32.ofNat (cs).length)), .val (.int (Int32.ofNat cs.length)), z8] [(.int (Int32.ofNat (own_u8 cs).length)), (.ref a787)] rfl ?_
        rw [show (Int32.ofNat (own_u8 cs).length) = (Int32.ofNat ((own_u8 cs).map StrChars.lo8).length) from (by rw [List.length_map])]
        have f807 : n0 ≤ h799.size := (Nat.le_trans z0 K802.1)
        refine own_callS C S801 (own_wd hw 310 rfl) (own_wd hw 311 rfl) (own_wd hw 175 rfl) (own_wd hw 312 rfl) (by decide) (own_Met.pay (own_co l Z a0 hw a787 _ (2 * cs.length) ((own_u8 cs).map StrChars.lo8) h799 n0 f807 dK (by rw [List.length_map]; exact h58) (by omega)) C 0 (own_wd hw 312 rfl) (own_wd hw 175 rfl) (by decide) (by decide)) (fun _ _ _ q => q.2) [(.ref a787), (.int (Int32.ofNat ((own_u8 cs).map StrChars.lo8).length))] [] rfl own_pd26 rfl rfl rfl (Nat.le_of_ble_eq_true rfl) (by decide) (by decide) (by decide +kernel) ?_
        rintro T813 h814 v815 L816 S817 ⟨⟨a808, k809, rfl, g810, K811, f812⟩, -⟩
        show own_Go p e below _ T813 (mkF m 140 #[.val (.int 0), .val (.ref b), .val (.int 1), .val (.int (Int32.ofNat ((own_u8 cs).map StrChars.lo8).length)), .val (.ref a787), .val (.ref b), .val (.int (Int32.ofNat (cs).length)), .val (.int (Int32.ofNat cs.length)), z8] [(.ref a808)])
        refine own_retA C S817 rfl rfl (by decide +kernel) (by decide) (by decide) ?_
        have f818 : Arv Z h814 a808 k809 .byte (Int32.ofNat ((own_u8 cs).map StrChars.lo8).length) (own_sv (own_u8 cs)) (.int 0) := by rw [own_svm]; exact f812
        have o820 : h0.size ≤ h799.size := (Nat.le_trans (Nat.le_refl _) K802.1)
        have o819 : h0.size ≤ a808 := Nat.le_trans o820 g810
        exact ⟨a808, k809, rfl, o819, (((Keep.refl _ _).trans K802 all0).trans K811 all0), f818⟩
      | cons ch r ih =>
        intro T800 h799 pre z8 S801 K802 dK hc hz
        have hcl : pre.length < cs.length := by rw [hc]; simp
        have hch := hp ch (by rw [hc]; simp)
        have hul := (own_u8_len pre).1
        refine own_seg C S801 [(49, .iload 7, 2), (51, .iload 6, 2)] (by decide +kernel) 53 #[.val (.int 0), .val (.ref b), .val (.int 1), .val (.int (Int32.ofNat (own_u8 pre).length)), .val (.ref a787), .val (.ref b), .val (.int (Int32.ofNat (cs).length)), .val (.int (Int32.ofNat pre.length)), z8] [(.int (Int32.ofNat (cs).length)), (.int (Int32.ofNat pre.length))] rfl ?_
        refine own_icmp C S801 (q := .ge) (o := 71) (by decide +kernel) 124 (by decide) (by decide) (fun (hq : ¬ (Int32.ofNat pre.length) < (Int32.ofNat (cs).length)) => False.elim (hq (own_ofs hcl (by omega)))) (fun (q821 : (Int32.ofNat pre.length) < (Int32.ofNat (cs).length)) => ?_)
        refine own_seg C S801 [(56, .aload 5, 2), (58, .iload 7, 2)] (by decide +kernel) 60 #[.val (.int 0), .val (.ref b), .val (.int 1), .val (.int (Int32.ofNat (own_u8 pre).length)), .val (.ref a787), .val (.ref b), .val (.int (Int32.ofNat (cs).length)), .val (.int (Int32.ofNat pre.length)), z8] [(.int (Int32.ofNat pre.length)), (.ref b)] rfl ?_
        have f822 := (bK.keep K802 nin0)
        refine own_baload C S801 f822 ⟨(own_ofNat_nn (by omega)).1, own_ofs hcl (by omega)⟩ (.int ch.toInt8.toInt32) (own_svget hc (by omega)) (by decide +kernel) ?_
        have J63 : ∀ (T823 : State), own_S p l e ({ frames := 2, cells := 2, slots := 20, locals := 32 } : Room) s m #[(.int 0), (.ref b), (.int 1)] below meth c n0 T823 h799 1 10 → own_Go p e below (own_En s n0 (fun v h => ∃ r : Addr, ∃ rk : ClassId, v = some (.ref r) ∧ h0.size ≤ r ∧ Keep h0 h [] ∧ Arv Z h r rk .byte (Int32.ofNat (own_u8 cs).length) (own_sv (own_u8 cs)) (.int 0)) ({ frames := 2, cells := 2, slots := 20, locals := 32 } : Room).cells ({ frames := 2, cells := 2, slots := 20, locals := 32 } : Room).slots) T823 (mkF m 63 #[.val (.int 0), .val (.ref b), .val (.int 1), .val (.int (Int32.ofNat (own_u8 pre).length)), .val (.ref a787), .val (.ref b), .val (.int (Int32.ofNat (cs).length)), .val (.int (Int32.ofNat pre.length)), .val (.int ch.toInt8.toInt32)] []) := by
          intro T823 S824
          refine own_seg C S824 [(63, .iload 8, 2)] (by decide +kernel) 65 #[.val (.int 0), .val (.ref b), .val (.int 1), .val (.int (Int32.ofNat (own_u8 pre).length)), .val (.ref a787), .val (.ref b), .val (.int (Int32.ofNat (cs).length)), .val (.int (Int32.ofNat pre.length)), .val (.int ch.toInt8.toInt32)] [(.int ch.toInt8.toInt32)] rfl ?_
          refine own_if C S824 (q := .ge) (o := 44) (by decide +kernel) 109 (by decide) (by decide) (fun (q825 : ¬ ch.toInt8.toInt32 < (0 : Int32)) => ?_) (fun (q826 : ch.toInt8.toInt32 < (0 : Int32)) => ?_)
          · have hlo : ch < 128 := by by_cases q : ch < 128; exact q; exact absurd ((own_b7 hch.1).2.1 q hch.2) q825
            have e8 : own_u8 (pre ++ [ch]) = own_u8 pre ++ [ch] := by rw [own_u8_app, own_u8_one, own_c8, if_pos hlo]
            refine own_seg C S824 [(109, .aload 4, 2), (111, .iload_n 3, 1), (112, .iinc 3 1, 3), (115, .iload 8, 2)] (by decide +kernel) 117 #[.val (.int 0), .val (.ref b), .val (.int 1), .val (.int ((Int32.ofNat (own_u8 pre).length) + (1 : Int32))), .val (.ref a787), .val (.ref b), .val (.int (Int32.ofNat (cs).length)), .val (.int (Int32.ofNat pre.length)), .val (.int ch.toInt8.toInt32)] [(.int ch.toInt8.toInt32), (.int (Int32.ofNat (own_u8 pre).length)), (.ref a787)] rfl ?_
            have g827 : n0 ≤ a787 := Nat.le_trans z0 o803
            refine own_bastore C S824 dK ⟨(own_ofNat_nn (by omega)).1, own_ofs (by omega) (by omega)⟩ (own_u8 pre).length (own_ofNat_nn (by omega)).2 (own_pdl (by omega)) ch.toInt8.toInt32 (own_i2b2 _) g827 (by decide +kernel) ?_
            intro T828 h830 S829 W831 f832
            have f833 : Arv Z h830 a787 k788 .byte (Int32.ofNat (2 * cs.length)) (own_pd (2 * cs.length) ((own_u8 pre ++ [ch]).map StrChars.lo8)) (.int 0) := by rw [← (own_pds (n := 2 * cs.length) (A := (own_u8 pre)) (B := (own_u8 pre ++ [ch])) (v := ch) (by omega) (by simp))]; exact f832
            refine own_seg C S829 [(118, .iinc 7 1, 3), (121, .goto (-72), 3)] (by decide +kernel) 49 #[.val (.int 0), .val (.ref b), .val (.int 1), .val (.int ((Int32.ofNat (own_u8 pre).length) + (1 : Int32))), .val (.ref a787), .val (.ref b), .val (.int (Int32.ofNat (cs).length)), .val (.int ((Int32.ofNat pre.length) + (1 : Int32))), .val (.int ch.toInt8.toInt32)] [] rfl ?_
            rw [show ((Int32.ofNat pre.length) + (1 : Int32)) = (Int32.ofNat (pre ++ [ch]).length) from (by rw [own_ofNat_succ, List.length_append]; rfl)]
            rw [show ((Int32.ofNat (own_u8 pre).length) + (1 : Int32)) = (Int32.ofNat (own_u8 (pre ++ [ch])).length) from (by rw [own_ofNat_succ, e8, List.length_append]; rfl)]
            rw [← e8] at f833
            have o834 : h0.size ≤ a787 := Nat.le_trans (Nat.le_refl _) o803
            exact ih T828 h830 (pre ++ [ch]) _ S829 (((Keep.refl _ _).trans K802 all0).wr W831 (Or.inr o834)) f833 (by rw [hc]; simp) (Or.inr ⟨_, rfl⟩)
          · have hhi : ¬ ch < 128 := fun q => absurd q826 (((own_b7 hch.1).1 q).1)
            have e8 : own_u8 (pre ++ [ch]) = own_u8 pre ++ [((192 : Int32) ||| (ch >>> ((6 : Int32) &&& 31))), ((128 : Int32) ||| (ch &&& (63 : Int32)))] := by rw [own_u8_app, own_u8_one, own_c8, if_neg hhi]
            refine own_seg C S824 [(68, .aload 4, 2), (70, .iload_n 3, 1), (71, .iinc 3 1, 3), (74, .sipush 192, 3), (77, .iload 8, 2), (79, .sipush 255, 3), (82, .iand, 1), (83, .bipush 6, 2), (85, .ishr, 1), (86, .ior, 1), (87, .i2b, 1)] (by decide +kernel) 88 #[.val (.int 0), .val (.ref b), .val (.int 1), .val (.int ((Int32.ofNat (own_u8 pre).length) + (1 : Int32))), .val (.ref a787), .val (.ref b), .val (.int (Int32.ofNat (cs).length)), .val (.int (Int32.ofNat pre.length)), .val (.int ch.toInt8.toInt32)] [(.int (((192 : Int32) ||| ((ch.toInt8.toInt32 &&& (255 : Int32)) >>> ((6 : Int32) &&& 31))).toInt8.toInt32)), (.int (Int32.ofNat (own_u8 pre).length)), (.ref a787)] rfl ?_
            rw [show (ch.toInt8.toInt32 &&& (255 : Int32)) = ch from own_k8 hch]
            have m1 : (own_u8 pre ++ [((192 : Int32) ||| (ch >>> ((6 : Int32) &&& 31)))]).length = (own_u8 pre).length + 1 := by simp
            have g835 : n0 ≤ a787 := Nat.le_trans z0 o803
            refine own_bastore C S824 dK ⟨(own_ofNat_nn (by omega)).1, own_ofs (by omega) (by omega)⟩ (own_u8 pre).length (own_ofNat_nn (by omega)).2 (own_pdl (by omega)) (((192 : Int32) ||| (ch >>> ((6 : Int32) &&& 31))).toInt8.toInt32) (own_i2b2 _) g835 (by decide +kernel) ?_
            intro T836 h838 S837 W839 f840
            have f841 : Arv Z h838 a787 k788 .byte (Int32.ofNat (2 * cs.length)) (own_pd (2 * cs.length) ((own_u8 pre ++ [((192 : Int32) ||| (ch >>> ((6 : Int32) &&& 31)))]).map StrChars.lo8)) (.int 0) := by rw [← (own_pds (n := 2 * cs.length) (A := (own_u8 pre)) (B := (own_u8 pre ++ [((192 : Int32) ||| (ch >>> ((6 : Int32) &&& 31)))])) (v := ((192 : Int32) ||| (ch >>> ((6 : Int32) &&& 31)))) (by omega) (by simp))]; exact f840
            refine own_seg C S837 [(89, .aload 4, 2), (91, .iload_n 3, 1), (92, .iinc 3 1, 3), (95, .sipush 128, 3), (98, .iload 8, 2), (100, .bipush 63, 2), (102, .iand, 1), (103, .ior, 1), (104, .i2b, 1)] (by decide +kernel) 105 #[.val (.int 0), .val (.ref b), .val (.int 1), .val (.int (((Int32.ofNat (own_u8 pre).length) + (1 : Int32)) + (1 : Int32))), .val (.ref a787), .val (.ref b), .val (.int (Int32.ofNat (cs).length)), .val (.int (Int32.ofNat pre.length)), .val (.int ch.toInt8.toInt32)] [(.int (((128 : Int32) ||| (ch.toInt8.toInt32 &&& (63 : Int32))).toInt8.toInt32)), (.int ((Int32.ofNat (own_u8 pre).length) + (1 : Int32))), (.ref a787)] rfl ?_
            rw [show (ch.toInt8.toInt32 &&& (63 : Int32)) = (ch &&& (63 : Int32)) from own_k63 ch]
            rw [show ((Int32.ofNat (own_u8 pre).length) + (1 : Int32)) = (Int32.ofNat (own_u8 pre ++ [((192 : Int32) ||| (ch >>> ((6 : Int32) &&& 31)))]).length) from (by rw [own_ofNat_succ, m1])]
            refine own_bastore C S837 f841 ⟨(own_ofNat_nn (by omega)).1, own_ofs (by omega) (by omega)⟩ (own_u8 pre ++ [((192 : Int32) ||| (ch >>> ((6 : Int32) &&& 31)))]).length (own_ofNat_nn (by omega)).2 (own_pdl (by omega)) (((128 : Int32) ||| (ch &&& (63 : Int32))).toInt8.toInt32) (own_i2b2 _) g835 (by decide +kernel) ?_
            intro T842 h844 S843 W845 f846
            have f847 : Arv Z h844 a787 k788 .byte (Int32.ofNat (2 * cs.length)) (own_pd (2 * cs.length) ((own_u8 pre ++ [((192 : Int32) ||| (ch >>> ((6 : Int32) &&& 31))), ((128 : Int32) ||| (ch &&& (63 : Int32)))]).map StrChars.lo8)) (.int 0) := by rw [← (own_pds (n := 2 * cs.length) (A := (own_u8 pre ++ [((192 : Int32) ||| (ch >>> ((6 : Int32) &&& 31)))])) (B := (own_u8 pre ++ [((192 : Int32) ||| (ch >>> ((6 : Int32) &&& 31))), ((128 : Int32) ||| (ch &&& (63 : Int32)))])) (v := ((128 : Int32) ||| (ch &&& (63 : Int32)))) (by omega) (by simp))]; exact f846
            refine own_seg C S843 [(106, .goto 12, 3), (118, .iinc 7 1, 3), (121, .goto (-72), 3)] (by decide +kernel) 49 #[.val (.int 0), .val (.ref b), .val (.int 1), .val (.int ((Int32.ofNat (own_u8 pre ++ [((192 : Int32) ||| (ch >>> ((6 : Int32) &&& 31)))]).length) + (1 : Int32))), .val (.ref a787), .val (.ref b), .val (.int (Int32.ofNat (cs).length)), .val (.int ((Int32.ofNat pre.length) + (1 : Int32))), .val (.int ch.toInt8.toInt32)] [] rfl ?_
            rw [show ((Int32.ofNat pre.length) + (1 : Int32)) = (Int32.ofNat (pre ++ [ch]).length) from (by rw [own_ofNat_succ, List.length_append]; rfl)]
            rw [show ((Int32.ofNat (own_u8 pre ++ [((192 : Int32) ||| (ch >>> ((6 : Int32) &&& 31)))]).length) + (1 : Int32)) = (Int32.ofNat (own_u8 (pre ++ [ch])).length) from (by rw [own_ofNat_succ, m1, e8, List.length_append]; rfl)]
            rw [← e8] at f847
            have o848 : h0.size ≤ a787 := Nat.le_trans (Nat.le_refl _) o803
            exact ih T842 h844 (pre ++ [ch]) _ S843 ((((Keep.refl _ _).trans K802 all0).wr W839 (Or.inr o848)).wr W845 (Or.inr o848)) f847 (by rw [hc]; simp) (Or.inr ⟨_, rfl⟩)
        rcases hz with rfl | ⟨y0, rfl⟩
        · refine own_seg C S801 [(61, .istore 8, 2)] (by decide +kernel) 63 #[.val (.int 0), .val (.ref b), .val (.int 1), .val (.int (Int32.ofNat (own_u8 pre).length)), .val (.ref a787), .val (.ref b), .val (.int (Int32.ofNat (cs).length)), .val (.int (Int32.ofNat pre.length)), .val (.int ch.toInt8.toInt32)] [] rfl ?_
          exact J63 T800 S801
        · refine own_seg C S801 [(61, .istore 8, 2)] (by decide +kernel) 63 #[.val (.int 0), .val (.ref b), .val (.int 1), .val (.int (Int32.ofNat (own_u8 pre).length)), .val (.ref a787), .val (.ref b), .val (.int (Int32.ofNat (cs).length)), .val (.int (Int32.ofNat pre.length)), .val (.int ch.toInt8.toInt32)] [] rfl ?_
          exact J63 T800 S801
    exact loop cs T793 h794 ([]) .unset S797 (((Keep.refl _ _).trans K761 all0).trans K790 all0) f791 rfl (Or.inl rfl)
theorem own_pd27 : parseMethodDescriptor "(B[BZ)[B" = some ⟨[.byte, (.array .byte), .boolean], (some (.array .byte))⟩ := by decide +kernel
theorem own_en (l : Launch) (Z : State) (a0 : Array Value) (hw : ∀ d ∈ tables_1, d.before a0 Z = true) (G1 : Int32) (G3 : Value) (U8 : Addr) (TB : Addr) (TBk : ClassId) (b : Addr) (bk : ClassId) (cs : List Int32) (h0 : Heap) (n0 : Nat) (z0 : n0 ≤ h0.size) (X00 : Old Z n0 h0) (TK : Arv Z h0 TB TBk .char (64 : Int32) own_T64v (.int 0)) (bK : Arv Z h0 b bk .byte (Int32.ofNat (cs).length) (own_sv cs) (.int 0)) (bE : Exa Z h0 b "[B") (O2 : Sta Z Z.heap "java/lang/String" "COMPACT_STRINGS" "Z" (.int G1)) (O4 : Sta Z Z.heap "jdk/internal/util/Preconditions" "SIOOBE_FORMATTER" "Ljava/util/function/BiFunction;" G3) (P5 : ¬ G1 = (0 : Int32)) (rG3 : G3.isRef = true) (OU1 : Sta Z Z.heap "java/nio/charset/StandardCharsets" "UTF_8" "Ljava/nio/charset/Charset;" (.ref U8)) (OU2 : Sta Z Z.heap "sun/nio/cs/UTF_8" "INSTANCE" "Lsun/nio/cs/UTF_8;" (.ref U8)) (OT : Sta Z Z.heap "java/util/Base64$Encoder" "toBase64" "[C" (.ref TB)) (TBlt : TB < n0) (hp : ∀ k ∈ cs, ¬ k < 0 ∧ ¬ (255 : Int32) < k) (hl : cs.length ≤ 5) (h58 : (own_u8 cs).length < 2 * cs.length) :
    own_Met l Z (⟨"java/lang/String", "encode", "(Ljava/nio/charset/Charset;B[B)[B"⟩ : MethodName) jdk_42_method_18_code 3 (some (.array .byte)) ({ frames := 3, cells := 2, slots := 20, locals := 52 } : Room) n0 #[(.ref U8), (.int 0), (.ref b)] h0 (fun v h => ∃ r : Addr, ∃ rk : ClassId, v = some (.ref r) ∧ h0.size ≤ r ∧ Keep h0 h [] ∧ Arv Z h r rk .byte (Int32.ofNat (own_u8 cs).length) (own_sv (own_u8 cs)) (.int 0)) := by
  refine own_met (by decide +kernel) #[.val (.ref U8), .val (.int 0), .val (.ref b)] (fun m => by first | (simp [entryFrame, mkF, argsToLocals, Value.category]; done) | rfl) ?_
  intro p e s m below meth c T0 C S0
  refine own_seg C S0 [(0, .aload_n 0, 1)] (by decide +kernel) 1 #[.val (.ref U8), .val (.int 0), .val (.ref b)] [(.ref U8)] rfl ?_
  refine own_getS C S0 (own_wd hw 198 rfl) Via.refl (OU2.ext X00.2) (by decide +kernel) ?_
  intro T849 S850
  refine own_acmp C S850 (q := .ne) (o := 10) rfl rfl (by decide +kernel) 14 (by decide) (by decide) (fun (hq : ¬ ((.ref U8) : Value) = (.ref U8)) => False.elim (hq rfl)) (fun (q851 : ((.ref U8) : Value) = (.ref U8)) => ?_)
  refine own_seg C S850 [(7, .iload_n 1, 1), (8, .aload_n 2, 1), (9, .iconst 1, 1)] (by decide +kernel) 10 #[.val (.ref U8), .val (.int 0), .val (.ref b)] [(.int 1), (.ref b), (.int 0)] rfl ?_
  refine own_callS C S850 (own_wd hw 200 rfl) (own_wd hw 201 rfl) (own_wd hw 6 rfl) (own_wd hw 202 rfl) (by decide) (own_Met.pay (own_e8 l Z a0 hw G1 G3 U8 TB TBk b _ cs h0 n0 z0 X00 TK bK bE O2 O4 P5 rG3 OU1 OU2 OT TBlt hp hl h58) C 0 (own_wd hw 202 rfl) (own_wd hw 6 rfl) (by decide) (by decide)) (fun _ _ _ q => q.2) [(.int 0), (.ref b), (.int 1)] [] rfl own_pd27 rfl rfl rfl (Nat.le_of_ble_eq_true rfl) (by decide) (by decide) (by decide +kernel) ?_
  rintro T857 h858 v859 L860 S861 ⟨⟨a852, k853, rfl, g854, K855, f856⟩, -⟩
  show own_Go p e below _ T857 (mkF m 13 #[.val (.ref U8), .val (.int 0), .val (.ref b)] [(.ref a852)])
  refine own_retA C S861 rfl rfl (by decide +kernel) (by decide) (by decide) ?_
  have o862 : h0.size ≤ a852 := Nat.le_trans (Nat.le_refl _) g854
  exact ⟨a852, k853, rfl, o862, ((Keep.refl _ _).trans K855 all0), f856⟩
theorem own_pd28 : parseMethodDescriptor "(Ljava/nio/charset/Charset;B[B)[B" = some ⟨[(.object "java/nio/charset/Charset"), .byte, (.array .byte)], (some (.array .byte))⟩ := by decide +kernel
theorem own_gbu (l : Launch) (Z : State) (a0 : Array Value) (hw : ∀ d ∈ tables_1, d.before a0 Z = true) (G1 : Int32) (G3 : Value) (U8 : Addr) (TB : Addr) (TBk : ClassId) (x : Addr) (b : Addr) (bk : ClassId) (cs : List Int32) (h0 : Heap) (n0 : Nat) (z0 : n0 ≤ h0.size) (X00 : Old Z n0 h0) (TK : Arv Z h0 TB TBk .char (64 : Int32) own_T64v (.int 0)) (xE : Exa Z h0 x "java/lang/String") (xV : Fld Z h0 x "java/lang/String" "value" "[B" (.ref b)) (xC : Fld Z h0 x "java/lang/String" "coder" "B" (.int 0)) (bK : Arv Z h0 b bk .byte (Int32.ofNat (cs).length) (own_sv cs) (.int 0)) (bE : Exa Z h0 b "[B") (O2 : Sta Z Z.heap "java/lang/String" "COMPACT_STRINGS" "Z" (.int G1)) (O4 : Sta Z Z.heap "jdk/internal/util/Preconditions" "SIOOBE_FORMATTER" "Ljava/util/function/BiFunction;" G3) (P5 : ¬ G1 = (0 : Int32)) (rG3 : G3.isRef = true) (OU1 : Sta Z Z.heap "java/nio/charset/StandardCharsets" "UTF_8" "Ljava/nio/charset/Charset;" (.ref U8)) (OU2 : Sta Z Z.heap "sun/nio/cs/UTF_8" "INSTANCE" "Lsun/nio/cs/UTF_8;" (.ref U8)) (OT : Sta Z Z.heap "java/util/Base64$Encoder" "toBase64" "[C" (.ref TB)) (TBlt : TB < n0) (hp : ∀ k ∈ cs, ¬ k < 0 ∧ ¬ (255 : Int32) < k) (hl : cs.length ≤ 5) (h58 : (own_u8 cs).length < 2 * cs.length) :
    own_Met l Z (⟨"java/lang/String", "getBytes", "(Ljava/nio/charset/Charset;)[B"⟩ : MethodName) jdk_42_method_64_code 2 (some (.array .byte)) ({ frames := 4, cells := 2, slots := 20, locals := 66 } : Room) n0 #[(.ref x), (.ref U8)] h0 (fun v h => ∃ r : Addr, ∃ rk : ClassId, v = some (.ref r) ∧ h0.size ≤ r ∧ Keep h0 h [] ∧ Arv Z h r rk .byte (Int32.ofNat (own_u8 cs).length) (own_sv (own_u8 cs)) (.int 0)) := by
  refine own_met (by decide +kernel) #[.val (.ref x), .val (.ref U8)] (fun m => by first | (simp [entryFrame, mkF, argsToLocals, Value.category]; done) | rfl) ?_
  intro p e s m below meth c T0 C S0
  refine own_seg C S0 [(0, .aload_n 1, 1), (1, .ifnonnull 11, 3), (12, .aload_n 1, 1), (13, .aload_n 0, 1)] (by decide +kernel) 14 #[.val (.ref x), .val (.ref U8)] [(.ref x), (.ref U8)] rfl ?_
  refine own_callV C S0 (own_wd hw 110 rfl) (own_wd hw 111 rfl) (own_wd hw 113 rfl) (own_wd hw 113 rfl) rfl (own_wd hw 112 rfl) (by decide) (own_Met.pay (own_coder l Z a0 hw G1 G3 x h0 n0 z0 X00 xC O2 O4 P5 rG3) C 1 (own_wd hw 114 rfl) (own_wd hw 6 rfl) (by decide) (by decide)) (fun _ _ _ q => q.2) xE [] [(.ref U8)] rfl own_pd0 rfl rfl rfl (Nat.le_of_ble_eq_true rfl) (by decide) (by decide) (by decide +kernel) ?_
  rintro T864 h865 v866 L867 S868 ⟨⟨rfl, e863⟩, -⟩
  rw [e863] at S868; clear e863
  show own_Go p e below _ T864 (mkF m 17 #[.val (.ref x), .val (.ref U8)] [(.int 0), (.ref U8)])
  refine own_seg C S868 [(17, .aload_n 0, 1)] (by decide +kernel) 18 #[.val (.ref x), .val (.ref U8)] [(.ref x), (.int 0), (.ref U8)] rfl ?_
  refine own_getF C S868 (host := "") (Or.inl (own_wd hw 32 rfl)) Via.refl xV (by decide +kernel) ?_
  intro T869 S870
  refine own_callS C S870 (own_wd hw 195 rfl) (own_wd hw 196 rfl) (own_wd hw 6 rfl) (own_wd hw 197 rfl) (by decide) (own_Met.pay (own_en l Z a0 hw G1 G3 U8 TB TBk b _ cs h0 n0 z0 X00 TK bK bE O2 O4 P5 rG3 OU1 OU2 OT TBlt hp hl h58) C 0 (own_wd hw 197 rfl) (own_wd hw 6 rfl) (by decide) (by decide)) (fun _ _ _ q => q.2) [(.ref U8), (.int 0), (.ref b)] [] rfl own_pd28 rfl rfl rfl (Nat.le_of_ble_eq_true rfl) (by decide) (by decide) (by decide +kernel) ?_
  rintro T876 h877 v878 L879 S880 ⟨⟨a871, k872, rfl, g873, K874, f875⟩, -⟩
  show own_Go p e below _ T876 (mkF m 24 #[.val (.ref x), .val (.ref U8)] [(.ref a871)])
  refine own_retA C S880 rfl rfl (by decide +kernel) (by decide) (by decide) ?_
  have o881 : h0.size ≤ a871 := Nat.le_trans (Nat.le_refl _) g873
  exact ⟨a871, k872, rfl, o881, ((Keep.refl _ _).trans K874 all0), f875⟩
theorem own_mxc (l : Launch) (Z : State) (a0 : Array Value) (hw : ∀ d ∈ tables_1, d.before a0 Z = true) (kq : Nat) (h0 : Heap) (n0 : Nat) (z0 : n0 ≤ h0.size) (hk : kq ≤ 3) :
    own_Met l Z (⟨"java/lang/Math", "multiplyExact", "(II)I"⟩ : MethodName) jdk_29_method_28_code 4 (some .int) ({ frames := 0, cells := 0, slots := 0, locals := 0 } : Room) n0 #[(.int 4), (.int (Int32.ofNat kq))] h0 (fun v h => v = some (.int (Int32.ofNat (4 * kq))) ∧ h = h0) := by
  refine own_met (by decide +kernel) #[.val (.int 4), .val (.int (Int32.ofNat kq)), .unset, .unset] (fun m => by first | (simp [entryFrame, mkF, argsToLocals, Value.category]; done) | rfl) ?_
  intro p e s m below meth c T0 C S0
  refine own_seg C S0 [(0, .iload_n 0, 1), (1, .i2l, 1), (2, .iload_n 1, 1), (3, .i2l, 1), (4, .lmul, 1), (5, .lstore_n 2, 1), (6, .lload_n 2, 1), (7, .l2i, 1), (8, .i2l, 1), (9, .lload_n 2, 1), (10, .lcmp, 1)] (by decide +kernel) 11 #[.val (.int 4), .val (.int (Int32.ofNat kq)), .val (.long ((4 : Int32).toInt64 * (Int32.ofNat kq).toInt64)), .second] [(.int (Jvm.Free.XT.cmpL ((((4 : Int32).toInt64 * (Int32.ofNat kq).toInt64).toInt32).toInt64) ((4 : Int32).toInt64 * (Int32.ofNat kq).toInt64)))] rfl ?_
  refine own_if C S0 (q := .eq) (o := 13) (by decide +kernel) 24 (by decide) (by decide) (fun (q882 : (Jvm.Free.XT.cmpL ((((4 : Int32).toInt64 * (Int32.ofNat kq).toInt64).toInt32).toInt64) ((4 : Int32).toInt64 * (Int32.ofNat kq).toInt64)) = (0 : Int32)) => ?_) (fun (hq : ¬ (Jvm.Free.XT.cmpL ((((4 : Int32).toInt64 * (Int32.ofNat kq).toInt64).toInt32).toInt64) ((4 : Int32).toInt64 * (Int32.ofNat kq).toInt64)) = (0 : Int32)) => False.elim (hq (own_mx hk).1))
  refine own_seg C S0 [(24, .lload_n 2, 1), (25, .l2i, 1)] (by decide +kernel) 26 #[.val (.int 4), .val (.int (Int32.ofNat kq)), .val (.long ((4 : Int32).toInt64 * (Int32.ofNat kq).toInt64)), .second] [(.int (((4 : Int32).toInt64 * (Int32.ofNat kq).toInt64).toInt32))] rfl ?_
  rw [show ((4 : Int32).toInt64 * (Int32.ofNat kq).toInt64).toInt32 = (Int32.ofNat (4 * kq)) from (own_mx hk).2]
  refine own_retI C S0 (by decide +kernel) (by decide) (by decide) ?_
  exact ⟨rfl, rfl⟩
theorem own_axc (l : Launch) (Z : State) (a0 : Array Value) (hw : ∀ d ∈ tables_1, d.before a0 Z = true) (aq : Nat) (bq : Nat) (h0 : Heap) (n0 : Nat) (z0 : n0 ≤ h0.size) (ha : aq ≤ 12) (hb : bq ≤ 3) :
    own_Met l Z (⟨"java/lang/Math", "addExact", "(II)I"⟩ : MethodName) jdk_29_method_24_code 3 (some .int) ({ frames := 0, cells := 0, slots := 0, locals := 0 } : Room) n0 #[(.int (Int32.ofNat aq)), (.int (Int32.ofNat bq))] h0 (fun v h => v = some (.int (Int32.ofNat (aq + bq))) ∧ h = h0) := by
  refine own_met (by decide +kernel) #[.val (.int (Int32.ofNat aq)), .val (.int (Int32.ofNat bq)), .unset] (fun m => by first | (simp [entryFrame, mkF, argsToLocals, Value.category]; done) | rfl) ?_
  intro p e s m below meth c T0 C S0
  refine own_seg C S0 [(0, .iload_n 0, 1), (1, .iload_n 1, 1), (2, .iadd, 1), (3, .istore_n 2, 1), (4, .iload_n 0, 1), (5, .iload_n 2, 1), (6, .ixor, 1), (7, .iload_n 1, 1), (8, .iload_n 2, 1), (9, .ixor, 1), (10, .iand, 1)] (by decide +kernel) 11 #[.val (.int (Int32.ofNat aq)), .val (.int (Int32.ofNat bq)), .val (.int ((Int32.ofNat aq) + (Int32.ofNat bq)))] [(.int (((Int32.ofNat aq) ^^^ ((Int32.ofNat aq) + (Int32.ofNat bq))) &&& ((Int32.ofNat bq) ^^^ ((Int32.ofNat aq) + (Int32.ofNat bq)))))] rfl ?_
  refine own_if C S0 (q := .ge) (o := 13) (by decide +kernel) 24 (by decide) (by decide) (fun (q883 : ¬ (((Int32.ofNat aq) ^^^ ((Int32.ofNat aq) + (Int32.ofNat bq))) &&& ((Int32.ofNat bq) ^^^ ((Int32.ofNat aq) + (Int32.ofNat bq)))) < (0 : Int32)) => ?_) (fun (hq : (((Int32.ofNat aq) ^^^ ((Int32.ofNat aq) + (Int32.ofNat bq))) &&& ((Int32.ofNat bq) ^^^ ((Int32.ofNat aq) + (Int32.ofNat bq)))) < (0 : Int32)) => False.elim (own_ax ha hb hq))
  refine own_seg C S0 [(24, .iload_n 2, 1)] (by decide +kernel) 25 #[.val (.int (Int32.ofNat aq)), .val (.int (Int32.ofNat bq)), .val (.int ((Int32.ofNat aq) + (Int32.ofNat bq)))] [(.int ((Int32.ofNat aq) + (Int32.ofNat bq)))] rfl ?_
  refine own_retI C S0 (by decide +kernel) (by decide) (by decide) ?_
  exact ⟨by rw [Int32.ofNat_add], rfl⟩
theorem own_fd3 : parseFieldDescriptor "Z" = some .boolean := by decide +kernel
theorem own_sn8 {Z : State} {a0 : Array Value} (hw : ∀ d ∈ tables_1, d.before a0 Z = true) : Jvm.RoadKit.slotOf Z "java/util/Base64$Encoder" "newline" "[B" ≠ Jvm.RoadKit.slotOf Z "java/util/Base64$Encoder" "isURL" "Z" := slot_ne (Or.inr (own_wd hw 69 rfl)) (Or.inr (own_wd hw 67 rfl)) (by decide) own_fd0 own_fd3
theorem own_sn9 {Z : State} {a0 : Array Value} (hw : ∀ d ∈ tables_1, d.before a0 Z = true) : Jvm.RoadKit.slotOf Z "java/util/Base64$Encoder" "linemax" "I" ≠ Jvm.RoadKit.slotOf Z "java/util/Base64$Encoder" "isURL" "Z" := slot_ne (Or.inr (own_wd hw 71 rfl)) (Or.inr (own_wd hw 67 rfl)) (by decide) own_fd2 own_fd3
theorem own_sn10 {Z : State} {a0 : Array Value} (hw : ∀ d ∈ tables_1, d.before a0 Z = true) : Jvm.RoadKit.slotOf Z "java/util/Base64$Encoder" "linemax" "I" ≠ Jvm.RoadKit.slotOf Z "java/util/Base64$Encoder" "newline" "[B" := slot_ne (Or.inr (own_wd hw 71 rfl)) (Or.inr (own_wd hw 69 rfl)) (by decide) own_fd2 own_fd0
theorem own_sn11 {Z : State} {a0 : Array Value} (hw : ∀ d ∈ tables_1, d.before a0 Z = true) : Jvm.RoadKit.slotOf Z "java/util/Base64$Encoder" "doPadding" "Z" ≠ Jvm.RoadKit.slotOf Z "java/util/Base64$Encoder" "isURL" "Z" := slot_ne (Or.inr (own_wd hw 63 rfl)) (Or.inr (own_wd hw 67 rfl)) (by decide) own_fd3 own_fd3
theorem own_sn12 {Z : State} {a0 : Array Value} (hw : ∀ d ∈ tables_1, d.before a0 Z = true) : Jvm.RoadKit.slotOf Z "java/util/Base64$Encoder" "doPadding" "Z" ≠ Jvm.RoadKit.slotOf Z "java/util/Base64$Encoder" "newline" "[B" := slot_ne (Or.inr (own_wd hw 63 rfl)) (Or.inr (own_wd hw 69 rfl)) (by decide) own_fd3 own_fd0
theorem own_sn13 {Z : State} {a0 : Array Value} (hw : ∀ d ∈ tables_1, d.before a0 Z = true) : Jvm.RoadKit.slotOf Z "java/util/Base64$Encoder" "doPadding" "Z" ≠ Jvm.RoadKit.slotOf Z "java/util/Base64$Encoder" "linemax" "I" := slot_ne (Or.inr (own_wd hw 63 rfl)) (Or.inr (own_wd hw 71 rfl)) (by decide) own_fd3 own_fd2
theorem own_sn14 {Z : State} {a0 : Array Value} (hw : ∀ d ∈ tables_1, d.before a0 Z = true) : Jvm.RoadKit.slotOf Z "java/util/Base64$Encoder" "isURL" "Z" ≠ Jvm.RoadKit.slotOf Z "java/util/Base64$Encoder" "newline" "[B" := slot_ne (Or.inr (own_wd hw 67 rfl)) (Or.inr (own_wd hw 69 rfl)) (by decide) own_fd3 own_fd0
theorem own_sn15 {Z : State} {a0 : Array Value} (hw : ∀ d ∈ tables_1, d.before a0 Z = true) : Jvm.RoadKit.slotOf Z "java/util/Base64$Encoder" "isURL" "Z" ≠ Jvm.RoadKit.slotOf Z "java/util/Base64$Encoder" "linemax" "I" := slot_ne (Or.inr (own_wd hw 67 rfl)) (Or.inr (own_wd hw 71 rfl)) (by decide) own_fd3 own_fd2
theorem own_sn16 {Z : State} {a0 : Array Value} (hw : ∀ d ∈ tables_1, d.before a0 Z = true) : Jvm.RoadKit.slotOf Z "java/util/Base64$Encoder" "isURL" "Z" ≠ Jvm.RoadKit.slotOf Z "java/util/Base64$Encoder" "doPadding" "Z" := slot_ne (Or.inr (own_wd hw 67 rfl)) (Or.inr (own_wd hw 63 rfl)) (by decide) own_fd3 own_fd3
theorem own_sn17 {Z : State} {a0 : Array Value} (hw : ∀ d ∈ tables_1, d.before a0 Z = true) : Jvm.RoadKit.slotOf Z "java/util/Base64$Encoder" "newline" "[B" ≠ Jvm.RoadKit.slotOf Z "java/util/Base64$Encoder" "linemax" "I" := slot_ne (Or.inr (own_wd hw 69 rfl)) (Or.inr (own_wd hw 71 rfl)) (by decide) own_fd0 own_fd2
theorem own_sn18 {Z : State} {a0 : Array Value} (hw : ∀ d ∈ tables_1, d.before a0 Z = true) : Jvm.RoadKit.slotOf Z "java/util/Base64$Encoder" "newline" "[B" ≠ Jvm.RoadKit.slotOf Z "java/util/Base64$Encoder" "doPadding" "Z" := slot_ne (Or.inr (own_wd hw 69 rfl)) (Or.inr (own_wd hw 63 rfl)) (by decide) own_fd0 own_fd3
theorem own_sn19 {Z : State} {a0 : Array Value} (hw : ∀ d ∈ tables_1, d.before a0 Z = true) : Jvm.RoadKit.slotOf Z "java/util/Base64$Encoder" "linemax" "I" ≠ Jvm.RoadKit.slotOf Z "java/util/Base64$Encoder" "doPadding" "Z" := slot_ne (Or.inr (own_wd hw 71 rfl)) (Or.inr (own_wd hw 63 rfl)) (by decide) own_fd2 own_fd3
theorem own_eci (l : Launch) (Z : State) (a0 : Array Value) (hw : ∀ d ∈ tables_1, d.before a0 Z = true) (x : Addr) (h0 : Heap) (n0 : Nat) (z0 : n0 ≤ h0.size) (ge_x : n0 ≤ x) (p0 : Exa Z h0 x "java/util/Base64$Encoder") (p1 : Fld Z h0 x "java/util/Base64$Encoder" "isURL" "Z" (.int 0)) (p2 : Fld Z h0 x "java/util/Base64$Encoder" "newline" "[B" .null) (p3 : Fld Z h0 x "java/util/Base64$Encoder" "linemax" "I" (.int 0)) (p4 : Fld Z h0 x "java/util/Base64$Encoder" "doPadding" "Z" (.int 0)) :
    own_Met l Z (⟨"java/util/Base64$Encoder", "<init>", "(Z[BIZ)V"⟩ : MethodName) jdk_2452_method_1_code 5 none ({ frames := 1, cells := 0, slots := 0, locals := 12 } : Room) n0 #[(.ref x), (.int 0), .null, (.int (-1 : Int32)), (.int 0)] h0 (fun v h => v = none ∧ Keep h0 h [x] ∧ Exa Z h x "java/util/Base64$Encoder" ∧ Fld Z h x "java/util/Base64$Encoder" "isURL" "Z" (.int 0) ∧ Fld Z h x "java/util/Base64$Encoder" "newline" "[B" .null ∧ Fld Z h x "java/util/Base64$Encoder" "linemax" "I" (.int (-1 : Int32)) ∧ Fld Z h x "java/util/Base64$Encoder" "doPadding" "Z" (.int 0)) := by
  refine own_met (by decide +kernel) #[.val (.ref x), .val (.int 0), .val .null, .val (.int (-1 : Int32)), .val (.int 0)] (fun m => by first | (simp [entryFrame, mkF, argsToLocals, Value.category]; done) | rfl) ?_
  intro p e s m below meth c T0 C S0
  refine own_seg C S0 [(0, .aload_n 0, 1)] (by decide +kernel) 1 #[.val (.ref x), .val (.int 0), .val .null, .val (.int (-1 : Int32)), .val (.int 0)] [(.ref x)] rfl ?_
  refine own_initO C S0 (own_wd hw 76 rfl) (own_wd hw 16 rfl) (own_wd hw 17 rfl) rfl (by decide +kernel) (by decide) 0 (Nat.le_of_ble_eq_true rfl) (by decide) ?_
  intro T884 S885
  refine own_seg C S885 [(4, .aload_n 0, 1), (5, .iload_n 1, 1)] (by decide +kernel) 6 #[.val (.ref x), .val (.int 0), .val .null, .val (.int (-1 : Int32)), .val (.int 0)] [(.int 0), (.ref x)] rfl ?_
  refine own_putF C S885 (ty := .boolean) (host := "") (Or.inl (own_wd hw 66 rfl)) Via.refl p1 p0 (Or.inr ⟨(own_wd hw 67 rfl), rfl, rfl⟩) (own_wd hw 65 rfl) own_fd3 rfl rfl ge_x (by decide +kernel) ?_
  intro T886 h888 S887 W889
  have f890 : Fld Z h888 x "java/util/Base64$Encoder" "isURL" "Z" (.int 0) := Fld.same W889 p1
  refine own_seg C S887 [(9, .aload_n 0, 1), (10, .aload_n 2, 1)] (by decide +kernel) 11 #[.val (.ref x), .val (.int 0), .val .null, .val (.int (-1 : Int32)), .val (.int 0)] [.null, (.ref x)] rfl ?_
  have f891 := (Fld.other W889 p2 (Or.inr (own_sn8 hw)))
  have f892 := (Exa.wr W889 p0)
  refine own_putF C S887 (ty := (.array .byte)) (host := "") (Or.inl (own_wd hw 68 rfl)) Via.refl f891 f892 (Or.inr ⟨(own_wd hw 69 rfl), rfl, rfl⟩) (own_wd hw 65 rfl) own_fd0 rfl rfl ge_x (by decide +kernel) ?_
  intro T893 h895 S894 W896
  have f897 : Fld Z h895 x "java/util/Base64$Encoder" "newline" "[B" .null := Fld.same W896 f891
  refine own_seg C S894 [(14, .aload_n 0, 1), (15, .iload_n 3, 1)] (by decide +kernel) 16 #[.val (.ref x), .val (.int 0), .val .null, .val (.int (-1 : Int32)), .val (.int 0)] [(.int (-1 : Int32)), (.ref x)] rfl ?_
  have f898 := (Fld.other W896 (Fld.other W889 p3 (Or.inr (own_sn9 hw))) (Or.inr (own_sn10 hw)))
  have f899 := (Exa.wr W896 f892)
  refine own_putF C S894 (ty := .int) (host := "") (Or.inl (own_wd hw 70 rfl)) Via.refl f898 f899 (Or.inr ⟨(own_wd hw 71 rfl), rfl, rfl⟩) (own_wd hw 65 rfl) own_fd2 rfl rfl ge_x (by decide +kernel) ?_
  intro T900 h902 S901 W903
  have f904 : Fld Z h902 x "java/util/Base64$Encoder" "linemax" "I" (.int (-1 : Int32)) := Fld.same W903 f898
  refine own_seg C S901 [(19, .aload_n 0, 1), (20, .iload 4, 2)] (by decide +kernel) 22 #[.val (.ref x), .val (.int 0), .val .null, .val (.int (-1 : Int32)), .val (.int 0)] [(.int 0), (.ref x)] rfl ?_
  have f905 := (Fld.other W903 (Fld.other W896 (Fld.other W889 p4 (Or.inr (own_sn11 hw))) (Or.inr (own_sn12 hw))) (Or.inr (own_sn13 hw)))
  have f906 := (Exa.wr W903 f899)
  refine own_putF C S901 (ty := .boolean) (host := "") (Or.inl (own_wd hw 62 rfl)) Via.refl f905 f906 (Or.inr ⟨(own_wd hw 63 rfl), rfl, rfl⟩) (own_wd hw 65 rfl) own_fd3 rfl rfl ge_x (by decide +kernel) ?_
  intro T907 h909 S908 W910
  have f911 : Fld Z h909 x "java/util/Base64$Encoder" "doPadding" "Z" (.int 0) := Fld.same W910 f905
  refine own_retV C S908 (by decide +kernel) (by decide) (by decide) ?_
  have f912 := (Exa.wr W910 f906)
  have f913 := (Fld.other W910 (Fld.other W903 (Fld.other W896 f890 (Or.inr (own_sn14 hw))) (Or.inr (own_sn15 hw))) (Or.inr (own_sn16 hw)))
  have f914 := (Fld.other W910 (Fld.other W903 f897 (Or.inr (own_sn17 hw))) (Or.inr (own_sn18 hw)))
  have f915 := (Fld.other W910 f904 (Or.inr (own_sn19 hw)))
  exact ⟨rfl, (((((Keep.refl _ _).wr W889 (Or.inl (List.mem_of_getElem? (i := 0) rfl))).wr W896 (Or.inl (List.mem_of_getElem? (i := 0) rfl))).wr W903 (Or.inl (List.mem_of_getElem? (i := 0) rfl))).wr W910 (Or.inl (List.mem_of_getElem? (i := 0) rfl))), f912, f913, f914, f915, f911⟩
theorem own_pd29 : parseMethodDescriptor "(Z[BIZ)V" = some ⟨[.boolean, (.array .byte), .int, .boolean], none⟩ := by decide +kernel
theorem own_wp (l : Launch) (Z : State) (a0 : Array Value) (hw : ∀ d ∈ tables_1, d.before a0 Z = true) (a : Addr) (h0 : Heap) (n0 : Nat) (z0 : n0 ≤ h0.size) (p0 : Exa Z h0 a "java/util/Base64$Encoder") (p1 : Fld Z h0 a "java/util/Base64$Encoder" "isURL" "Z" (.int 0)) (p2 : Fld Z h0 a "java/util/Base64$Encoder" "newline" "[B" .null) (p3 : Fld Z h0 a "java/util/Base64$Encoder" "linemax" "I" (.int (-1 : Int32))) (p4 : Fld Z h0 a "java/util/Base64$Encoder" "doPadding" "Z" (.int 1)) :
    own_Met l Z (⟨"java/util/Base64$Encoder", "withoutPadding", "()Ljava/util/Base64$Encoder;"⟩ : MethodName) jdk_2452_method_8_code 1 (some (.object "java/util/Base64$Encoder")) ({ frames := 2, cells := 1, slots := 4, locals := 29 } : Room) n0 #[(.ref a)] h0 (fun v h => ∃ x : Addr, v = some (.ref x) ∧ h0.size ≤ x ∧ Keep h0 h [] ∧ Exa Z h x "java/util/Base64$Encoder" ∧ Fld Z h x "java/util/Base64$Encoder" "isURL" "Z" (.int 0) ∧ Fld Z h x "java/util/Base64$Encoder" "newline" "[B" .null ∧ Fld Z h x "java/util/Base64$Encoder" "linemax" "I" (.int (-1 : Int32)) ∧ Fld Z h x "java/util/Base64$Encoder" "doPadding" "Z" (.int 0)) := by
  refine own_met (by decide +kernel) #[.val (.ref a)] (fun m => by first | (simp [entryFrame, mkF, argsToLocals, Value.category]; done) | rfl) ?_
  intro p e s m below meth c T0 C S0
  refine own_seg C S0 [(0, .aload_n 0, 1)] (by decide +kernel) 1 #[.val (.ref a)] [(.ref a)] rfl ?_
  refine own_getF C S0 (host := "") (Or.inl (own_wd hw 62 rfl)) Via.refl p4 (by decide +kernel) ?_
  intro T916 S917
  refine own_if C S917 (q := .ne) (o := 5) (by decide +kernel) 9 (by decide) (by decide) (fun (q918 : ¬ (1 : Int32) = (0 : Int32)) => ?_) (fun (hq : (1 : Int32) = (0 : Int32)) => False.elim (by revert hq; decide))
  refine own_new C S917 (own_wd hw 64 rfl) (own_wd hw 65 rfl) (own_wd hw 56 rfl) (by decide +kernel) (by decide) (by decide) ?_
  intro T919 h921 a922 S920 g923 E924 x925 D926
  have f927 : Fld Z h921 a922 "java/util/Base64$Encoder" "doPadding" "Z" (.int 0) := D926 (ty := .boolean) (Or.inr (own_wd hw 63 rfl)) own_fd3
  have f928 : Fld Z h921 a922 "java/util/Base64$Encoder" "isURL" "Z" (.int 0) := D926 (ty := .boolean) (Or.inr (own_wd hw 67 rfl)) own_fd3
  have f929 : Fld Z h921 a922 "java/util/Base64$Encoder" "newline" "[B" .null := D926 (ty := (.array .byte)) (Or.inr (own_wd hw 69 rfl)) own_fd0
  have f930 : Fld Z h921 a922 "java/util/Base64$Encoder" "linemax" "I" (.int 0) := D926 (ty := .int) (Or.inr (own_wd hw 71 rfl)) own_fd2
  refine own_seg C S920 [(12, .dup, 1), (13, .aload_n 0, 1)] (by decide +kernel) 14 #[.val (.ref a)] [(.ref a), (.ref a922), (.ref a922)] rfl ?_
  have f931 := (Fld.ext E924 p1)
  refine own_getF C S920 (host := "") (Or.inl (own_wd hw 66 rfl)) Via.refl f931 (by decide +kernel) ?_
  intro T932 S933
  refine own_seg C S933 [(17, .aload_n 0, 1)] (by decide +kernel) 18 #[.val (.ref a)] [(.ref a), (.int 0), (.ref a922), (.ref a922)] rfl ?_
  have f934 := (Fld.ext E924 p2)
  refine own_getF C S933 (host := "") (Or.inl (own_wd hw 68 rfl)) Via.refl f934 (by decide +kernel) ?_
  intro T935 S936
  refine own_seg C S936 [(21, .aload_n 0, 1)] (by decide +kernel) 22 #[.val (.ref a)] [(.ref a), .null, (.int 0), (.ref a922), (.ref a922)] rfl ?_
  have f937 := (Fld.ext E924 p3)
  refine own_getF C S936 (host := "") (Or.inl (own_wd hw 70 rfl)) Via.refl f937 (by decide +kernel) ?_
  intro T938 S939
  refine own_seg C S939 [(25, .iconst 0, 1)] (by decide +kernel) 26 #[.val (.ref a)] [(.int 0), (.int (-1 : Int32)), .null, (.int 0), (.ref a922), (.ref a922)] rfl ?_
  have f940 : n0 ≤ h921.size := (Nat.le_trans z0 E924.1)
  have g941 : n0 ≤ a922 := by rw [g923]; exact z0
  refine own_callI C S939 rfl (own_wd hw 72 rfl) (own_wd hw 73 rfl) (own_wd hw 75 rfl) (by decide) (own_Met.pay (own_eci l Z a0 hw a922 h921 n0 f940 g941 x925 f928 f929 f930 f927) C 1 (own_wd hw 75 rfl) (own_wd hw 56 rfl) (by decide) (by decide)) (fun _ _ _ q => q.2) [(.int 0), .null, (.int (-1 : Int32)), (.int 0)] [(.ref a922)] rfl own_pd29 rfl rfl rfl (Nat.le_of_ble_eq_true rfl) (by decide) (by decide) (by decide +kernel) ?_
  rintro T948 h949 v950 L951 S952 ⟨⟨rfl, K942, f943, f944, f945, f946, f947⟩, -⟩
  show own_Go p e below _ T948 (mkF m 29 #[.val (.ref a)] [(.ref a922)])
  refine own_retA C S952 rfl rfl (by decide +kernel) (by decide) (by decide) ?_
  have o953 : h0.size ≤ a922 := by rw [g923]; exact (Nat.le_refl _)
  exact ⟨a922, rfl, o953, (((Keep.refl _ _).ext E924).trans K942 (allS (Or.inr o953) all0)), f943, f944, f945, f946, f947⟩
theorem own_ge (l : Launch) (Z : State) (a0 : Array Value) (hw : ∀ d ∈ tables_1, d.before a0 Z = true) (EN : Addr) (h0 : Heap) (n0 : Nat) (z0 : n0 ≤ h0.size) (X00 : Old Z n0 h0) (OE : Sta Z Z.heap "java/util/Base64$Encoder" "RFC4648" "Ljava/util/Base64$Encoder;" (.ref EN)) :
    own_Met l Z (⟨"java/util/Base64", "getEncoder", "()Ljava/util/Base64$Encoder;"⟩ : MethodName) jdk_2448_method_2_code 0 (some (.object "java/util/Base64$Encoder")) ({ frames := 0, cells := 0, slots := 0, locals := 0 } : Room) n0 #[] h0 (fun v h => v = some (.ref EN) ∧ h = h0) := by
  refine own_met (by decide +kernel) #[] (fun m => by first | (simp [entryFrame, mkF, argsToLocals, Value.category]; done) | rfl) ?_
  intro p e s m below meth c T0 C S0
  refine own_getS C S0 (own_wd hw 55 rfl) Via.refl (OE.ext X00.2) (by decide +kernel) ?_
  intro T954 S955
  refine own_retA C S955 rfl rfl (by decide +kernel) (by decide) (by decide) ?_
  exact ⟨rfl, rfl⟩
theorem own_pfN (l : Launch) (Z : State) (a0 : Array Value) (hw : ∀ d ∈ tables_1, d.before a0 Z = true) (N : Int32) (h0 : Heap) (n0 : Nat) (z0 : n0 ≤ h0.size) (g0 : ¬ N < 0) (g1 : ¬ N = 0) (g2 : N.toNatClampNeg ≤ 12) :
    own_Met l Z (⟨"jdk/internal/util/Preconditions", "checkFromIndexSize", "(IIILjava/util/function/BiFunction;)I"⟩ : MethodName) jdk_41_method_13_code 4 (some .int) ({ frames := 0, cells := 0, slots := 0, locals := 0 } : Room) n0 #[(.int 0), (.int N), (.int N), .null] h0 (fun v h => v = some (.int 0) ∧ h = h0) := by
  refine own_met (by decide +kernel) #[.val (.int 0), .val (.int N), .val (.int N), .val .null] (fun m => by first | (simp [entryFrame, mkF, argsToLocals, Value.category]; done) | rfl) ?_
  intro p e s m below meth c T0 C S0
  refine own_seg C S0 [(0, .iload_n 2, 1), (1, .iload_n 0, 1), (2, .ior, 1), (3, .iload_n 1, 1), (4, .ior, 1)] (by decide +kernel) 5 #[.val (.int 0), .val (.int N), .val (.int N), .val .null] [(.int ((N ||| (0 : Int32)) ||| N))] rfl ?_
  refine own_if C S0 (q := .lt) (o := 10) (by decide +kernel) 15 (by decide) (by decide) (fun (hq : ((N ||| (0 : Int32)) ||| N) < (0 : Int32)) => False.elim (g0 (by rw [own_orN] at hq; exact hq))) (fun (q956 : ¬ ((N ||| (0 : Int32)) ||| N) < (0 : Int32)) => ?_)
  refine own_seg C S0 [(8, .iload_n 1, 1), (9, .iload_n 2, 1), (10, .iload_n 0, 1), (11, .isub, 1)] (by decide +kernel) 12 #[.val (.int 0), .val (.int N), .val (.int N), .val .null] [(.int (N - (0 : Int32))), (.int N)] rfl ?_
  refine own_icmp C S0 (q := .le) (o := 11) (by decide +kernel) 23 (by decide) (by decide) (fun (q957 : ¬ (N - (0 : Int32)) < N) => ?_) (fun (hq : (N - (0 : Int32)) < N) => False.elim (absurd hq (by rw [Int32.sub_zero]; intro q; exact own_irr N q)))
  refine own_seg C S0 [(23, .iload_n 0, 1)] (by decide +kernel) 24 #[.val (.int 0), .val (.int N), .val (.int N), .val .null] [(.int 0)] rfl ?_
  refine own_retI C S0 (by decide +kernel) (by decide) (by decide) ?_
  exact ⟨rfl, rfl⟩
theorem own_pfR (l : Launch) (Z : State) (a0 : Array Value) (hw : ∀ d ∈ tables_1, d.before a0 Z = true) (g : Addr) (N : Int32) (h0 : Heap) (n0 : Nat) (z0 : n0 ≤ h0.size) (g0 : ¬ N < 0) (g1 : ¬ N = 0) (g2 : N.toNatClampNeg ≤ 12) :
    own_Met l Z (⟨"jdk/internal/util/Preconditions", "checkFromIndexSize", "(IIILjava/util/function/BiFunction;)I"⟩ : MethodName) jdk_41_method_13_code 4 (some .int) ({ frames := 0, cells := 0, slots := 0, locals := 0 } : Room) n0 #[(.int 0), (.int N), (.int N), (.ref g)] h0 (fun v h => v = some (.int 0) ∧ h = h0) := by
  refine own_met (by decide +kernel) #[.val (.int 0), .val (.int N), .val (.int N), .val (.ref g)] (fun m => by first | (simp [entryFrame, mkF, argsToLocals, Value.category]; done) | rfl) ?_
  intro p e s m below meth c T0 C S0
  refine own_seg C S0 [(0, .iload_n 2, 1), (1, .iload_n 0, 1), (2, .ior, 1), (3, .iload_n 1, 1), (4, .ior, 1)] (by decide +kernel) 5 #[.val (.int 0), .val (.int N), .val (.int N), .val (.ref g)] [(.int ((N ||| (0 : Int32)) ||| N))] rfl ?_
  refine own_if C S0 (q := .lt) (o := 10) (by decide +kernel) 15 (by decide) (by decide) (fun (hq : ((N ||| (0 : Int32)) ||| N) < (0 : Int32)) => False.elim (g0 (by rw [own_orN] at hq; exact hq))) (fun (q958 : ¬ ((N ||| (0 : Int32)) ||| N) < (0 : Int32)) => ?_)
  refine own_seg C S0 [(8, .iload_n 1, 1), (9, .iload_n 2, 1), (10, .iload_n 0, 1), (11, .isub, 1)] (by decide +kernel) 12 #[.val (.int 0), .val (.int N), .val (.int N), .val (.ref g)] [(.int (N - (0 : Int32))), (.int N)] rfl ?_
  refine own_icmp C S0 (q := .le) (o := 11) (by decide +kernel) 23 (by decide) (by decide) (fun (q959 : ¬ (N - (0 : Int32)) < N) => ?_) (fun (hq : (N - (0 : Int32)) < N) => False.elim (absurd hq (by rw [Int32.sub_zero]; intro q; exact own_irr N q)))
  refine own_seg C S0 [(23, .iload_n 0, 1)] (by decide +kernel) 24 #[.val (.int 0), .val (.int N), .val (.int N), .val (.ref g)] [(.int 0)] rfl ?_
  refine own_retI C S0 (by decide +kernel) (by decide) (by decide) ?_
  exact ⟨rfl, rfl⟩
theorem own_pd30 : parseMethodDescriptor "(IIILjava/util/function/BiFunction;)I" = some ⟨[.int, .int, .int, (.object "java/util/function/BiFunction")], (some .int)⟩ := by decide +kernel
theorem own_cbo (l : Launch) (Z : State) (a0 : Array Value) (hw : ∀ d ∈ tables_1, d.before a0 Z = true) (G1 : Int32) (G3 : Value) (N : Int32) (h0 : Heap) (n0 : Nat) (z0 : n0 ≤ h0.size) (X00 : Old Z n0 h0) (O2 : Sta Z Z.heap "java/lang/String" "COMPACT_STRINGS" "Z" (.int G1)) (O4 : Sta Z Z.heap "jdk/internal/util/Preconditions" "SIOOBE_FORMATTER" "Ljava/util/function/BiFunction;" G3) (P5 : ¬ G1 = (0 : Int32)) (rG3 : G3.isRef = true) (g0 : ¬ N < 0) (g1 : ¬ N = 0) (g2 : N.toNatClampNeg ≤ 12) :
    own_Met l Z (⟨"java/lang/String", "checkBoundsOffCount", "(III)I"⟩ : MethodName) jdk_42_method_157_code 3 (some .int) ({ frames := 1, cells := 0, slots := 0, locals := 15 } : Room) n0 #[(.int 0), (.int N), (.int N)] h0 (fun v h => v = some (.int 0) ∧ h = h0) := by
  refine own_met (by decide +kernel) #[.val (.int 0), .val (.int N), .val (.int N)] (fun m => by first | (simp [entryFrame, mkF, argsToLocals, Value.category]; done) | rfl) ?_
  intro p e s m below meth c T0 C S0
  refine own_seg C S0 [(0, .iload_n 0, 1), (1, .iload_n 1, 1), (2, .iload_n 2, 1)] (by decide +kernel) 3 #[.val (.int 0), .val (.int N), .val (.int N)] [(.int N), (.int N), (.int 0)] rfl ?_
  rcases ref_cases rG3 with e3 | ⟨g, e3⟩
  · subst e3
    refine own_getS C S0 (own_wd hw 259 rfl) Via.refl (O4.ext X00.2) (by decide +kernel) ?_
    intro T960 S961
    refine own_callS C S961 (own_wd hw 261 rfl) (own_wd hw 262 rfl) (own_wd hw 260 rfl) (own_wd hw 263 rfl) (by decide) (own_Met.pay (own_pfN l Z a0 hw N h0 n0 z0 g0 g1 g2) C 0 (own_wd hw 263 rfl) (own_wd hw 260 rfl) (by decide) (by decide)) (fun _ _ _ q => q.2) [(.int 0), (.int N), (.int N), .null] [] rfl own_pd30 rfl rfl rfl (Nat.le_of_ble_eq_true rfl) (by decide) (by decide) (by decide +kernel) ?_
    rintro T963 h964 v965 L966 S967 ⟨⟨rfl, e962⟩, -⟩
    rw [e962] at S967; clear e962
    show own_Go p e below _ T963 (mkF m 9 #[.val (.int 0), .val (.int N), .val (.int N)] [(.int 0)])
    refine own_retI C S967 (by decide +kernel) (by decide) (by decide) ?_
    exact ⟨rfl, rfl⟩
  · subst e3
    refine own_getS C S0 (own_wd hw 259 rfl) Via.refl (O4.ext X00.2) (by decide +kernel) ?_
    intro T968 S969
    refine own_callS C S969 (own_wd hw 261 rfl) (own_wd hw 262 rfl) (own_wd hw 260 rfl) (own_wd hw 263 rfl) (by decide) (own_Met.pay (own_pfR l Z a0 hw g N h0 n0 z0 g0 g1 g2) C 0 (own_wd hw 263 rfl) (own_wd hw 260 rfl) (by decide) (by decide)) (fun _ _ _ q => q.2) [(.int 0), (.int N), (.int N), (.ref g)] [] rfl own_pd30 rfl rfl rfl (Nat.le_of_ble_eq_true rfl) (by decide) (by decide) (by decide +kernel) ?_
    rintro T971 h972 v973 L974 S975 ⟨⟨rfl, e970⟩, -⟩
    rw [e970] at S975; clear e970
    show own_Go p e below _ T971 (mkF m 9 #[.val (.int 0), .val (.int N), .val (.int N)] [(.int 0)])
    refine own_retI C S975 (by decide +kernel) (by decide) (by decide) ?_
    exact ⟨rfl, rfl⟩
theorem own_cr (l : Launch) (Z : State) (a0 : Array Value) (hw : ∀ d ∈ tables_1, d.before a0 Z = true) (b : Addr) (bk : ClassId) (N : Int32) (vs : List Value) (h0 : Heap) (n0 : Nat) (z0 : n0 ≤ h0.size) (bK : Arv Z h0 b bk .byte N vs (.int 0)) (bE : Exa Z h0 b "[B") (g0 : ¬ N < 0) (g1 : ¬ N = 0) (g2 : N.toNatClampNeg ≤ 12) :
    own_Met l Z (⟨"java/util/Arrays", "copyOfRange", "([BII)[B"⟩ : MethodName) jdk_65_method_132_code 3 (some (.array .byte)) ({ frames := 1, cells := 1, slots := 12, locals := 14 } : Room) n0 #[(.ref b), (.int 0), (.int N)] h0 (fun v h => ∃ r : Addr, ∃ rk : ClassId, v = some (.ref r) ∧ h0.size ≤ r ∧ Keep h0 h [] ∧ Arv Z h r rk .byte N vs (.int 0)) := by
  refine own_met (by decide +kernel) #[.val (.ref b), .val (.int 0), .val (.int N)] (fun m => by first | (simp [entryFrame, mkF, argsToLocals, Value.category]; done) | rfl) ?_
  intro p e s m below meth c T0 C S0
  refine own_seg C S0 [(0, .iload_n 1, 1)] (by decide +kernel) 1 #[.val (.ref b), .val (.int 0), .val (.int N)] [(.int 0)] rfl ?_
  refine own_if C S0 (q := .ne) (o := 9) (by decide +kernel) 10 (by decide) (by decide) (fun (hq : ¬ (0 : Int32) = (0 : Int32)) => False.elim (hq rfl)) (fun (q976 : (0 : Int32) = (0 : Int32)) => ?_)
  refine own_seg C S0 [(4, .iload_n 2, 1), (5, .aload_n 0, 1)] (by decide +kernel) 6 #[.val (.ref b), .val (.int 0), .val (.int N)] [(.ref b), (.int N)] rfl ?_
  refine own_alen C S0 bK (by decide +kernel) ?_
  refine own_icmp C S0 (q := .eq) (o := 10) (by decide +kernel) 17 (by decide) (by decide) (fun (q977 : N = N) => ?_) (fun (hq : ¬ N = N) => False.elim (hq rfl))
  refine own_seg C S0 [(17, .aload_n 0, 1)] (by decide +kernel) 18 #[.val (.ref b), .val (.int 0), .val (.int N)] [(.ref b)] rfl ?_
  refine own_clone C S0 (own_wd hw 264 rfl) (own_wd hw 211 rfl) (own_wd hw 215 rfl) (own_wd hw 213 rfl) (own_wd hw 214 rfl) (own_wd hw 216 rfl) bK bE rfl (by decide +kernel) (by decide) 0 12 (Nat.le_of_ble_eq_true rfl) (by decide) g2 (by decide) (by decide) ?_
  intro T978 h980 a981 S979 g982 E983 f984 x985
  refine own_cast C S979 (own_wd hw 265 rfl) (Ins.self x985) (by decide +kernel) ?_
  intro T986 S987
  refine own_retA C S987 rfl rfl (by decide +kernel) (by decide) (by decide) ?_
  have o988 : h0.size ≤ a981 := by rw [g982]; exact (Nat.le_refl _)
  exact ⟨a981, bk, rfl, o988, ((Keep.refl _ _).ext E983), f984⟩
theorem own_pd31 : parseMethodDescriptor "(III)I" = some ⟨[.int, .int, .int], (some .int)⟩ := by decide +kernel
theorem own_sib3 (l : Launch) (Z : State) (a0 : Array Value) (hw : ∀ d ∈ tables_1, d.before a0 Z = true) (G1 : Int32) (G3 : Value) (x : Addr) (b : Addr) (bk : ClassId) (N : Int32) (vs : List Value) (h0 : Heap) (n0 : Nat) (z0 : n0 ≤ h0.size) (ge_x : n0 ≤ x) (X00 : Old Z n0 h0) (xE : Exa Z h0 x "java/lang/String") (xV : Fld Z h0 x "java/lang/String" "value" "[B" .null) (xC : Fld Z h0 x "java/lang/String" "coder" "B" (.int 0)) (bK : Arv Z h0 b bk .byte N vs (.int 0)) (bE : Exa Z h0 b "[B") (ne_b_x : b ≠ x) (O2 : Sta Z Z.heap "java/lang/String" "COMPACT_STRINGS" "Z" (.int G1)) (O4 : Sta Z Z.heap "jdk/internal/util/Preconditions" "SIOOBE_FORMATTER" "Ljava/util/function/BiFunction;" G3) (P5 : ¬ G1 = (0 : Int32)) (rG3 : G3.isRef = true) (g0 : ¬ N < 0) (g1 : ¬ N = 0) (g2 : N.toNatClampNeg ≤ 12) :
    own_Met l Z (⟨"java/lang/String", "<init>", "([BIII)V"⟩ : MethodName) jdk_42_method_7_code 7 none ({ frames := 2, cells := 1, slots := 12, locals := 29 } : Room) n0 #[(.ref x), (.ref b), (.int 0), (.int 0), (.int N)] h0 (fun v h => ∃ r : Addr, ∃ rk : ClassId, v = none ∧ h0.size ≤ r ∧ Keep h0 h [x] ∧ Exa Z h x "java/lang/String" ∧ Fld Z h x "java/lang/String" "coder" "B" (.int 0) ∧ Fld Z h x "java/lang/String" "value" "[B" (.ref r) ∧ Arv Z h r rk .byte N vs (.int 0)) := by
  refine own_met (by decide +kernel) #[.val (.ref x), .val (.ref b), .val (.int 0), .val (.int 0), .val (.int N), .unset, .unset] (fun m => by first | (simp [entryFrame, mkF, argsToLocals, Value.category]; done) | rfl) ?_
  intro p e s m below meth c T0 C S0
  refine own_seg C S0 [(0, .aload_n 0, 1)] (by decide +kernel) 1 #[.val (.ref x), .val (.ref b), .val (.int 0), .val (.int 0), .val (.int N), .unset, .unset] [(.ref x)] rfl ?_
  refine own_initO C S0 (own_wd hw 15 rfl) (own_wd hw 16 rfl) (own_wd hw 17 rfl) rfl (by decide +kernel) (by decide) 0 (Nat.le_of_ble_eq_true rfl) (by decide) ?_
  intro T989 S990
  refine own_seg C S990 [(4, .iload_n 3, 1), (5, .iload 4, 2), (7, .aload_n 1, 1)] (by decide +kernel) 8 #[.val (.ref x), .val (.ref b), .val (.int 0), .val (.int 0), .val (.int N), .unset, .unset] [(.ref b), (.int N), (.int 0)] rfl ?_
  refine own_alen C S990 bK (by decide +kernel) ?_
  refine own_callS C S990 (own_wd hw 256 rfl) (own_wd hw 257 rfl) (own_wd hw 6 rfl) (own_wd hw 258 rfl) (by decide) (own_Met.pay (own_cbo l Z a0 hw G1 G3 N h0 n0 z0 X00 O2 O4 P5 rG3 g0 g1 g2) C 0 (own_wd hw 258 rfl) (own_wd hw 6 rfl) (by decide) (by decide)) (fun _ _ _ q => q.2) [(.int 0), (.int N), (.int N)] [] rfl own_pd31 rfl rfl rfl (Nat.le_of_ble_eq_true rfl) (by decide) (by decide) (by decide +kernel) ?_
  rintro T992 h993 v994 L995 S996 ⟨⟨rfl, e991⟩, -⟩
  rw [e991] at S996; clear e991
  show own_Go p e below _ T992 (mkF m 12 #[.val (.ref x), .val (.ref b), .val (.int 0), .val (.int 0), .val (.int N), .unset, .unset] [(.int 0)])
  refine own_seg C S996 [(12, .pop, 1), (13, .iload 4, 2)] (by decide +kernel) 15 #[.val (.ref x), .val (.ref b), .val (.int 0), .val (.int 0), .val (.int N), .unset, .unset] [(.int N)] rfl ?_
  refine own_if C S996 (q := .ne) (o := 22) (by decide +kernel) 37 (by decide) (by decide) (fun (q997 : ¬ N = (0 : Int32)) => ?_) (fun (hq : N = (0 : Int32)) => False.elim (g1 hq))
  refine own_getS C S996 (own_wd hw 18 rfl) Via.refl (O2.ext X00.2) (by decide +kernel) ?_
  intro T998 S999
  refine own_if C S999 (q := .eq) (o := 29) (by decide +kernel) 69 (by decide) (by decide) (fun (hq : G1 = (0 : Int32)) => False.elim (P5 hq)) (fun (q1000 : ¬ G1 = (0 : Int32)) => ?_)
  refine own_seg C S999 [(43, .iload_n 2, 1), (44, .i2b, 1)] (by decide +kernel) 45 #[.val (.ref x), .val (.ref b), .val (.int 0), .val (.int 0), .val (.int N), .unset, .unset] [(.int ((0 : Int32).toInt8.toInt32))] rfl ?_
  refine own_if C S999 (q := .ne) (o := 24) (by decide +kernel) 69 (by decide) (by decide) (fun (hq : ¬ ((0 : Int32).toInt8.toInt32) = (0 : Int32)) => False.elim (by revert hq; decide)) (fun (q1001 : ((0 : Int32).toInt8.toInt32) = (0 : Int32)) => ?_)
  refine own_seg C S999 [(48, .aload_n 0, 1), (49, .aload_n 1, 1), (50, .iload_n 3, 1), (51, .iload_n 3, 1), (52, .iload 4, 2), (54, .iadd, 1)] (by decide +kernel) 55 #[.val (.ref x), .val (.ref b), .val (.int 0), .val (.int 0), .val (.int N), .unset, .unset] [(.int ((0 : Int32) + N)), (.int 0), (.ref b), (.ref x)] rfl ?_
  rw [show ((0 : Int32) + N) = N from Int32.zero_add N]
  refine own_callS C S999 (own_wd hw 173 rfl) (own_wd hw 174 rfl) (own_wd hw 175 rfl) (own_wd hw 176 rfl) (by decide) (own_Met.pay (own_cr l Z a0 hw b _ N _ h0 n0 z0 bK bE g0 g1 g2) C 1 (own_wd hw 176 rfl) (own_wd hw 175 rfl) (by decide) (by decide)) (fun _ _ _ q => q.2) [(.ref b), (.int 0), (.int N)] [(.ref x)] rfl own_pd12 rfl rfl rfl (Nat.le_of_ble_eq_true rfl) (by decide) (by decide) (by decide +kernel) ?_
  rintro T1007 h1008 v1009 L1010 S1011 ⟨⟨a1002, k1003, rfl, g1004, K1005, f1006⟩, -⟩
  show own_Go p e below _ T1007 (mkF m 58 #[.val (.ref x), .val (.ref b), .val (.int 0), .val (.int 0), .val (.int N), .unset, .unset] [(.ref a1002), (.ref x)])
  have f1012 := (xV.keep K1005 nin0)
  have f1013 := (xE.keep K1005)
  refine own_putF C S1011 (ty := (.array .byte)) (host := "") (Or.inl (own_wd hw 32 rfl)) Via.refl f1012 f1013 (Or.inr ⟨(own_wd hw 33 rfl), rfl, rfl⟩) (own_wd hw 5 rfl) own_fd0 rfl rfl ge_x (by decide +kernel) ?_
  intro T1014 h1016 S1015 W1017
  have f1018 : Fld Z h1016 x "java/lang/String" "value" "[B" (.ref a1002) := Fld.same W1017 f1012
  refine own_seg C S1015 [(61, .aload_n 0, 1), (62, .iconst 0, 1)] (by decide +kernel) 63 #[.val (.ref x), .val (.ref b), .val (.int 0), .val (.int 0), .val (.int N), .unset, .unset] [(.int 0), (.ref x)] rfl ?_
  have f1019 := (Fld.other W1017 (xC.keep K1005 nin0) (Or.inr (own_sn7 hw)))
  have f1020 := (Exa.wr W1017 f1013)
  refine own_putF C S1015 (ty := .byte) (host := "") (Or.inl (own_wd hw 30 rfl)) Via.refl f1019 f1020 (Or.inr ⟨(own_wd hw 31 rfl), rfl, rfl⟩) (own_wd hw 5 rfl) own_fd1 rfl rfl ge_x (by decide +kernel) ?_
  intro T1021 h1023 S1022 W1024
  have f1025 : Fld Z h1023 x "java/lang/String" "coder" "B" (.int 0) := Fld.same W1024 f1019
  refine own_seg C S1022 [(66, .goto 61, 3)] (by decide +kernel) 127 #[.val (.ref x), .val (.ref b), .val (.int 0), .val (.int 0), .val (.int N), .unset, .unset] [] rfl ?_
  refine own_retV C S1022 (by decide +kernel) (by decide) (by decide) ?_
  have o1026 : h0.size ≤ a1002 := Nat.le_trans (Nat.le_refl _) g1004
  have f1027 := (Exa.wr W1024 f1020)
  have f1028 := (Fld.other W1024 f1018 (Or.inr (own_sn6 hw)))
  have n1029 : x ≠ a1002 := Nat.ne_of_lt (Nat.lt_of_lt_of_le xE.lt g1004)
  have f1030 := ((f1006.other W1017 (Ne.symm n1029)).other W1024 (Ne.symm n1029))
  exact ⟨a1002, k1003, rfl, o1026, ((((Keep.refl _ _).trans K1005 all0).wr W1017 (Or.inl (List.mem_of_getElem? (i := 0) rfl))).wr W1024 (Or.inl (List.mem_of_getElem? (i := 0) rfl))), f1027, f1025, f1028, f1030⟩
theorem own_eb (l : Launch) (Z : State) (a0 : Array Value) (hw : ∀ d ∈ tables_1, d.before a0 Z = true) (G1 : Int32) (G3 : Value) (U8 : Addr) (TB : Addr) (TBk : ClassId) (a : Addr) (sa : Addr) (sk : ClassId) (qs : List Int32) (rs : List Int32) (kk : Nat) (da : Addr) (dk : ClassId) (MM : Nat) (h0 : Heap) (n0 : Nat) (z0 : n0 ≤ h0.size) (ge_da : n0 ≤ da) (X00 : Old Z n0 h0) (TK : Arv Z h0 TB TBk .char (64 : Int32) own_T64v (.int 0)) (sK : Arv Z h0 sa sk .byte (Int32.ofNat (qs ++ rs).length) (own_sv (qs ++ rs)) (.int 0)) (dK : Arv Z h0 da dk .byte (Int32.ofNat MM) (own_pd MM (([] : List Int32).map StrChars.lo8)) (.int 0)) (ne_sa_da : sa ≠ da) (O2 : Sta Z Z.heap "java/lang/String" "COMPACT_STRINGS" "Z" (.int G1)) (O4 : Sta Z Z.heap "jdk/internal/util/Preconditions" "SIOOBE_FORMATTER" "Ljava/util/function/BiFunction;" G3) (P5 : ¬ G1 = (0 : Int32)) (rG3 : G3.isRef = true) (OU1 : Sta Z Z.heap "java/nio/charset/StandardCharsets" "UTF_8" "Ljava/nio/charset/Charset;" (.ref U8)) (OU2 : Sta Z Z.heap "sun/nio/cs/UTF_8" "INSTANCE" "Lsun/nio/cs/UTF_8;" (.ref U8)) (OT : Sta Z Z.heap "java/util/Base64$Encoder" "toBase64" "[C" (.ref TB)) (TBlt : TB < n0) (hq3 : qs.length = 3 * kk) (hr3 : rs.length < 3) (h9 : (qs ++ rs).length ≤ 9) (hR : ∀ x ∈ (qs ++ rs), own_R x) (hM : 4 * kk ≤ MM) (hM2 : MM ≤ 12) :
    own_Met l Z (⟨"java/util/Base64$Encoder", "encodeBlock", "([BII[BIZ)V"⟩ : MethodName) jdk_2452_method_9_code 11 none ({ frames := 0, cells := 0, slots := 0, locals := 0 } : Room) n0 #[(.ref a), (.ref sa), (.int 0), (.int (Int32.ofNat (3 * kk))), (.ref da), (.int 0), (.int 0)] h0 (fun v h => v = none ∧ Keep h0 h [da] ∧ Arv Z h da dk .byte (Int32.ofNat MM) (own_pd MM ((own_b64 qs).map StrChars.lo8)) (.int 0)) := by
  refine own_met (by decide +kernel) #[.val (.ref a), .val (.ref sa), .val (.int 0), .val (.int (Int32.ofNat (3 * kk))), .val (.ref da), .val (.int 0), .val (.int 0), .unset, .unset, .unset, .unset] (fun m => by first | (simp [entryFrame, mkF, argsToLocals, Value.category]; done) | rfl) ?_
  intro p e s m below meth c T0 C S0
  refine own_seg C S0 [(0, .iload 6, 2)] (by decide +kernel) 2 #[.val (.ref a), .val (.ref sa), .val (.int 0), .val (.int (Int32.ofNat (3 * kk))), .val (.ref da), .val (.int 0), .val (.int 0), .unset, .unset, .unset, .unset] [(.int 0)] rfl ?_
  refine own_if C S0 (q := .eq) (o := 9) (by decide +kernel) 11 (by decide) (by decide) (fun (q1031 : (0 : Int32) = (0 : Int32)) => ?_) (fun (hq : ¬ (0 : Int32) = (0 : Int32)) => False.elim (by revert hq; decide))
  refine own_getS C S0 (own_wd hw 245 rfl) Via.refl (OT.ext X00.2) (by decide +kernel) ?_
  intro T1032 S1033
  refine own_seg C S1033 [(14, .astore 7, 2), (16, .iload_n 2, 1), (17, .istore 8, 2), (19, .iload 5, 2), (21, .istore 9, 2)] (by decide +kernel) 23 #[.val (.ref a), .val (.ref sa), .val (.int 0), .val (.int (Int32.ofNat (3 * kk))), .val (.ref da), .val (.int 0), .val (.int 0), .val (.ref TB), .val (.int 0), .val (.int 0), .unset] [] rfl ?_
  have loop : ∀ (r : Nat) (T1035 : State) (h1034 : Heap) (pre : List Int32) (R : List Int32) (z8 : Slot), own_S p l e ({ frames := 0, cells := 0, slots := 0, locals := 0 } : Room) s m #[(.ref a), (.ref sa), (.int 0), (.int (Int32.ofNat (3 * kk))), (.ref da), (.int 0), (.int 0)] below meth c n0 T1035 h1034 0 0 → Keep h0 h1034 [da] → Arv Z h1034 da dk .byte (Int32.ofNat MM) (own_pd MM ((own_b64 pre).map StrChars.lo8)) (.int 0) → (qs = pre ++ R) → (R.length = 3 * r) → (z8 = .unset ∨ ∃ y, z8 = .val (.int y)) → own_Go p e below (own_En s n0 (fun v h => v = none ∧ Keep h0 h [da] ∧ Arv Z h da dk .byte (Int32.ofNat MM) (own_pd MM ((own_b64 qs).map StrChars.lo8)) (.int 0)) ({ frames := 0, cells := 0, slots := 0, locals := 0 } : Room).cells ({ frames := 0, cells := 0, slots := 0, locals := 0 } : Room).slots) T1035 (mkF m 23 #[.val (.ref a), .val (.ref sa), .val (.int 0), .val (.int (Int32.ofNat (3 * kk))), .val (.ref da), .val (.int 0), .val (.int 0), .val (.ref TB), .val (.int (Int32.ofNat pre.length)), .val (.int (Int32.ofNat (own_b64 pre).length)), z8] []) := by
    intro r
    induction r with
    | zero =>
      intro T1035 h1034 pre R z8 S1036 K1037 dK1 hc hpl hz
      have hR0 : R = [] := List.length_eq_zero_iff.mp (by omega)
      have hpc : qs = pre := by rw [hc, hR0]; simp
      subst hpc
      refine own_seg C S1036 [(23, .iload 8, 2), (25, .iload_n 3, 1)] (by decide +kernel) 26 #[.val (.ref a), .val (.ref sa), .val (.int 0), .val (.int (Int32.ofNat (3 * kk))), .val (.ref da), .val (.int 0), .val (.int 0), .val (.ref TB), .val (.int (Int32.ofNat qs.length)), .val (.int (Int32.ofNat (own_b64 qs).length)), z8] [(.int (Int32.ofNat (3 * kk))), (.int (Int32.ofNat qs.length))] rfl ?_
      refine own_icmp C S1036 (q := .ge) (o := 126) (by decide +kernel) 152 (by decide) (by decide) (fun (q1038 : ¬ (Int32.ofNat qs.length) < (Int32.ofNat (3 * kk))) => ?_) (fun (hq : (Int32.ofNat qs.length) < (Int32.ofNat (3 * kk))) => False.elim (absurd hq (by rw [hq3]; exact own_irr _)))
      refine own_retV C S1036 (by decide +kernel) (by decide) (by decide) ?_
      exact ⟨rfl, ((Keep.refl _ _).trans K1037 (allS (Or.inl (List.mem_of_getElem? (i := 0) rfl)) all0)), dK1⟩
    | succ r ih =>
      intro T1035 h1034 pre R z8 S1036 K1037 dK1 hc hpl hz
      obtain ⟨ga, gb, gc, R1, rfl, hR1⟩ := own_list3 hpl
      have hqs : (pre ++ ga :: gb :: gc :: R1).length = 3 * kk := by rw [← hc]; exact hq3
      simp only [List.length_append, List.length_cons] at hqs
      have hbl : (own_b64 pre).length = 4 * (pre.length / 3) := (own_b64_len (L := pre) (R := []) (r := pre.length / 3) (by omega) (by simp)).2
      have c1 : (qs ++ rs) = pre ++ ga :: (gb :: gc :: R1 ++ rs) := by rw [hc]; simp
      have c2 : (qs ++ rs) = (pre ++ [ga]) ++ gb :: (gc :: R1 ++ rs) := by rw [hc]; simp
      have c3 : (qs ++ rs) = ((pre ++ [ga]) ++ [gb]) ++ gc :: (R1 ++ rs) := by rw [hc]; simp
      have hga : own_R ga := hR ga (by rw [c1]; simp)
      have hgb : own_R gb := hR gb (by rw [c2]; simp)
      have hgc : own_R gc := hR gc (by rw [c3]; simp)
      have hn9 : pre.length + 3 ≤ (qs ++ rs).length := by rw [c1]; simp
      have l1 : (pre ++ [ga]).length = pre.length + 1 := by simp
      have l2 : ((pre ++ [ga]) ++ [gb]).length = pre.length + 2 := by simp
      have hlt : Int32.ofNat pre.length < Int32.ofNat (3 * kk) := own_ofs (by omega) (by omega)
      refine own_seg C S1036 [(23, .iload 8, 2), (25, .iload_n 3, 1)] (by decide +kernel) 26 #[.val (.ref a), .val (.ref sa), .val (.int 0), .val (.int (Int32.ofNat (3 * kk))), .val (.ref da), .val (.int 0), .val (.int 0), .val (.ref TB), .val (.int (Int32.ofNat pre.length)), .val (.int (Int32.ofNat (own_b64 pre).length)), z8] [(.int (Int32.ofNat (3 * kk))), (.int (Int32.ofNat pre.length))] rfl ?_
      refine own_icmp C S1036 (q := .ge) (o := 126) (by decide +kernel) 152 (by decide) (by decide) (fun (hq : ¬ (Int32.ofNat pre.length) < (Int32.ofNat (3 * kk))) => False.elim (hq hlt)) (fun (q1039 : (Int32.ofNat pre.length) < (Int32.ofNat (3 * kk))) => ?_)
      refine own_seg C S1036 [(29, .aload_n 1, 1), (30, .iload 8, 2), (32, .iinc 8 1, 3)] (by decide +kernel) 35 #[.val (.ref a), .val (.ref sa), .val (.int 0), .val (.int (Int32.ofNat (3 * kk))), .val (.ref da), .val (.int 0), .val (.int 0), .val (.ref TB), .val (.int ((Int32.ofNat pre.length) + (1 : Int32))), .val (.int (Int32.ofNat (own_b64 pre).length)), z8] [(.int (Int32.ofNat pre.length)), (.ref sa)] rfl ?_
      rw [show ((Int32.ofNat pre.length) + (1 : Int32)) = (Int32.ofNat (pre ++ [ga]).length) from own_snoc _ _]
      have f1040 := (sK.keep K1037 (ninS ne_sa_da nin0))
      refine own_baload C S1036 f1040 ⟨(own_ofNat_nn (by omega)).1, own_ofs (by omega) (by omega)⟩ (.int ga.toInt8.toInt32) (own_svget c1 (by omega)) (by decide +kernel) ?_
      refine own_seg C S1036 [(36, .sipush 255, 3), (39, .iand, 1), (40, .bipush 16, 2), (42, .ishl, 1), (43, .aload_n 1, 1), (44, .iload 8, 2), (46, .iinc 8 1, 3)] (by decide +kernel) 49 #[.val (.ref a), .val (.ref sa), .val (.int 0), .val (.int (Int32.ofNat (3 * kk))), .val (.ref da), .val (.int 0), .val (.int 0), .val (.ref TB), .val (.int ((Int32.ofNat (pre ++ [ga]).length) + (1 : Int32))), .val (.int (Int32.ofNat (own_b64 pre).length)), z8] [(.int (Int32.ofNat (pre ++ [ga]).length)), (.ref sa), (.int ((ga.toInt8.toInt32 &&& (255 : Int32)) <<< ((16 : Int32) &&& 31)))] rfl ?_
      rw [show ((Int32.ofNat (pre ++ [ga]).length) + (1 : Int32)) = (Int32.ofNat ((pre ++ [ga]) ++ [gb]).length) from own_snoc _ _]
      refine own_baload C S1036 f1040 ⟨(own_ofNat_nn (by omega)).1, own_ofs (by omega) (by omega)⟩ (.int gb.toInt8.toInt32) (own_svget c2 (by omega)) (by decide +kernel) ?_
      refine own_seg C S1036 [(50, .sipush 255, 3), (53, .iand, 1), (54, .bipush 8, 2), (56, .ishl, 1), (57, .ior, 1), (58, .aload_n 1, 1), (59, .iload 8, 2), (61, .iinc 8 1, 3)] (by decide +kernel) 64 #[.val (.ref a), .val (.ref sa), .val (.int 0), .val (.int (Int32.ofNat (3 * kk))), .val (.ref da), .val (.int 0), .val (.int 0), .val (.ref TB), .val (.int ((Int32.ofNat ((pre ++ [ga]) ++ [gb]).length) + (1 : Int32))), .val (.int (Int32.ofNat (own_b64 pre).length)), z8] [(.int (Int32.ofNat ((pre ++ [ga]) ++ [gb]).length)), (.ref sa), (.int (((ga.toInt8.toInt32 &&& (255 : Int32)) <<< ((16 : Int32) &&& 31)) ||| ((gb.toInt8.toInt32 &&& (255 : Int32)) <<< ((8 : Int32) &&& 31))))] rfl ?_
      rw [show ((Int32.ofNat ((pre ++ [ga]) ++ [gb]).length) + (1 : Int32)) = (Int32.ofNat (((pre ++ [ga]) ++ [gb]) ++ [gc]).length) from own_snoc _ _]
      refine own_baload C S1036 f1040 ⟨(own_ofNat_nn (by omega)).1, own_ofs (by omega) (by omega)⟩ (.int gc.toInt8.toInt32) (own_svget c3 (by omega)) (by decide +kernel) ?_
      refine own_seg C S1036 [(65, .sipush 255, 3), (68, .iand, 1), (69, .ior, 1)] (by decide +kernel) 70 #[.val (.ref a), .val (.ref sa), .val (.int 0), .val (.int (Int32.ofNat (3 * kk))), .val (.ref da), .val (.int 0), .val (.int 0), .val (.ref TB), .val (.int (Int32.ofNat (((pre ++ [ga]) ++ [gb]) ++ [gc]).length)), .val (.int (Int32.ofNat (own_b64 pre).length)), z8] [(.int ((((ga.toInt8.toInt32 &&& (255 : Int32)) <<< ((16 : Int32) &&& 31)) ||| ((gb.toInt8.toInt32 &&& (255 : Int32)) <<< ((8 : Int32) &&& 31))) ||| (gc.toInt8.toInt32 &&& (255 : Int32))))] rfl ?_
      rw [show ((((ga.toInt8.toInt32 &&& (255 : Int32)) <<< ((16 : Int32) &&& 31)) ||| ((gb.toInt8.toInt32 &&& (255 : Int32)) <<< ((8 : Int32) &&& 31))) ||| (gc.toInt8.toInt32 &&& (255 : Int32))) = (own_X ga gb gc) from own_Xe hga hgb hgc]
      have J72 : ∀ (T1041 : State), own_S p l e ({ frames := 0, cells := 0, slots := 0, locals := 0 } : Room) s m #[(.ref a), (.ref sa), (.int 0), (.int (Int32.ofNat (3 * kk))), (.ref da), (.int 0), (.int 0)] below meth c n0 T1041 h1034 0 0 → own_Go p e below (own_En s n0 (fun v h => v = none ∧ Keep h0 h [da] ∧ Arv Z h da dk .byte (Int32.ofNat MM) (own_pd MM ((own_b64 qs).map StrChars.lo8)) (.int 0)) ({ frames := 0, cells := 0, slots := 0, locals := 0 } : Room).cells ({ frames := 0, cells := 0, slots := 0, locals := 0 } : Room).slots) T1041 (mkF m 72 #[.val (.ref a), .val (.ref sa), .val (.int 0), .val (.int (Int32.ofNat (3 * kk))), .val (.ref da), .val (.int 0), .val (.int 0), .val (.ref TB), .val (.int (Int32.ofNat (((pre ++ [ga]) ++ [gb]) ++ [gc]).length)), .val (.int (Int32.ofNat (own_b64 pre).length)), .val (.int (own_X ga gb gc))] []) := by
        intro T1041 S1042
        have m1 : (own_b64 pre ++ [(own_g0 ga)]).length = (own_b64 pre).length + 1 := by simp
        have m2 : (own_b64 pre ++ [(own_g0 ga), (own_g1 ga gb)]).length = (own_b64 pre).length + 2 := by simp
        have m3 : (own_b64 pre ++ [(own_g0 ga), (own_g1 ga gb), (own_g2 gb gc)]).length = (own_b64 pre).length + 3 := by simp
        have m4 : (own_b64 pre ++ [(own_g0 ga), (own_g1 ga gb), (own_g2 gb gc), (own_g3 gc)]).length = (own_b64 pre).length + 4 := by simp
        refine own_seg C S1042 [(72, .aload 4, 2), (74, .iload 9, 2), (76, .iinc 9 1, 3), (79, .aload 7, 2), (81, .iload 10, 2), (83, .bipush 18, 2), (85, .iushr, 1), (86, .bipush 63, 2), (88, .iand, 1)] (by decide +kernel) 89 #[.val (.ref a), .val (.ref sa), .val (.int 0), .val (.int (Int32.ofNat (3 * kk))), .val (.ref da), .val (.int 0), .val (.int 0), .val (.ref TB), .val (.int (Int32.ofNat (((pre ++ [ga]) ++ [gb]) ++ [gc]).length)), .val (.int ((Int32.ofNat (own_b64 pre).length) + (1 : Int32))), .val (.int (own_X ga gb gc))] [(.int ((Jvm.Free.XT.ushr (own_X ga gb gc) (18 : Int32)) &&& (63 : Int32))), (.ref TB), (.int (Int32.ofNat (own_b64 pre).length)), (.ref da)] rfl ?_
        rw [show ((Int32.ofNat (own_b64 pre).length) + (1 : Int32)) = (Int32.ofNat (own_b64 pre ++ [(own_g0 ga)]).length) from (by rw [own_ofNat_succ, m1])]
        have f1043 := (TK.keep K1037 (ninS (Nat.ne_of_lt (Nat.lt_of_lt_of_le TBlt ge_da)) nin0))
        refine own_caload C S1042 f1043 (own_K0 hga hgb hgc).1 (.int (own_g0 ga)) (own_K0 hga hgb hgc).2 (by decide +kernel) ?_
        refine own_seg C S1042 [(90, .i2b, 1)] (by decide +kernel) 91 #[.val (.ref a), .val (.ref sa), .val (.int 0), .val (.int (Int32.ofNat (3 * kk))), .val (.ref da), .val (.int 0), .val (.int 0), .val (.ref TB), .val (.int (Int32.ofNat (((pre ++ [ga]) ++ [gb]) ++ [gc]).length)), .val (.int (Int32.ofNat (own_b64 pre ++ [(own_g0 ga)]).length)), .val (.int (own_X ga gb gc))] [(.int ((own_g0 ga).toInt8.toInt32)), (.int (Int32.ofNat (own_b64 pre).length)), (.ref da)] rfl ?_
        refine own_bastore C S1042 dK1 ⟨(own_ofNat_nn (by omega)).1, own_ofs (by omega) (by omega)⟩ (own_b64 pre).length (own_ofNat_nn (by omega)).2 (own_pdl (by omega)) ((own_g0 ga).toInt8.toInt32) (own_i2b2 _) ge_da (by decide +kernel) ?_
        intro T1044 h1046 S1045 W1047 f1048
        have f1049 : Arv Z h1046 da dk .byte (Int32.ofNat MM) (own_pd MM ((own_b64 pre ++ [(own_g0 ga)]).map StrChars.lo8)) (.int 0) := by rw [← (own_pds (n := MM) (A := (own_b64 pre)) (B := (own_b64 pre ++ [(own_g0 ga)])) (v := (own_g0 ga)) (by omega) (by simp))]; exact f1048
        refine own_seg C S1045 [(92, .aload 4, 2), (94, .iload 9, 2), (96, .iinc 9 1, 3), (99, .aload 7, 2), (101, .iload 10, 2), (103, .bipush 12, 2), (105, .iushr, 1), (106, .bipush 63, 2), (108, .iand, 1)] (by decide +kernel) 109 #[.val (.ref a), .val (.ref sa), .val (.int 0), .val (.int (Int32.ofNat (3 * kk))), .val (.ref da), .val (.int 0), .val (.int 0), .val (.ref TB), .val (.int (Int32.ofNat (((pre ++ [ga]) ++ [gb]) ++ [gc]).length)), .val (.int ((Int32.ofNat (own_b64 pre ++ [(own_g0 ga)]).length) + (1 : Int32))), .val (.int (own_X ga gb gc))] [(.int ((Jvm.Free.XT.ushr (own_X ga gb gc) (12 : Int32)) &&& (63 : Int32))), (.ref TB), (.int (Int32.ofNat (own_b64 pre ++ [(own_g0 ga)]).length)), (.ref da)] rfl ?_
        rw [show ((Int32.ofNat (own_b64 pre ++ [(own_g0 ga)]).length) + (1 : Int32)) = (Int32.ofNat (own_b64 pre ++ [(own_g0 ga), (own_g1 ga gb)]).length) from (by rw [own_ofNat_succ, m2, m1])]
        have f1050 := (f1043.other W1047 (Nat.ne_of_lt (Nat.lt_of_lt_of_le TBlt ge_da)))
        refine own_caload C S1045 f1050 (own_K1 hga hgb hgc).1 (.int (own_g1 ga gb)) (own_K1 hga hgb hgc).2 (by decide +kernel) ?_
        refine own_seg C S1045 [(110, .i2b, 1)] (by decide +kernel) 111 #[.val (.ref a), .val (.ref sa), .val (.int 0), .val (.int (Int32.ofNat (3 * kk))), .val (.ref da), .val (.int 0), .val (.int 0), .val (.ref TB), .val (.int (Int32.ofNat (((pre ++ [ga]) ++ [gb]) ++ [gc]).length)), .val (.int (Int32.ofNat (own_b64 pre ++ [(own_g0 ga), (own_g1 ga gb)]).length)), .val (.int (own_X ga gb gc))] [(.int ((own_g1 ga gb).toInt8.toInt32)), (.int (Int32.ofNat (own_b64 pre ++ [(own_g0 ga)]).length)), (.ref da)] rfl ?_
        refine own_bastore C S1045 f1049 ⟨(own_ofNat_nn (by omega)).1, own_ofs (by omega) (by omega)⟩ (own_b64 pre ++ [(own_g0 ga)]).length (own_ofNat_nn (by omega)).2 (own_pdl (by omega)) ((own_g1 ga gb).toInt8.toInt32) (own_i2b2 _) ge_da (by decide +kernel) ?_
        intro T1051 h1053 S1052 W1054 f1055
        have f1056 : Arv Z h1053 da dk .byte (Int32.ofNat MM) (own_pd MM ((own_b64 pre ++ [(own_g0 ga), (own_g1 ga gb)]).map StrChars.lo8)) (.int 0) := by rw [← (own_pds (n := MM) (A := (own_b64 pre ++ [(own_g0 ga)])) (B := (own_b64 pre ++ [(own_g0 ga), (own_g1 ga gb)])) (v := (own_g1 ga gb)) (by omega) (by simp))]; exact f1055
        refine own_seg C S1052 [(112, .aload 4, 2), (114, .iload 9, 2), (116, .iinc 9 1, 3), (119, .aload 7, 2), (121, .iload 10, 2), (123, .bipush 6, 2), (125, .iushr, 1), (126, .bipush 63, 2), (128, .iand, 1)] (by decide +kernel) 129 #[.val (.ref a), .val (.ref sa), .val (.int 0), .val (.int (Int32.ofNat (3 * kk))), .val (.ref da), .val (.int 0), .val (.int 0), .val (.ref TB), .val (.int (Int32.ofNat (((pre ++ [ga]) ++ [gb]) ++ [gc]).length)), .val (.int ((Int32.ofNat (own_b64 pre ++ [(own_g0 ga), (own_g1 ga gb)]).length) + (1 : Int32))), .val (.int (own_X ga gb gc))] [(.int ((Jvm.Free.XT.ushr (own_X ga gb gc) (6 : Int32)) &&& (63 : Int32))), (.ref TB), (.int (Int32.ofNat (own_b64 pre ++ [(own_g0 ga), (own_g1 ga gb)]).length)), (.ref da)] rfl ?_
        rw [show ((Int32.ofNat (own_b64 pre ++ [(own_g0 ga), (own_g1 ga gb)]).length) + (1 : Int32)) = (Int32.ofNat (own_b64 pre ++ [(own_g0 ga), (own_g1 ga gb), (own_g2 gb gc)]).length) from (by rw [own_ofNat_succ, m3, m2])]
        have f1057 := (f1050.other W1054 (Nat.ne_of_lt (Nat.lt_of_lt_of_le TBlt ge_da)))
        refine own_caload C S1052 f1057 (own_K2 hga hgb hgc).1 (.int (own_g2 gb gc)) (own_K2 hga hgb hgc).2 (by decide +kernel) ?_
        refine own_seg C S1052 [(130, .i2b, 1)] (by decide +kernel) 131 #[.val (.ref a), .val (.ref sa), .val (.int 0), .val (.int (Int32.ofNat (3 * kk))), .val (.ref da), .val (.int 0), .val (.int 0), .val (.ref TB), .val (.int (Int32.ofNat (((pre ++ [ga]) ++ [gb]) ++ [gc]).length)), .val (.int (Int32.ofNat (own_b64 pre ++ [(own_g0 ga), (own_g1 ga gb), (own_g2 gb gc)]).length)), .val (.int (own_X ga gb gc))] [(.int ((own_g2 gb gc).toInt8.toInt32)), (.int (Int32.ofNat (own_b64 pre ++ [(own_g0 ga), (own_g1 ga gb)]).length)), (.ref da)] rfl ?_
        refine own_bastore C S1052 f1056 ⟨(own_ofNat_nn (by omega)).1, own_ofs (by omega) (by omega)⟩ (own_b64 pre ++ [(own_g0 ga), (own_g1 ga gb)]).length (own_ofNat_nn (by omega)).2 (own_pdl (by omega)) ((own_g2 gb gc).toInt8.toInt32) (own_i2b2 _) ge_da (by decide +kernel) ?_
        intro T1058 h1060 S1059 W1061 f1062
        have f1063 : Arv Z h1060 da dk .byte (Int32.ofNat MM) (own_pd MM ((own_b64 pre ++ [(own_g0 ga), (own_g1 ga gb), (own_g2 gb gc)]).map StrChars.lo8)) (.int 0) := by rw [← (own_pds (n := MM) (A := (own_b64 pre ++ [(own_g0 ga), (own_g1 ga gb)])) (B := (own_b64 pre ++ [(own_g0 ga), (own_g1 ga gb), (own_g2 gb gc)])) (v := (own_g2 gb gc)) (by omega) (by simp))]; exact f1062
        refine own_seg C S1059 [(132, .aload 4, 2), (134, .iload 9, 2), (136, .iinc 9 1, 3), (139, .aload 7, 2), (141, .iload 10, 2), (143, .bipush 63, 2), (145, .iand, 1)] (by decide +kernel) 146 #[.val (.ref a), .val (.ref sa), .val (.int 0), .val (.int (Int32.ofNat (3 * kk))), .val (.ref da), .val (.int 0), .val (.int 0), .val (.ref TB), .val (.int (Int32.ofNat (((pre ++ [ga]) ++ [gb]) ++ [gc]).length)), .val (.int ((Int32.ofNat (own_b64 pre ++ [(own_g0 ga), (own_g1 ga gb), (own_g2 gb gc)]).length) + (1 : Int32))), .val (.int (own_X ga gb gc))] [(.int ((own_X ga gb gc) &&& (63 : Int32))), (.ref TB), (.int (Int32.ofNat (own_b64 pre ++ [(own_g0 ga), (own_g1 ga gb), (own_g2 gb gc)]).length)), (.ref da)] rfl ?_
        rw [show ((Int32.ofNat (own_b64 pre ++ [(own_g0 ga), (own_g1 ga gb), (own_g2 gb gc)]).length) + (1 : Int32)) = (Int32.ofNat (own_b64 pre ++ [(own_g0 ga), (own_g1 ga gb), (own_g2 gb gc), (own_g3 gc)]).length) from (by rw [own_ofNat_succ, m4, m3])]
        have f1064 := (f1057.other W1061 (Nat.ne_of_lt (Nat.lt_of_lt_of_le TBlt ge_da)))
        refine own_caload C S1059 f1064 (own_K3 hga hgb hgc).1 (.int (own_g3 gc)) (own_K3 hga hgb hgc).2 (by decide +kernel) ?_
        refine own_seg C S1059 [(147, .i2b, 1)] (by decide +kernel) 148 #[.val (.ref a), .val (.ref sa), .val (.int 0), .val (.int (Int32.ofNat (3 * kk))), .val (.ref da), .val (.int 0), .val (.int 0), .val (.ref TB), .val (.int (Int32.ofNat (((pre ++ [ga]) ++ [gb]) ++ [gc]).length)), .val (.int (Int32.ofNat (own_b64 pre ++ [(own_g0 ga), (own_g1 ga gb), (own_g2 gb gc), (own_g3 gc)]).length)), .val (.int (own_X ga gb gc))] [(.int ((own_g3 gc).toInt8.toInt32)), (.int (Int32.ofNat (own_b64 pre ++ [(own_g0 ga), (own_g1 ga gb), (own_g2 gb gc)]).length)), (.ref da)] rfl ?_
        refine own_bastore C S1059 f1063 ⟨(own_ofNat_nn (by omega)).1, own_ofs (by omega) (by omega)⟩ (own_b64 pre ++ [(own_g0 ga), (own_g1 ga gb), (own_g2 gb gc)]).length (own_ofNat_nn (by omega)).2 (own_pdl (by omega)) ((own_g3 gc).toInt8.toInt32) (own_i2b2 _) ge_da (by decide +kernel) ?_
        intro T1065 h1067 S1066 W1068 f1069
        have f1070 : Arv Z h1067 da dk .byte (Int32.ofNat MM) (own_pd MM ((own_b64 pre ++ [(own_g0 ga), (own_g1 ga gb), (own_g2 gb gc), (own_g3 gc)]).map StrChars.lo8)) (.int 0) := by rw [← (own_pds (n := MM) (A := (own_b64 pre ++ [(own_g0 ga), (own_g1 ga gb), (own_g2 gb gc)])) (B := (own_b64 pre ++ [(own_g0 ga), (own_g1 ga gb), (own_g2 gb gc), (own_g3 gc)])) (v := (own_g3 gc)) (by omega) (by simp))]; exact f1069
        refine own_seg C S1066 [(149, .goto (-126), 3)] (by decide +kernel) 23 #[.val (.ref a), .val (.ref sa), .val (.int 0), .val (.int (Int32.ofNat (3 * kk))), .val (.ref da), .val (.int 0), .val (.int 0), .val (.ref TB), .val (.int (Int32.ofNat (((pre ++ [ga]) ++ [gb]) ++ [gc]).length)), .val (.int (Int32.ofNat (own_b64 pre ++ [(own_g0 ga), (own_g1 ga gb), (own_g2 gb gc), (own_g3 gc)]).length)), .val (.int (own_X ga gb gc))] [] rfl ?_
        have e8 : own_b64 (((pre ++ [ga]) ++ [gb]) ++ [gc]) = (own_b64 pre ++ [(own_g0 ga), (own_g1 ga gb), (own_g2 gb gc), (own_g3 gc)]) := by
          have q := own_b64_app (r := pre.length / 3) (L := pre) (R := [ga, gb, gc]) (by omega)
          rw [show ((pre ++ [ga]) ++ [gb]) ++ [gc] = pre ++ [ga, gb, gc] from by simp, q]; rfl
        rw [show (Int32.ofNat (own_b64 pre ++ [(own_g0 ga), (own_g1 ga gb), (own_g2 gb gc), (own_g3 gc)]).length) = (Int32.ofNat (own_b64 (((pre ++ [ga]) ++ [gb]) ++ [gc])).length) from (by rw [e8])]
        rw [← e8] at f1070
        exact ih T1065 h1067 (((pre ++ [ga]) ++ [gb]) ++ [gc]) R1 _ S1066 ((((((Keep.refl _ _).trans K1037 (allS (Or.inl (List.mem_of_getElem? (i := 0) rfl)) all0)).wr W1047 (Or.inl (List.mem_of_getElem? (i := 0) rfl))).wr W1054 (Or.inl (List.mem_of_getElem? (i := 0) rfl))).wr W1061 (Or.inl (List.mem_of_getElem? (i := 0) rfl))).wr W1068 (Or.inl (List.mem_of_getElem? (i := 0) rfl))) f1070 (by rw [hc]; simp) hR1 (Or.inr ⟨_, rfl⟩)
      rcases hz with rfl | ⟨y0, rfl⟩
      · refine own_seg C S1036 [(70, .istore 10, 2)] (by decide +kernel) 72 #[.val (.ref a), .val (.ref sa), .val (.int 0), .val (.int (Int32.ofNat (3 * kk))), .val (.ref da), .val (.int 0), .val (.int 0), .val (.ref TB), .val (.int (Int32.ofNat (((pre ++ [ga]) ++ [gb]) ++ [gc]).length)), .val (.int (Int32.ofNat (own_b64 pre).length)), .val (.int (own_X ga gb gc))] [] rfl ?_
        exact J72 T1035 S1036
      · refine own_seg C S1036 [(70, .istore 10, 2)] (by decide +kernel) 72 #[.val (.ref a), .val (.ref sa), .val (.int 0), .val (.int (Int32.ofNat (3 * kk))), .val (.ref da), .val (.int 0), .val (.int 0), .val (.ref TB), .val (.int (Int32.ofNat (((pre ++ [ga]) ++ [gb]) ++ [gc]).length)), .val (.int (Int32.ofNat (own_b64 pre).length)), .val (.int (own_X ga gb gc))] [] rfl ?_
        exact J72 T1035 S1036
  exact loop kk T1032 h0 ([]) qs .unset S1033 (Keep.refl _ _) dK rfl hq3 (Or.inl rfl)
theorem own_pd32 : parseMethodDescriptor "([BII[BIZ)V" = some ⟨[(.array .byte), .int, .int, (.array .byte), .int, .boolean], none⟩ := by decide +kernel
theorem own_ez (l : Launch) (Z : State) (a0 : Array Value) (hw : ∀ d ∈ tables_1, d.before a0 Z = true) (G1 : Int32) (G3 : Value) (U8 : Addr) (TB : Addr) (TBk : ClassId) (a : Addr) (sa : Addr) (sk : ClassId) (qs : List Int32) (rs : List Int32) (kk : Nat) (da : Addr) (dk : ClassId) (MM : Nat) (h0 : Heap) (n0 : Nat) (z0 : n0 ≤ h0.size) (ge_da : n0 ≤ da) (X00 : Old Z n0 h0) (TK : Arv Z h0 TB TBk .char (64 : Int32) own_T64v (.int 0)) (p0 : Exa Z h0 a "java/util/Base64$Encoder") (p1 : Fld Z h0 a "java/util/Base64$Encoder" "isURL" "Z" (.int 0)) (p2 : Fld Z h0 a "java/util/Base64$Encoder" "linemax" "I" (.int (-1 : Int32))) (p3 : Fld Z h0 a "java/util/Base64$Encoder" "doPadding" "Z" (.int 0)) (sK : Arv Z h0 sa sk .byte (Int32.ofNat (qs ++ rs).length) (own_sv (qs ++ rs)) (.int 0)) (dK : Arv Z h0 da dk .byte (Int32.ofNat MM) (own_pd MM (([] : List Int32).map StrChars.lo8)) (.int 0)) (ne_sa_da : sa ≠ da) (ne_a_da : a ≠ da) (O2 : Sta Z Z.heap "java/lang/String" "COMPACT_STRINGS" "Z" (.int G1)) (O4 : Sta Z Z.heap "jdk/internal/util/Preconditions" "SIOOBE_FORMATTER" "Ljava/util/function/BiFunction;" G3) (P5 : ¬ G1 = (0 : Int32)) (rG3 : G3.isRef = true) (OU1 : Sta Z Z.heap "java/nio/charset/StandardCharsets" "UTF_8" "Ljava/nio/charset/Charset;" (.ref U8)) (OU2 : Sta Z Z.heap "sun/nio/cs/UTF_8" "INSTANCE" "Lsun/nio/cs/UTF_8;" (.ref U8)) (OT : Sta Z Z.heap "java/util/Base64$Encoder" "toBase64" "[C" (.ref TB)) (TBlt : TB < n0) (hq3 : qs.length = 3 * kk) (hr3 : rs.length < 3) (h9 : (qs ++ rs).length ≤ 9) (hR : ∀ x ∈ (qs ++ rs), own_R x) (hME : MM = (own_b64 (qs ++ rs)).length) :
    own_Met l Z (⟨"java/util/Base64$Encoder", "encode0", "([BII[B)I"⟩ : MethodName) jdk_2452_method_10_code 16 (some .int) ({ frames := 1, cells := 0, slots := 0, locals := 22 } : Room) n0 #[(.ref a), (.ref sa), (.int 0), (.int (Int32.ofNat (qs ++ rs).length)), (.ref da)] h0 (fun v h => v = some (.int (Int32.ofNat MM)) ∧ Keep h0 h [da] ∧ Arv Z h da dk .byte (Int32.ofNat MM) (own_pd MM ((own_b64 (qs ++ rs)).map StrChars.lo8)) (.int 0)) := by
  refine own_met (by decide +kernel) #[.val (.ref a), .val (.ref sa), .val (.int 0), .val (.int (Int32.ofNat (qs ++ rs).length)), .val (.ref da), .unset, .unset, .unset, .unset, .unset, .unset, .unset, .unset, .unset, .unset, .unset] (fun m => by first | (simp [entryFrame, mkF, argsToLocals, Value.category]; done) | rfl) ?_
  intro p e s m below meth c T0 C S0
  have hq9 : qs.length + rs.length ≤ 9 := by rw [← List.length_append]; exact h9
  have hM12 : MM = own_M (qs ++ rs).length := by rw [hME]; exact (own_b64_len hq3 hr3).1
  have hM3 : MM ≤ 12 ∧ 4 * kk ≤ MM := by rw [hM12, List.length_append]; unfold own_M; split <;> omega
  have hM := hM3.2
  have hM2 := hM3.1
  have hbl4 := (own_b64_len (L := qs) (R := rs) hq3 hr3).2
  refine own_seg C S0 [(0, .aload_n 0, 1)] (by decide +kernel) 1 #[.val (.ref a), .val (.ref sa), .val (.int 0), .val (.int (Int32.ofNat (qs ++ rs).length)), .val (.ref da), .unset, .unset, .unset, .unset, .unset, .unset, .unset, .unset, .unset, .unset, .unset] [(.ref a)] rfl ?_
  refine own_getF C S0 (host := "") (Or.inl (own_wd hw 66 rfl)) Via.refl p1 (by decide +kernel) ?_
  intro T1071 S1072
  refine own_if C S1072 (q := .eq) (o := 9) (by decide +kernel) 13 (by decide) (by decide) (fun (q1073 : (0 : Int32) = (0 : Int32)) => ?_) (fun (hq : ¬ (0 : Int32) = (0 : Int32)) => False.elim (by revert hq; decide))
  refine own_getS C S1072 (own_wd hw 245 rfl) Via.refl (OT.ext X00.2) (by decide +kernel) ?_
  intro T1074 S1075
  refine own_seg C S1075 [(16, .astore 5, 2), (18, .iload_n 2, 1), (19, .istore 6, 2), (21, .iload_n 3, 1), (22, .iload_n 2, 1), (23, .isub, 1), (24, .iconst 3, 1)] (by decide +kernel) 25 #[.val (.ref a), .val (.ref sa), .val (.int 0), .val (.int (Int32.ofNat (qs ++ rs).length)), .val (.ref da), .val (.ref TB), .val (.int 0), .unset, .unset, .unset, .unset, .unset, .unset, .unset, .unset, .unset] [(.int 3), (.int ((Int32.ofNat (qs ++ rs).length) - (0 : Int32)))] rfl ?_
  refine own_idiv C S1075 (by decide +kernel) (by decide) ?_
  refine own_seg C S1075 [(26, .iconst 3, 1), (27, .imul, 1), (28, .istore 7, 2)] (by decide +kernel) 30 #[.val (.ref a), .val (.ref sa), .val (.int 0), .val (.int (Int32.ofNat (qs ++ rs).length)), .val (.ref da), .val (.ref TB), .val (.int 0), .val (.int ((((Int32.ofNat (qs ++ rs).length) - (0 : Int32)) / (3 : Int32)) * (3 : Int32))), .unset, .unset, .unset, .unset, .unset, .unset, .unset, .unset] [] rfl ?_
  rw [show ((((Int32.ofNat (qs ++ rs).length) - (0 : Int32)) / (3 : Int32)) * (3 : Int32)) = (Int32.ofNat (3 * kk)) from own_d3 (by omega) (by rw [List.length_append]; omega)]
  refine own_seg C S1075 [(30, .iload_n 2, 1), (31, .iload 7, 2), (33, .iadd, 1), (34, .istore 8, 2)] (by decide +kernel) 36 #[.val (.ref a), .val (.ref sa), .val (.int 0), .val (.int (Int32.ofNat (qs ++ rs).length)), .val (.ref da), .val (.ref TB), .val (.int 0), .val (.int (Int32.ofNat (3 * kk))), .val (.int ((0 : Int32) + (Int32.ofNat (3 * kk)))), .unset, .unset, .unset, .unset, .unset, .unset, .unset] [] rfl ?_
  rw [show ((0 : Int32) + (Int32.ofNat (3 * kk))) = (Int32.ofNat (3 * kk)) from Int32.zero_add _]
  refine own_seg C S1075 [(36, .aload_n 0, 1)] (by decide +kernel) 37 #[.val (.ref a), .val (.ref sa), .val (.int 0), .val (.int (Int32.ofNat (qs ++ rs).length)), .val (.ref da), .val (.ref TB), .val (.int 0), .val (.int (Int32.ofNat (3 * kk))), .val (.int (Int32.ofNat (3 * kk))), .unset, .unset, .unset, .unset, .unset, .unset, .unset] [(.ref a)] rfl ?_
  refine own_getF C S1075 (host := "") (Or.inl (own_wd hw 70 rfl)) Via.refl p2 (by decide +kernel) ?_
  intro T1076 S1077
  refine own_if C S1077 (q := .le) (o := 26) (by decide +kernel) 66 (by decide) (by decide) (fun (q1078 : ¬ (0 : Int32) < (-1 : Int32)) => ?_) (fun (hq : (0 : Int32) < (-1 : Int32)) => False.elim (by revert hq; decide))
  refine own_seg C S1077 [(66, .iconst 0, 1), (67, .istore 9, 2), (69, .iload 6, 2), (71, .iload 8, 2)] (by decide +kernel) 73 #[.val (.ref a), .val (.ref sa), .val (.int 0), .val (.int (Int32.ofNat (qs ++ rs).length)), .val (.ref da), .val (.ref TB), .val (.int 0), .val (.int (Int32.ofNat (3 * kk))), .val (.int (Int32.ofNat (3 * kk))), .val (.int 0), .unset, .unset, .unset, .unset, .unset, .unset] [(.int (Int32.ofNat (3 * kk))), (.int 0)] rfl ?_
  by_cases hk0 : kk = 0
  · have hqn : qs = [] := List.length_eq_zero_iff.mp (by omega)
    refine own_icmp C S1077 (q := .ge) (o := 116) (by decide +kernel) 189 (by decide) (by decide) (fun (q1079 : ¬ (0 : Int32) < (Int32.ofNat (3 * kk))) => ?_) (fun (hq : (0 : Int32) < (Int32.ofNat (3 * kk))) => False.elim (by rw [hk0] at hq; exact absurd hq (by decide)))
    have e1080 : Int32.ofNat qs.length = 0 := by rw [hqn]; rfl
    have e1081 : Int32.ofNat (own_b64 qs).length = 0 := by rw [hqn]; rfl
    suffices hgo : own_Go p e below (own_En s n0 (fun v h => v = some (.int (Int32.ofNat MM)) ∧ Keep h0 h [da] ∧ Arv Z h da dk .byte (Int32.ofNat MM) (own_pd MM ((own_b64 (qs ++ rs)).map StrChars.lo8)) (.int 0)) ({ frames := 1, cells := 0, slots := 0, locals := 22 } : Room).cells ({ frames := 1, cells := 0, slots := 0, locals := 22 } : Room).slots) T1076 (mkF m 189 #[.val (.ref a), .val (.ref sa), .val (.int 0), .val (.int (Int32.ofNat (qs ++ rs).length)), .val (.ref da), .val (.ref TB), .val (.int (Int32.ofNat qs.length)), .val (.int (Int32.ofNat (3 * kk))), .val (.int (Int32.ofNat (3 * kk))), .val (.int (Int32.ofNat (own_b64 qs).length)), .unset, .unset, .unset, .unset, .unset, .unset] []) by rw [e1080, e1081] at hgo; exact hgo
    have f1082 : Arv Z h0 da dk .byte (Int32.ofNat MM) (own_pd MM ((own_b64 qs).map StrChars.lo8)) (.int 0) := by rw [hqn]; exact dK
    have hbl := (own_b64_len (L := qs) (R := rs) hq3 hr3)
    have hap := own_b64_app (L := qs) (R := rs) hq3
    rcases own_lt3 hr3 with rfl | ⟨ga, rfl⟩ | ⟨ga, gb, rfl⟩
    · have hsz : (qs ++ ([] : List Int32)).length = qs.length + 0 := by simp
      refine own_seg C S1077 [(189, .iload 6, 2), (191, .iload_n 3, 1)] (by decide +kernel) 192 #[.val (.ref a), .val (.ref sa), .val (.int 0), .val (.int (Int32.ofNat (qs ++ ([] : List Int32)).length)), .val (.ref da), .val (.ref TB), .val (.int (Int32.ofNat qs.length)), .val (.int (Int32.ofNat (3 * kk))), .val (.int (Int32.ofNat (3 * kk))), .val (.int (Int32.ofNat (own_b64 qs).length)), .unset, .unset, .unset, .unset, .unset, .unset] [(.int (Int32.ofNat (qs ++ ([] : List Int32)).length)), (.int (Int32.ofNat qs.length))] rfl ?_
      refine own_icmp C S1077 (q := .ge) (o := 160) (by decide +kernel) 352 (by decide) (by decide) (fun (q1083 : ¬ (Int32.ofNat qs.length) < (Int32.ofNat (qs ++ ([] : List Int32)).length)) => ?_) (fun (hq : (Int32.ofNat qs.length) < (Int32.ofNat (qs ++ ([] : List Int32)).length)) => False.elim (absurd hq (by rw [hsz]; exact own_irr _)))
      have e8 : own_b64 (qs ++ ([] : List Int32)) = own_b64 qs := by rw [hap]; simp [own_b64]
      refine own_seg C S1077 [(352, .iload 9, 2)] (by decide +kernel) 354 #[.val (.ref a), .val (.ref sa), .val (.int 0), .val (.int (Int32.ofNat (qs ++ ([] : List Int32)).length)), .val (.ref da), .val (.ref TB), .val (.int (Int32.ofNat qs.length)), .val (.int (Int32.ofNat (3 * kk))), .val (.int (Int32.ofNat (3 * kk))), .val (.int (Int32.ofNat (own_b64 qs).length)), .unset, .unset, .unset, .unset, .unset, .unset] [(.int (Int32.ofNat (own_b64 qs).length))] rfl ?_
      rw [show (Int32.ofNat (own_b64 qs).length) = (Int32.ofNat MM) from (by rw [hME, e8])]
      rw [← e8] at f1082
      refine own_retI C S1077 (by decide +kernel) (by decide) (by decide) ?_
      exact ⟨rfl, (Keep.refl _ _), f1082⟩
    · have hsz : (qs ++ [ga]).length = qs.length + 1 := by simp
      have hap2 : (own_b64 (qs ++ [ga])).length = (own_b64 qs).length + 2 := by rw [hap, List.length_append]; rfl
      have hga : own_R ga := hR ga (by simp)
      have c1 : (qs ++ [ga]) = qs ++ ga :: [] := by simp
      have l1 : (qs ++ [ga]).length = qs.length + 1 := by simp
      refine own_seg C S1077 [(189, .iload 6, 2), (191, .iload_n 3, 1)] (by decide +kernel) 192 #[.val (.ref a), .val (.ref sa), .val (.int 0), .val (.int (Int32.ofNat (qs ++ [ga]).length)), .val (.ref da), .val (.ref TB), .val (.int (Int32.ofNat qs.length)), .val (.int (Int32.ofNat (3 * kk))), .val (.int (Int32.ofNat (3 * kk))), .val (.int (Int32.ofNat (own_b64 qs).length)), .unset, .unset, .unset, .unset, .unset, .unset] [(.int (Int32.ofNat (qs ++ [ga]).length)), (.int (Int32.ofNat qs.length))] rfl ?_
      refine own_icmp C S1077 (q := .ge) (o := 160) (by decide +kernel) 352 (by decide) (by decide) (fun (hq : ¬ (Int32.ofNat qs.length) < (Int32.ofNat (qs ++ [ga]).length)) => False.elim (hq (own_ofs (by omega) (by omega)))) (fun (q1084 : (Int32.ofNat qs.length) < (Int32.ofNat (qs ++ [ga]).length)) => ?_)
      refine own_seg C S1077 [(195, .aload_n 1, 1), (196, .iload 6, 2), (198, .iinc 6 1, 3)] (by decide +kernel) 201 #[.val (.ref a), .val (.ref sa), .val (.int 0), .val (.int (Int32.ofNat (qs ++ [ga]).length)), .val (.ref da), .val (.ref TB), .val (.int ((Int32.ofNat qs.length) + (1 : Int32))), .val (.int (Int32.ofNat (3 * kk))), .val (.int (Int32.ofNat (3 * kk))), .val (.int (Int32.ofNat (own_b64 qs).length)), .unset, .unset, .unset, .unset, .unset, .unset] [(.int (Int32.ofNat qs.length)), (.ref sa)] rfl ?_
      rw [show ((Int32.ofNat qs.length) + (1 : Int32)) = (Int32.ofNat (qs ++ [ga]).length) from own_snoc _ _]
      refine own_baload C S1077 sK ⟨(own_ofNat_nn (by omega)).1, own_ofs (by omega) (by omega)⟩ (.int ga.toInt8.toInt32) (own_svget c1 (by omega)) (by decide +kernel) ?_
      refine own_seg C S1077 [(202, .sipush 255, 3), (205, .iand, 1), (206, .istore 10, 2)] (by decide +kernel) 208 #[.val (.ref a), .val (.ref sa), .val (.int 0), .val (.int (Int32.ofNat (qs ++ [ga]).length)), .val (.ref da), .val (.ref TB), .val (.int (Int32.ofNat (qs ++ [ga]).length)), .val (.int (Int32.ofNat (3 * kk))), .val (.int (Int32.ofNat (3 * kk))), .val (.int (Int32.ofNat (own_b64 qs).length)), .val (.int (ga.toInt8.toInt32 &&& (255 : Int32))), .unset, .unset, .unset, .unset, .unset] [] rfl ?_
      rw [show (ga.toInt8.toInt32 &&& (255 : Int32)) = ga from own_k8 hga]
      have m1 : (own_b64 qs ++ [(own_g0 ga)]).length = (own_b64 qs).length + 1 := by simp
      have m2 : (own_b64 qs ++ [(own_g0 ga), (own_g1 ga 0)]).length = (own_b64 qs).length + 2 := by simp
      refine own_seg C S1077 [(208, .aload 4, 2), (210, .iload 9, 2), (212, .iinc 9 1, 3), (215, .aload 5, 2), (217, .iload 10, 2), (219, .iconst 2, 1), (220, .ishr, 1)] (by decide +kernel) 221 #[.val (.ref a), .val (.ref sa), .val (.int 0), .val (.int (Int32.ofNat (qs ++ [ga]).length)), .val (.ref da), .val (.ref TB), .val (.int (Int32.ofNat (qs ++ [ga]).length)), .val (.int (Int32.ofNat (3 * kk))), .val (.int (Int32.ofNat (3 * kk))), .val (.int ((Int32.ofNat (own_b64 qs).length) + (1 : Int32))), .val (.int ga), .unset, .unset, .unset, .unset, .unset] [(.int (ga >>> ((2 : Int32) &&& 31))), (.ref TB), (.int (Int32.ofNat (own_b64 qs).length)), (.ref da)] rfl ?_
      rw [show ((Int32.ofNat (own_b64 qs).length) + (1 : Int32)) = (Int32.ofNat (own_b64 qs ++ [(own_g0 ga)]).length) from (by rw [own_ofNat_succ, m1])]
      refine own_caload C S1077 TK (own_M0 hga).1 (.int (own_g0 ga)) (own_M0 hga).2 (by decide +kernel) ?_
      refine own_seg C S1077 [(222, .i2b, 1)] (by decide +kernel) 223 #[.val (.ref a), .val (.ref sa), .val (.int 0), .val (.int (Int32.ofNat (qs ++ [ga]).length)), .val (.ref da), .val (.ref TB), .val (.int (Int32.ofNat (qs ++ [ga]).length)), .val (.int (Int32.ofNat (3 * kk))), .val (.int (Int32.ofNat (3 * kk))), .val (.int (Int32.ofNat (own_b64 qs ++ [(own_g0 ga)]).length)), .val (.int ga), .unset, .unset, .unset, .unset, .unset] [(.int ((own_g0 ga).toInt8.toInt32)), (.int (Int32.ofNat (own_b64 qs).length)), (.ref da)] rfl ?_
      refine own_bastore C S1077 f1082 ⟨(own_ofNat_nn (by omega)).1, own_ofs (by omega) (by omega)⟩ (own_b64 qs).length (own_ofNat_nn (by omega)).2 (own_pdl (by omega)) ((own_g0 ga).toInt8.toInt32) (own_i2b2 _) ge_da (by decide +kernel) ?_
      intro T1085 h1087 S1086 W1088 f1089
      have f1090 : Arv Z h1087 da dk .byte (Int32.ofNat MM) (own_pd MM ((own_b64 qs ++ [(own_g0 ga)]).map StrChars.lo8)) (.int 0) := by rw [← (own_pds (n := MM) (A := (own_b64 qs)) (B := (own_b64 qs ++ [(own_g0 ga)])) (v := (own_g0 ga)) (by omega) (by simp))]; exact f1089
      refine own_seg C S1086 [(224, .iload 6, 2), (226, .iload_n 3, 1)] (by decide +kernel) 227 #[.val (.ref a), .val (.ref sa), .val (.int 0), .val (.int (Int32.ofNat (qs ++ [ga]).length)), .val (.ref da), .val (.ref TB), .val (.int (Int32.ofNat (qs ++ [ga]).length)), .val (.int (Int32.ofNat (3 * kk))), .val (.int (Int32.ofNat (3 * kk))), .val (.int (Int32.ofNat (own_b64 qs ++ [(own_g0 ga)]).length)), .val (.int ga), .unset, .unset, .unset, .unset, .unset] [(.int (Int32.ofNat (qs ++ [ga]).length)), (.int (Int32.ofNat (qs ++ [ga]).length))] rfl ?_
      refine own_icmp C S1086 (q := .ne) (o := 52) (by decide +kernel) 279 (by decide) (by decide) (fun (hq : ¬ (Int32.ofNat (qs ++ [ga]).length) = (Int32.ofNat (qs ++ [ga]).length)) => False.elim (hq rfl)) (fun (q1091 : (Int32.ofNat (qs ++ [ga]).length) = (Int32.ofNat (qs ++ [ga]).length)) => ?_)
      refine own_seg C S1086 [(230, .aload 4, 2), (232, .iload 9, 2), (234, .iinc 9 1, 3), (237, .aload 5, 2), (239, .iload 10, 2), (241, .iconst 4, 1), (242, .ishl, 1), (243, .bipush 63, 2), (245, .iand, 1)] (by decide +kernel) 246 #[.val (.ref a), .val (.ref sa), .val (.int 0), .val (.int (Int32.ofNat (qs ++ [ga]).length)), .val (.ref da), .val (.ref TB), .val (.int (Int32.ofNat (qs ++ [ga]).length)), .val (.int (Int32.ofNat (3 * kk))), .val (.int (Int32.ofNat (3 * kk))), .val (.int ((Int32.ofNat (own_b64 qs ++ [(own_g0 ga)]).length) + (1 : Int32))), .val (.int ga), .unset, .unset, .unset, .unset, .unset] [(.int ((ga <<< ((4 : Int32) &&& 31)) &&& (63 : Int32))), (.ref TB), (.int (Int32.ofNat (own_b64 qs ++ [(own_g0 ga)]).length)), (.ref da)] rfl ?_
      rw [show ((Int32.ofNat (own_b64 qs ++ [(own_g0 ga)]).length) + (1 : Int32)) = (Int32.ofNat (own_b64 qs ++ [(own_g0 ga), (own_g1 ga 0)]).length) from (by rw [own_ofNat_succ, m2, m1])]
      have f1092 := (TK.other W1088 (Nat.ne_of_lt (Nat.lt_of_lt_of_le TBlt ge_da)))
      refine own_caload C S1086 f1092 (own_M1 hga).1 (.int (own_g1 ga 0)) (own_M1 hga).2 (by decide +kernel) ?_
      refine own_seg C S1086 [(247, .i2b, 1)] (by decide +kernel) 248 #[.val (.ref a), .val (.ref sa), .val (.int 0), .val (.int (Int32.ofNat (qs ++ [ga]).length)), .val (.ref da), .val (.ref TB), .val (.int (Int32.ofNat (qs ++ [ga]).length)), .val (.int (Int32.ofNat (3 * kk))), .val (.int (Int32.ofNat (3 * kk))), .val (.int (Int32.ofNat (own_b64 qs ++ [(own_g0 ga), (own_g1 ga 0)]).length)), .val (.int ga), .unset, .unset, .unset, .unset, .unset] [(.int ((own_g1 ga 0).toInt8.toInt32)), (.int (Int32.ofNat (own_b64 qs ++ [(own_g0 ga)]).length)), (.ref da)] rfl ?_
      refine own_bastore C S1086 f1090 ⟨(own_ofNat_nn (by omega)).1, own_ofs (by omega) (by omega)⟩ (own_b64 qs ++ [(own_g0 ga)]).length (own_ofNat_nn (by omega)).2 (own_pdl (by omega)) ((own_g1 ga 0).toInt8.toInt32) (own_i2b2 _) ge_da (by decide +kernel) ?_
      intro T1093 h1095 S1094 W1096 f1097
      have f1098 : Arv Z h1095 da dk .byte (Int32.ofNat MM) (own_pd MM ((own_b64 qs ++ [(own_g0 ga), (own_g1 ga 0)]).map StrChars.lo8)) (.int 0) := by rw [← (own_pds (n := MM) (A := (own_b64 qs ++ [(own_g0 ga)])) (B := (own_b64 qs ++ [(own_g0 ga), (own_g1 ga 0)])) (v := (own_g1 ga 0)) (by omega) (by simp))]; exact f1097
      have e8 : own_b64 (qs ++ [ga]) = (own_b64 qs ++ [(own_g0 ga), (own_g1 ga 0)]) := by rw [hap]; rfl
      refine own_seg C S1094 [(249, .aload_n 0, 1)] (by decide +kernel) 250 #[.val (.ref a), .val (.ref sa), .val (.int 0), .val (.int (Int32.ofNat (qs ++ [ga]).length)), .val (.ref da), .val (.ref TB), .val (.int (Int32.ofNat (qs ++ [ga]).length)), .val (.int (Int32.ofNat (3 * kk))), .val (.int (Int32.ofNat (3 * kk))), .val (.int (Int32.ofNat (own_b64 qs ++ [(own_g0 ga), (own_g1 ga 0)]).length)), .val (.int ga), .unset, .unset, .unset, .unset, .unset] [(.ref a)] rfl ?_
      have f1099 := (Fld.other W1096 (Fld.other W1088 p3 (Or.inl ne_a_da)) (Or.inl ne_a_da))
      refine own_getF C S1094 (host := "") (Or.inl (own_wd hw 62 rfl)) Via.refl f1099 (by decide +kernel) ?_
      intro T1100 S1101
      refine own_if C S1101 (q := .eq) (o := 99) (by decide +kernel) 352 (by decide) (by decide) (fun (q1102 : (0 : Int32) = (0 : Int32)) => ?_) (fun (hq : ¬ (0 : Int32) = (0 : Int32)) => False.elim (by revert hq; decide))
      refine own_seg C S1101 [(352, .iload 9, 2)] (by decide +kernel) 354 #[.val (.ref a), .val (.ref sa), .val (.int 0), .val (.int (Int32.ofNat (qs ++ [ga]).length)), .val (.ref da), .val (.ref TB), .val (.int (Int32.ofNat (qs ++ [ga]).length)), .val (.int (Int32.ofNat (3 * kk))), .val (.int (Int32.ofNat (3 * kk))), .val (.int (Int32.ofNat (own_b64 qs ++ [(own_g0 ga), (own_g1 ga 0)]).length)), .val (.int ga), .unset, .unset, .unset, .unset, .unset] [(.int (Int32.ofNat (own_b64 qs ++ [(own_g0 ga), (own_g1 ga 0)]).length))] rfl ?_
      rw [show (Int32.ofNat (own_b64 qs ++ [(own_g0 ga), (own_g1 ga 0)]).length) = (Int32.ofNat MM) from (by rw [hME, e8])]
      rw [← e8] at f1098
      refine own_retI C S1101 (by decide +kernel) (by decide) (by decide) ?_
      exact ⟨rfl, (((Keep.refl _ _).wr W1088 (Or.inl (List.mem_of_getElem? (i := 0) rfl))).wr W1096 (Or.inl (List.mem_of_getElem? (i := 0) rfl))), f1098⟩
    · have hsz : (qs ++ [ga, gb]).length = qs.length + 2 := by simp
      have hap2 : (own_b64 (qs ++ [ga, gb])).length = (own_b64 qs).length + 3 := by rw [hap, List.length_append]; rfl
      have hga : own_R ga := hR ga (by simp)
      have c1 : (qs ++ [ga, gb]) = qs ++ ga :: [gb] := by simp
      have l1 : (qs ++ [ga]).length = qs.length + 1 := by simp
      refine own_seg C S1077 [(189, .iload 6, 2), (191, .iload_n 3, 1)] (by decide +kernel) 192 #[.val (.ref a), .val (.ref sa), .val (.int 0), .val (.int (Int32.ofNat (qs ++ [ga, gb]).length)), .val (.ref da), .val (.ref TB), .val (.int (Int32.ofNat qs.length)), .val (.int (Int32.ofNat (3 * kk))), .val (.int (Int32.ofNat (3 * kk))), .val (.int (Int32.ofNat (own_b64 qs).length)), .unset, .unset, .unset, .unset, .unset, .unset] [(.int (Int32.ofNat (qs ++ [ga, gb]).length)), (.int (Int32.ofNat qs.length))] rfl ?_
      refine own_icmp C S1077 (q := .ge) (o := 160) (by decide +kernel) 352 (by decide) (by decide) (fun (hq : ¬ (Int32.ofNat qs.length) < (Int32.ofNat (qs ++ [ga, gb]).length)) => False.elim (hq (own_ofs (by omega) (by omega)))) (fun (q1103 : (Int32.ofNat qs.length) < (Int32.ofNat (qs ++ [ga, gb]).length)) => ?_)
      refine own_seg C S1077 [(195, .aload_n 1, 1), (196, .iload 6, 2), (198, .iinc 6 1, 3)] (by decide +kernel) 201 #[.val (.ref a), .val (.ref sa), .val (.int 0), .val (.int (Int32.ofNat (qs ++ [ga, gb]).length)), .val (.ref da), .val (.ref TB), .val (.int ((Int32.ofNat qs.length) + (1 : Int32))), .val (.int (Int32.ofNat (3 * kk))), .val (.int (Int32.ofNat (3 * kk))), .val (.int (Int32.ofNat (own_b64 qs).length)), .unset, .unset, .unset, .unset, .unset, .unset] [(.int (Int32.ofNat qs.length)), (.ref sa)] rfl ?_
      rw [show ((Int32.ofNat qs.length) + (1 : Int32)) = (Int32.ofNat (qs ++ [ga]).length) from own_snoc _ _]
      refine own_baload C S1077 sK ⟨(own_ofNat_nn (by omega)).1, own_ofs (by omega) (by omega)⟩ (.int ga.toInt8.toInt32) (own_svget c1 (by omega)) (by decide +kernel) ?_
      refine own_seg C S1077 [(202, .sipush 255, 3), (205, .iand, 1), (206, .istore 10, 2)] (by decide +kernel) 208 #[.val (.ref a), .val (.ref sa), .val (.int 0), .val (.int (Int32.ofNat (qs ++ [ga, gb]).length)), .val (.ref da), .val (.ref TB), .val (.int (Int32.ofNat (qs ++ [ga]).length)), .val (.int (Int32.ofNat (3 * kk))), .val (.int (Int32.ofNat (3 * kk))), .val (.int (Int32.ofNat (own_b64 qs).length)), .val (.int (ga.toInt8.toInt32 &&& (255 : Int32))), .unset, .unset, .unset, .unset, .unset] [] rfl ?_
      rw [show (ga.toInt8.toInt32 &&& (255 : Int32)) = ga from own_k8 hga]
      have m1 : (own_b64 qs ++ [(own_g0 ga)]).length = (own_b64 qs).length + 1 := by simp
      have m2 : (own_b64 qs ++ [(own_g0 ga), (own_g1 ga gb)]).length = (own_b64 qs).length + 2 := by simp
      have m3 : (own_b64 qs ++ [(own_g0 ga), (own_g1 ga gb), (own_g2 gb 0)]).length = (own_b64 qs).length + 3 := by simp
      have hgb : own_R gb := hR gb (by simp)
      have c2 : (qs ++ [ga, gb]) = (qs ++ [ga]) ++ gb :: [] := by simp
      refine own_seg C S1077 [(208, .aload 4, 2), (210, .iload 9, 2), (212, .iinc 9 1, 3), (215, .aload 5, 2), (217, .iload 10, 2), (219, .iconst 2, 1), (220, .ishr, 1)] (by decide +kernel) 221 #[.val (.ref a), .val (.ref sa), .val (.int 0), .val (.int (Int32.ofNat (qs ++ [ga, gb]).length)), .val (.ref da), .val (.ref TB), .val (.int (Int32.ofNat (qs ++ [ga]).length)), .val (.int (Int32.ofNat (3 * kk))), .val (.int (Int32.ofNat (3 * kk))), .val (.int ((Int32.ofNat (own_b64 qs).length) + (1 : Int32))), .val (.int ga), .unset, .unset, .unset, .unset, .unset] [(.int (ga >>> ((2 : Int32) &&& 31))), (.ref TB), (.int (Int32.ofNat (own_b64 qs).length)), (.ref da)] rfl ?_
      rw [show ((Int32.ofNat (own_b64 qs).length) + (1 : Int32)) = (Int32.ofNat (own_b64 qs ++ [(own_g0 ga)]).length) from (by rw [own_ofNat_succ, m1])]
      refine own_caload C S1077 TK (own_M0 hga).1 (.int (own_g0 ga)) (own_M0 hga).2 (by decide +kernel) ?_
      refine own_seg C S1077 [(222, .i2b, 1)] (by decide +kernel) 223 #[.val (.ref a), .val (.ref sa), .val (.int 0), .val (.int (Int32.ofNat (qs ++ [ga, gb]).length)), .val (.ref da), .val (.ref TB), .val (.int (Int32.ofNat (qs ++ [ga]).length)), .val (.int (Int32.ofNat (3 * kk))), .val (.int (Int32.ofNat (3 * kk))), .val (.int (Int32.ofNat (own_b64 qs ++ [(own_g0 ga)]).length)), .val (.int ga), .unset, .unset, .unset, .unset, .unset] [(.int ((own_g0 ga).toInt8.toInt32)), (.int (Int32.ofNat (own_b64 qs).length)), (.ref da)] rfl ?_
      refine own_bastore C S1077 f1082 ⟨(own_ofNat_nn (by omega)).1, own_ofs (by omega) (by omega)⟩ (own_b64 qs).length (own_ofNat_nn (by omega)).2 (own_pdl (by omega)) ((own_g0 ga).toInt8.toInt32) (own_i2b2 _) ge_da (by decide +kernel) ?_
      intro T1104 h1106 S1105 W1107 f1108
      have f1109 : Arv Z h1106 da dk .byte (Int32.ofNat MM) (own_pd MM ((own_b64 qs ++ [(own_g0 ga)]).map StrChars.lo8)) (.int 0) := by rw [← (own_pds (n := MM) (A := (own_b64 qs)) (B := (own_b64 qs ++ [(own_g0 ga)])) (v := (own_g0 ga)) (by omega) (by simp))]; exact f1108
      refine own_seg C S1105 [(224, .iload 6, 2), (226, .iload_n 3, 1)] (by decide +kernel) 227 #[.val (.ref a), .val (.ref sa), .val (.int 0), .val (.int (Int32.ofNat (qs ++ [ga, gb]).length)), .val (.ref da), .val (.ref TB), .val (.int (Int32.ofNat (qs ++ [ga]).length)), .val (.int (Int32.ofNat (3 * kk))), .val (.int (Int32.ofNat (3 * kk))), .val (.int (Int32.ofNat (own_b64 qs ++ [(own_g0 ga)]).length)), .val (.int ga), .unset, .unset, .unset, .unset, .unset] [(.int (Int32.ofNat (qs ++ [ga, gb]).length)), (.int (Int32.ofNat (qs ++ [ga]).length))] rfl ?_
      refine own_icmp C S1105 (q := .ne) (o := 52) (by decide +kernel) 279 (by decide) (by decide) (fun (q1110 : ¬ (Int32.ofNat (qs ++ [ga]).length) = (Int32.ofNat (qs ++ [ga, gb]).length)) => ?_) (fun (hq : (Int32.ofNat (qs ++ [ga]).length) = (Int32.ofNat (qs ++ [ga, gb]).length)) => False.elim (absurd hq (fun q => absurd ((own_oNinj (by omega) (by omega)).mp q) (by omega))))
      refine own_seg C S1105 [(279, .aload_n 1, 1), (280, .iload 6, 2), (282, .iinc 6 1, 3)] (by decide +kernel) 285 #[.val (.ref a), .val (.ref sa), .val (.int 0), .val (.int (Int32.ofNat (qs ++ [ga, gb]).length)), .val (.ref da), .val (.ref TB), .val (.int ((Int32.ofNat (qs ++ [ga]).length) + (1 : Int32))), .val (.int (Int32.ofNat (3 * kk))), .val (.int (Int32.ofNat (3 * kk))), .val (.int (Int32.ofNat (own_b64 qs ++ [(own_g0 ga)]).length)), .val (.int ga), .unset, .unset, .unset, .unset, .unset] [(.int (Int32.ofNat (qs ++ [ga]).length)), (.ref sa)] rfl ?_
      rw [show ((Int32.ofNat (qs ++ [ga]).length) + (1 : Int32)) = (Int32.ofNat ((qs ++ [ga]) ++ [gb]).length) from own_snoc _ _]
      have f1111 := (sK.other W1107 ne_sa_da)
      refine own_baload C S1105 f1111 ⟨(own_ofNat_nn (by omega)).1, own_ofs (by omega) (by omega)⟩ (.int gb.toInt8.toInt32) (own_svget c2 (by omega)) (by decide +kernel) ?_
      refine own_seg C S1105 [(286, .sipush 255, 3), (289, .iand, 1), (290, .istore 11, 2)] (by decide +kernel) 292 #[.val (.ref a), .val (.ref sa), .val (.int 0), .val (.int (Int32.ofNat (qs ++ [ga, gb]).length)), .val (.ref da), .val (.ref TB), .val (.int (Int32.ofNat ((qs ++ [ga]) ++ [gb]).length)), .val (.int (Int32.ofNat (3 * kk))), .val (.int (Int32.ofNat (3 * kk))), .val (.int (Int32.ofNat (own_b64 qs ++ [(own_g0 ga)]).length)), .val (.int ga), .val (.int (gb.toInt8.toInt32 &&& (255 : Int32))), .unset, .unset, .unset, .unset] [] rfl ?_
      rw [show (gb.toInt8.toInt32 &&& (255 : Int32)) = gb from own_k8 hgb]
      refine own_seg C S1105 [(292, .aload 4, 2), (294, .iload 9, 2), (296, .iinc 9 1, 3), (299, .aload 5, 2), (301, .iload 10, 2), (303, .iconst 4, 1), (304, .ishl, 1), (305, .bipush 63, 2), (307, .iand, 1), (308, .iload 11, 2), (310, .iconst 4, 1), (311, .ishr, 1), (312, .ior, 1)] (by decide +kernel) 313 #[.val (.ref a), .val (.ref sa), .val (.int 0), .val (.int (Int32.ofNat (qs ++ [ga, gb]).length)), .val (.ref da), .val (.ref TB), .val (.int (Int32.ofNat ((qs ++ [ga]) ++ [gb]).length)), .val (.int (Int32.ofNat (3 * kk))), .val (.int (Int32.ofNat (3 * kk))), .val (.int ((Int32.ofNat (own_b64 qs ++ [(own_g0 ga)]).length) + (1 : Int32))), .val (.int ga), .val (.int gb), .unset, .unset, .unset, .unset] [(.int (((ga <<< ((4 : Int32) &&& 31)) &&& (63 : Int32)) ||| (gb >>> ((4 : Int32) &&& 31)))), (.ref TB), (.int (Int32.ofNat (own_b64 qs ++ [(own_g0 ga)]).length)), (.ref da)] rfl ?_
      rw [show ((Int32.ofNat (own_b64 qs ++ [(own_g0 ga)]).length) + (1 : Int32)) = (Int32.ofNat (own_b64 qs ++ [(own_g0 ga), (own_g1 ga gb)]).length) from (by rw [own_ofNat_succ, m2, m1])]
      have f1112 := (TK.other W1107 (Nat.ne_of_lt (Nat.lt_of_lt_of_le TBlt ge_da)))
      refine own_caload C S1105 f1112 (own_M2 hga hgb).1 (.int (own_g1 ga gb)) (own_M2 hga hgb).2 (by decide +kernel) ?_
      refine own_seg C S1105 [(314, .i2b, 1)] (by decide +kernel) 315 #[.val (.ref a), .val (.ref sa), .val (.int 0), .val (.int (Int32.ofNat (qs ++ [ga, gb]).length)), .val (.ref da), .val (.ref TB), .val (.int (Int32.ofNat ((qs ++ [ga]) ++ [gb]).length)), .val (.int (Int32.ofNat (3 * kk))), .val (.int (Int32.ofNat (3 * kk))), .val (.int (Int32.ofNat (own_b64 qs ++ [(own_g0 ga), (own_g1 ga gb)]).length)), .val (.int ga), .val (.int gb), .unset, .unset, .unset, .unset] [(.int ((own_g1 ga gb).toInt8.toInt32)), (.int (Int32.ofNat (own_b64 qs ++ [(own_g0 ga)]).length)), (.ref da)] rfl ?_
      refine own_bastore C S1105 f1109 ⟨(own_ofNat_nn (by omega)).1, own_ofs (by omega) (by omega)⟩ (own_b64 qs ++ [(own_g0 ga)]).length (own_ofNat_nn (by omega)).2 (own_pdl (by omega)) ((own_g1 ga gb).toInt8.toInt32) (own_i2b2 _) ge_da (by decide +kernel) ?_
      intro T1113 h1115 S1114 W1116 f1117
      have f1118 : Arv Z h1115 da dk .byte (Int32.ofNat MM) (own_pd MM ((own_b64 qs ++ [(own_g0 ga), (own_g1 ga gb)]).map StrChars.lo8)) (.int 0) := by rw [← (own_pds (n := MM) (A := (own_b64 qs ++ [(own_g0 ga)])) (B := (own_b64 qs ++ [(own_g0 ga), (own_g1 ga gb)])) (v := (own_g1 ga gb)) (by omega) (by simp))]; exact f1117
      refine own_seg C S1114 [(316, .aload 4, 2), (318, .iload 9, 2), (320, .iinc 9 1, 3), (323, .aload 5, 2), (325, .iload 11, 2), (327, .iconst 2, 1), (328, .ishl, 1), (329, .bipush 63, 2), (331, .iand, 1)] (by decide +kernel) 332 #[.val (.ref a), .val (.ref sa), .val (.int 0), .val (.int (Int32.ofNat (qs ++ [ga, gb]).length)), .val (.ref da), .val (.ref TB), .val (.int (Int32.ofNat ((qs ++ [ga]) ++ [gb]).length)), .val (.int (Int32.ofNat (3 * kk))), .val (.int (Int32.ofNat (3 * kk))), .val (.int ((Int32.ofNat (own_b64 qs ++ [(own_g0 ga), (own_g1 ga gb)]).length) + (1 : Int32))), .val (.int ga), .val (.int gb), .unset, .unset, .unset, .unset] [(.int ((gb <<< ((2 : Int32) &&& 31)) &&& (63 : Int32))), (.ref TB), (.int (Int32.ofNat (own_b64 qs ++ [(own_g0 ga), (own_g1 ga gb)]).length)), (.ref da)] rfl ?_
      rw [show ((Int32.ofNat (own_b64 qs ++ [(own_g0 ga), (own_g1 ga gb)]).length) + (1 : Int32)) = (Int32.ofNat (own_b64 qs ++ [(own_g0 ga), (own_g1 ga gb), (own_g2 gb 0)]).length) from (by rw [own_ofNat_succ, m3, m2])]
      have f1119 := (f1112.other W1116 (Nat.ne_of_lt (Nat.lt_of_lt_of_le TBlt ge_da)))
      refine own_caload C S1114 f1119 (own_M3 hgb).1 (.int (own_g2 gb 0)) (own_M3 hgb).2 (by decide +kernel) ?_
      refine own_seg C S1114 [(333, .i2b, 1)] (by decide +kernel) 334 #[.val (.ref a), .val (.ref sa), .val (.int 0), .val (.int (Int32.ofNat (qs ++ [ga, gb]).length)), .val (.ref da), .val (.ref TB), .val (.int (Int32.ofNat ((qs ++ [ga]) ++ [gb]).length)), .val (.int (Int32.ofNat (3 * kk))), .val (.int (Int32.ofNat (3 * kk))), .val (.int (Int32.ofNat (own_b64 qs ++ [(own_g0 ga), (own_g1 ga gb), (own_g2 gb 0)]).length)), .val (.int ga), .val (.int gb), .unset, .unset, .unset, .unset] [(.int ((own_g2 gb 0).toInt8.toInt32)), (.int (Int32.ofNat (own_b64 qs ++ [(own_g0 ga), (own_g1 ga gb)]).length)), (.ref da)] rfl ?_
      refine own_bastore C S1114 f1118 ⟨(own_ofNat_nn (by omega)).1, own_ofs (by omega) (by omega)⟩ (own_b64 qs ++ [(own_g0 ga), (own_g1 ga gb)]).length (own_ofNat_nn (by omega)).2 (own_pdl (by omega)) ((own_g2 gb 0).toInt8.toInt32) (own_i2b2 _) ge_da (by decide +kernel) ?_
      intro T1120 h1122 S1121 W1123 f1124
      have f1125 : Arv Z h1122 da dk .byte (Int32.ofNat MM) (own_pd MM ((own_b64 qs ++ [(own_g0 ga), (own_g1 ga gb), (own_g2 gb 0)]).map StrChars.lo8)) (.int 0) := by rw [← (own_pds (n := MM) (A := (own_b64 qs ++ [(own_g0 ga), (own_g1 ga gb)])) (B := (own_b64 qs ++ [(own_g0 ga), (own_g1 ga gb), (own_g2 gb 0)])) (v := (own_g2 gb 0)) (by omega) (by simp))]; exact f1124
      have e8 : own_b64 (qs ++ [ga, gb]) = (own_b64 qs ++ [(own_g0 ga), (own_g1 ga gb), (own_g2 gb 0)]) := by rw [hap]; rfl
      refine own_seg C S1121 [(335, .aload_n 0, 1)] (by decide +kernel) 336 #[.val (.ref a), .val (.ref sa), .val (.int 0), .val (.int (Int32.ofNat (qs ++ [ga, gb]).length)), .val (.ref da), .val (.ref TB), .val (.int (Int32.ofNat ((qs ++ [ga]) ++ [gb]).length)), .val (.int (Int32.ofNat (3 * kk))), .val (.int (Int32.ofNat (3 * kk))), .val (.int (Int32.ofNat (own_b64 qs ++ [(own_g0 ga), (own_g1 ga gb), (own_g2 gb 0)]).length)), .val (.int ga), .val (.int gb), .unset, .unset, .unset, .unset] [(.ref a)] rfl ?_
      have f1126 := (Fld.other W1123 (Fld.other W1116 (Fld.other W1107 p3 (Or.inl ne_a_da)) (Or.inl ne_a_da)) (Or.inl ne_a_da))
      refine own_getF C S1121 (host := "") (Or.inl (own_wd hw 62 rfl)) Via.refl f1126 (by decide +kernel) ?_
      intro T1127 S1128
      refine own_if C S1128 (q := .eq) (o := 13) (by decide +kernel) 352 (by decide) (by decide) (fun (q1129 : (0 : Int32) = (0 : Int32)) => ?_) (fun (hq : ¬ (0 : Int32) = (0 : Int32)) => False.elim (by revert hq; decide))
      refine own_seg C S1128 [(352, .iload 9, 2)] (by decide +kernel) 354 #[.val (.ref a), .val (.ref sa), .val (.int 0), .val (.int (Int32.ofNat (qs ++ [ga, gb]).length)), .val (.ref da), .val (.ref TB), .val (.int (Int32.ofNat ((qs ++ [ga]) ++ [gb]).length)), .val (.int (Int32.ofNat (3 * kk))), .val (.int (Int32.ofNat (3 * kk))), .val (.int (Int32.ofNat (own_b64 qs ++ [(own_g0 ga), (own_g1 ga gb), (own_g2 gb 0)]).length)), .val (.int ga), .val (.int gb), .unset, .unset, .unset, .unset] [(.int (Int32.ofNat (own_b64 qs ++ [(own_g0 ga), (own_g1 ga gb), (own_g2 gb 0)]).length))] rfl ?_
      rw [show (Int32.ofNat (own_b64 qs ++ [(own_g0 ga), (own_g1 ga gb), (own_g2 gb 0)]).length) = (Int32.ofNat MM) from (by rw [hME, e8])]
      rw [← e8] at f1125
      refine own_retI C S1128 (by decide +kernel) (by decide) (by decide) ?_
      exact ⟨rfl, ((((Keep.refl _ _).wr W1107 (Or.inl (List.mem_of_getElem? (i := 0) rfl))).wr W1116 (Or.inl (List.mem_of_getElem? (i := 0) rfl))).wr W1123 (Or.inl (List.mem_of_getElem? (i := 0) rfl))), f1125⟩
  · refine own_icmp C S1077 (q := .ge) (o := 116) (by decide +kernel) 189 (by decide) (by decide) (fun (hq : ¬ (0 : Int32) < (Int32.ofNat (3 * kk))) => False.elim (hq (own_ofs (i := 0) (by omega) (by omega)))) (fun (q1130 : (0 : Int32) < (Int32.ofNat (3 * kk))) => ?_)
    refine own_seg C S1077 [(76, .iload 6, 2), (78, .iload 7, 2), (80, .iadd, 1), (81, .iload 8, 2)] (by decide +kernel) 83 #[.val (.ref a), .val (.ref sa), .val (.int 0), .val (.int (Int32.ofNat (qs ++ rs).length)), .val (.ref da), .val (.ref TB), .val (.int 0), .val (.int (Int32.ofNat (3 * kk))), .val (.int (Int32.ofNat (3 * kk))), .val (.int 0), .unset, .unset, .unset, .unset, .unset, .unset] [(.int (Int32.ofNat (3 * kk))), (.int ((0 : Int32) + (Int32.ofNat (3 * kk))))] rfl ?_
    rw [show ((0 : Int32) + (Int32.ofNat (3 * kk))) = (Int32.ofNat (3 * kk)) from Int32.zero_add _]
    refine own_callS C S1077 (own_wd hw 246 rfl) (own_wd hw 184 rfl) (own_wd hw 185 rfl) (own_wd hw 186 rfl) (by decide) (own_Met.pay (own_min l Z a0 hw (Int32.ofNat (3 * kk)) (Int32.ofNat (3 * kk)) h0 n0 z0) C 0 (own_wd hw 186 rfl) (own_wd hw 185 rfl) (by decide) (by decide)) (fun _ _ _ q => q.2) [(.int (Int32.ofNat (3 * kk))), (.int (Int32.ofNat (3 * kk)))] [] rfl own_pd11 rfl rfl rfl (Nat.le_of_ble_eq_true rfl) (by decide) (by decide) (by decide +kernel) ?_
    rintro T1132 h1133 v1134 L1135 S1136 ⟨⟨rfl, e1131⟩, -⟩
    rw [e1131] at S1136; clear e1131
    show own_Go p e below _ T1132 (mkF m 86 #[.val (.ref a), .val (.ref sa), .val (.int 0), .val (.int (Int32.ofNat (qs ++ rs).length)), .val (.ref da), .val (.ref TB), .val (.int 0), .val (.int (Int32.ofNat (3 * kk))), .val (.int (Int32.ofNat (3 * kk))), .val (.int 0), .unset, .unset, .unset, .unset, .unset, .unset] [(.int (if (Int32.ofNat (3 * kk)) < (Int32.ofNat (3 * kk)) then (Int32.ofNat (3 * kk)) else (Int32.ofNat (3 * kk))))])
    rw [own_min_g (own_irr _)]
    show own_Go p e below _ T1132 (mkF m 86 #[.val (.ref a), .val (.ref sa), .val (.int 0), .val (.int (Int32.ofNat (qs ++ rs).length)), .val (.ref da), .val (.ref TB), .val (.int 0), .val (.int (Int32.ofNat (3 * kk))), .val (.int (Int32.ofNat (3 * kk))), .val (.int 0), .unset, .unset, .unset, .unset, .unset, .unset] [(.int (Int32.ofNat (3 * kk)))])
    refine own_seg C S1136 [(86, .istore 10, 2), (88, .aload_n 0, 1), (89, .aload_n 1, 1), (90, .iload 6, 2), (92, .iload 10, 2), (94, .aload 4, 2), (96, .iload 9, 2), (98, .aload_n 0, 1)] (by decide +kernel) 99 #[.val (.ref a), .val (.ref sa), .val (.int 0), .val (.int (Int32.ofNat (qs ++ rs).length)), .val (.ref da), .val (.ref TB), .val (.int 0), .val (.int (Int32.ofNat (3 * kk))), .val (.int (Int32.ofNat (3 * kk))), .val (.int 0), .val (.int (Int32.ofNat (3 * kk))), .unset, .unset, .unset, .unset, .unset] [(.ref a), (.int 0), (.ref da), (.int (Int32.ofNat (3 * kk))), (.int 0), (.ref sa), (.ref a)] rfl ?_
    refine own_getF C S1136 (host := "") (Or.inl (own_wd hw 66 rfl)) Via.refl p1 (by decide +kernel) ?_
    intro T1137 S1138
    refine own_callP C S1138 (own_wd hw 247 rfl) (own_wd hw 248 rfl) (own_wd hw 250 rfl) (own_wd hw 249 rfl) (own_wd hw 251 rfl) (by decide) (own_Met.pay (own_eb l Z a0 hw G1 G3 U8 TB TBk a sa _ qs rs kk da _ MM h0 n0 z0 ge_da X00 TK sK dK ne_sa_da O2 O4 P5 rG3 OU1 OU2 OT TBlt hq3 hr3 h9 hR hM hM2) C 0 (own_wd hw 251 rfl) (own_wd hw 56 rfl) (by decide) (by decide)) (fun _ _ _ q => q.2) p0 [(.ref sa), (.int 0), (.int (Int32.ofNat (3 * kk))), (.ref da), (.int 0), (.int 0)] [] rfl own_pd32 rfl rfl rfl (Nat.le_of_ble_eq_true rfl) (by decide) (by decide) (by decide +kernel) ?_
    rintro T1141 h1142 v1143 L1144 S1145 ⟨⟨rfl, K1139, f1140⟩, -⟩
    show own_Go p e below _ T1141 (mkF m 105 #[.val (.ref a), .val (.ref sa), .val (.int 0), .val (.int (Int32.ofNat (qs ++ rs).length)), .val (.ref da), .val (.ref TB), .val (.int 0), .val (.int (Int32.ofNat (3 * kk))), .val (.int (Int32.ofNat (3 * kk))), .val (.int 0), .val (.int (Int32.ofNat (3 * kk))), .unset, .unset, .unset, .unset, .unset] [])
    refine own_seg C S1145 [(105, .iload 10, 2), (107, .iload 6, 2), (109, .isub, 1), (110, .iconst 3, 1)] (by decide +kernel) 111 #[.val (.ref a), .val (.ref sa), .val (.int 0), .val (.int (Int32.ofNat (qs ++ rs).length)), .val (.ref da), .val (.ref TB), .val (.int 0), .val (.int (Int32.ofNat (3 * kk))), .val (.int (Int32.ofNat (3 * kk))), .val (.int 0), .val (.int (Int32.ofNat (3 * kk))), .unset, .unset, .unset, .unset, .unset] [(.int 3), (.int ((Int32.ofNat (3 * kk)) - (0 : Int32)))] rfl ?_
    refine own_idiv C S1145 (by decide +kernel) (by decide) ?_
    refine own_seg C S1145 [(112, .iconst 4, 1), (113, .imul, 1)] (by decide +kernel) 114 #[.val (.ref a), .val (.ref sa), .val (.int 0), .val (.int (Int32.ofNat (qs ++ rs).length)), .val (.ref da), .val (.ref TB), .val (.int 0), .val (.int (Int32.ofNat (3 * kk))), .val (.int (Int32.ofNat (3 * kk))), .val (.int 0), .val (.int (Int32.ofNat (3 * kk))), .unset, .unset, .unset, .unset, .unset] [(.int ((((Int32.ofNat (3 * kk)) - (0 : Int32)) / (3 : Int32)) * (4 : Int32)))] rfl ?_
    rw [show ((((Int32.ofNat (3 * kk)) - (0 : Int32)) / (3 : Int32)) * (4 : Int32)) = (Int32.ofNat (4 * kk)) from own_d4b (by omega)]
    refine own_seg C S1145 [(114, .istore 11, 2), (116, .iload 9, 2), (118, .iload 11, 2), (120, .iadd, 1)] (by decide +kernel) 121 #[.val (.ref a), .val (.ref sa), .val (.int 0), .val (.int (Int32.ofNat (qs ++ rs).length)), .val (.ref da), .val (.ref TB), .val (.int 0), .val (.int (Int32.ofNat (3 * kk))), .val (.int (Int32.ofNat (3 * kk))), .val (.int 0), .val (.int (Int32.ofNat (3 * kk))), .val (.int (Int32.ofNat (4 * kk))), .unset, .unset, .unset, .unset] [(.int ((0 : Int32) + (Int32.ofNat (4 * kk))))] rfl ?_
    rw [show ((0 : Int32) + (Int32.ofNat (4 * kk))) = (Int32.ofNat (4 * kk)) from Int32.zero_add _]
    refine own_seg C S1145 [(121, .istore 9, 2), (123, .iload 10, 2), (125, .istore 6, 2), (127, .iload 11, 2), (129, .aload_n 0, 1)] (by decide +kernel) 130 #[.val (.ref a), .val (.ref sa), .val (.int 0), .val (.int (Int32.ofNat (qs ++ rs).length)), .val (.ref da), .val (.ref TB), .val (.int (Int32.ofNat (3 * kk))), .val (.int (Int32.ofNat (3 * kk))), .val (.int (Int32.ofNat (3 * kk))), .val (.int (Int32.ofNat (4 * kk))), .val (.int (Int32.ofNat (3 * kk))), .val (.int (Int32.ofNat (4 * kk))), .unset, .unset, .unset, .unset] [(.ref a), (.int (Int32.ofNat (4 * kk)))] rfl ?_
    have f1146 := (p2.keep K1139 (ninS ne_a_da nin0))
    refine own_getF C S1145 (host := "") (Or.inl (own_wd hw 70 rfl)) Via.refl f1146 (by decide +kernel) ?_
    intro T1147 S1148
    refine own_icmp C S1148 (q := .ne) (o := 53) (by decide +kernel) 186 (by decide) (by decide) (fun (q1149 : ¬ (Int32.ofNat (4 * kk)) = (-1 : Int32)) => ?_) (fun (hq : (Int32.ofNat (4 * kk)) = (-1 : Int32)) => False.elim (own_m1 (by omega) hq))
    refine own_seg C S1148 [(186, .goto (-117), 3)] (by decide +kernel) 69 #[.val (.ref a), .val (.ref sa), .val (.int 0), .val (.int (Int32.ofNat (qs ++ rs).length)), .val (.ref da), .val (.ref TB), .val (.int (Int32.ofNat (3 * kk))), .val (.int (Int32.ofNat (3 * kk))), .val (.int (Int32.ofNat (3 * kk))), .val (.int (Int32.ofNat (4 * kk))), .val (.int (Int32.ofNat (3 * kk))), .val (.int (Int32.ofNat (4 * kk))), .unset, .unset, .unset, .unset] [] rfl ?_
    refine own_seg C S1148 [(69, .iload 6, 2), (71, .iload 8, 2)] (by decide +kernel) 73 #[.val (.ref a), .val (.ref sa), .val (.int 0), .val (.int (Int32.ofNat (qs ++ rs).length)), .val (.ref da), .val (.ref TB), .val (.int (Int32.ofNat (3 * kk))), .val (.int (Int32.ofNat (3 * kk))), .val (.int (Int32.ofNat (3 * kk))), .val (.int (Int32.ofNat (4 * kk))), .val (.int (Int32.ofNat (3 * kk))), .val (.int (Int32.ofNat (4 * kk))), .unset, .unset, .unset, .unset] [(.int (Int32.ofNat (3 * kk))), (.int (Int32.ofNat (3 * kk)))] rfl ?_
    refine own_icmp C S1148 (q := .ge) (o := 116) (by decide +kernel) 189 (by decide) (by decide) (fun (q1150 : ¬ (Int32.ofNat (3 * kk)) < (Int32.ofNat (3 * kk))) => ?_) (fun (hq : (Int32.ofNat (3 * kk)) < (Int32.ofNat (3 * kk))) => False.elim (own_irr _ hq))
    have e1151 : Int32.ofNat qs.length = Int32.ofNat (3 * kk) := by rw [hq3]
    have e1152 : Int32.ofNat (own_b64 qs).length = Int32.ofNat (4 * kk) := by rw [hbl4]
    suffices hgo : own_Go p e below (own_En s n0 (fun v h => v = some (.int (Int32.ofNat MM)) ∧ Keep h0 h [da] ∧ Arv Z h da dk .byte (Int32.ofNat MM) (own_pd MM ((own_b64 (qs ++ rs)).map StrChars.lo8)) (.int 0)) ({ frames := 1, cells := 0, slots := 0, locals := 22 } : Room).cells ({ frames := 1, cells := 0, slots := 0, locals := 22 } : Room).slots) T1147 (mkF m 189 #[.val (.ref a), .val (.ref sa), .val (.int 0), .val (.int (Int32.ofNat (qs ++ rs).length)), .val (.ref da), .val (.ref TB), .val (.int (Int32.ofNat qs.length)), .val (.int (Int32.ofNat (3 * kk))), .val (.int (Int32.ofNat (3 * kk))), .val (.int (Int32.ofNat (own_b64 qs).length)), .val (.int (Int32.ofNat (3 * kk))), .val (.int (Int32.ofNat (4 * kk))), .unset, .unset, .unset, .unset] []) by rw [e1151, e1152] at hgo; exact hgo
    have hbl := (own_b64_len (L := qs) (R := rs) hq3 hr3)
    have hap := own_b64_app (L := qs) (R := rs) hq3
    rcases own_lt3 hr3 with rfl | ⟨ga, rfl⟩ | ⟨ga, gb, rfl⟩
    · have hsz : (qs ++ ([] : List Int32)).length = qs.length + 0 := by simp
      refine own_seg C S1148 [(189, .iload 6, 2), (191, .iload_n 3, 1)] (by decide +kernel) 192 #[.val (.ref a), .val (.ref sa), .val (.int 0), .val (.int (Int32.ofNat (qs ++ ([] : List Int32)).length)), .val (.ref da), .val (.ref TB), .val (.int (Int32.ofNat qs.length)), .val (.int (Int32.ofNat (3 * kk))), .val (.int (Int32.ofNat (3 * kk))), .val (.int (Int32.ofNat (own_b64 qs).length)), .val (.int (Int32.ofNat (3 * kk))), .val (.int (Int32.ofNat (4 * kk))), .unset, .unset, .unset, .unset] [(.int (Int32.ofNat (qs ++ ([] : List Int32)).length)), (.int (Int32.ofNat qs.length))] rfl ?_
      refine own_icmp C S1148 (q := .ge) (o := 160) (by decide +kernel) 352 (by decide) (by decide) (fun (q1153 : ¬ (Int32.ofNat qs.length) < (Int32.ofNat (qs ++ ([] : List Int32)).length)) => ?_) (fun (hq : (Int32.ofNat qs.length) < (Int32.ofNat (qs ++ ([] : List Int32)).length)) => False.elim (absurd hq (by rw [hsz]; exact own_irr _)))
      have e8 : own_b64 (qs ++ ([] : List Int32)) = own_b64 qs := by rw [hap]; simp [own_b64]
      refine own_seg C S1148 [(352, .iload 9, 2)] (by decide +kernel) 354 #[.val (.ref a), .val (.ref sa), .val (.int 0), .val (.int (Int32.ofNat (qs ++ ([] : List Int32)).length)), .val (.ref da), .val (.ref TB), .val (.int (Int32.ofNat qs.length)), .val (.int (Int32.ofNat (3 * kk))), .val (.int (Int32.ofNat (3 * kk))), .val (.int (Int32.ofNat (own_b64 qs).length)), .val (.int (Int32.ofNat (3 * kk))), .val (.int (Int32.ofNat (4 * kk))), .unset, .unset, .unset, .unset] [(.int (Int32.ofNat (own_b64 qs).length))] rfl ?_
      rw [show (Int32.ofNat (own_b64 qs).length) = (Int32.ofNat MM) from (by rw [hME, e8])]
      rw [← e8] at f1140
      refine own_retI C S1148 (by decide +kernel) (by decide) (by decide) ?_
      exact ⟨rfl, ((Keep.refl _ _).trans K1139 (allS (Or.inl (List.mem_of_getElem? (i := 0) rfl)) all0)), f1140⟩
    · have hsz : (qs ++ [ga]).length = qs.length + 1 := by simp
      have hap2 : (own_b64 (qs ++ [ga])).length = (own_b64 qs).length + 2 := by rw [hap, List.length_append]; rfl
      have hga : own_R ga := hR ga (by simp)
      have c1 : (qs ++ [ga]) = qs ++ ga :: [] := by simp
      have l1 : (qs ++ [ga]).length = qs.length + 1 := by simp
      refine own_seg C S1148 [(189, .iload 6, 2), (191, .iload_n 3, 1)] (by decide +kernel) 192 #[.val (.ref a), .val (.ref sa), .val (.int 0), .val (.int (Int32.ofNat (qs ++ [ga]).length)), .val (.ref da), .val (.ref TB), .val (.int (Int32.ofNat qs.length)), .val (.int (Int32.ofNat (3 * kk))), .val (.int (Int32.ofNat (3 * kk))), .val (.int (Int32.ofNat (own_b64 qs).length)), .val (.int (Int32.ofNat (3 * kk))), .val (.int (Int32.ofNat (4 * kk))), .unset, .unset, .unset, .unset] [(.int (Int32.ofNat (qs ++ [ga]).length)), (.int (Int32.ofNat qs.length))] rfl ?_
      refine own_icmp C S1148 (q := .ge) (o := 160) (by decide +kernel) 352 (by decide) (by decide) (fun (hq : ¬ (Int32.ofNat qs.length) < (Int32.ofNat (qs ++ [ga]).length)) => False.elim (hq (own_ofs (by omega) (by omega)))) (fun (q1154 : (Int32.ofNat qs.length) < (Int32.ofNat (qs ++ [ga]).length)) => ?_)
      refine own_seg C S1148 [(195, .aload_n 1, 1), (196, .iload 6, 2), (198, .iinc 6 1, 3)] (by decide +kernel) 201 #[.val (.ref a), .val (.ref sa), .val (.int 0), .val (.int (Int32.ofNat (qs ++ [ga]).length)), .val (.ref da), .val (.ref TB), .val (.int ((Int32.ofNat qs.length) + (1 : Int32))), .val (.int (Int32.ofNat (3 * kk))), .val (.int (Int32.ofNat (3 * kk))), .val (.int (Int32.ofNat (own_b64 qs).length)), .val (.int (Int32.ofNat (3 * kk))), .val (.int (Int32.ofNat (4 * kk))), .unset, .unset, .unset, .unset] [(.int (Int32.ofNat qs.length)), (.ref sa)] rfl ?_
      rw [show ((Int32.ofNat qs.length) + (1 : Int32)) = (Int32.ofNat (qs ++ [ga]).length) from own_snoc _ _]
      have f1155 := (sK.keep K1139 (ninS ne_sa_da nin0))
      refine own_baload C S1148 f1155 ⟨(own_ofNat_nn (by omega)).1, own_ofs (by omega) (by omega)⟩ (.int ga.toInt8.toInt32) (own_svget c1 (by omega)) (by decide +kernel) ?_
      refine own_seg C S1148 [(202, .sipush 255, 3), (205, .iand, 1), (206, .istore 10, 2)] (by decide +kernel) 208 #[.val (.ref a), .val (.ref sa), .val (.int 0), .val (.int (Int32.ofNat (qs ++ [ga]).length)), .val (.ref da), .val (.ref TB), .val (.int (Int32.ofNat (qs ++ [ga]).length)), .val (.int (Int32.ofNat (3 * kk))), .val (.int (Int32.ofNat (3 * kk))), .val (.int (Int32.ofNat (own_b64 qs).length)), .val (.int (ga.toInt8.toInt32 &&& (255 : Int32))), .val (.int (Int32.ofNat (4 * kk))), .unset, .unset, .unset, .unset] [] rfl ?_
      rw [show (ga.toInt8.toInt32 &&& (255 : Int32)) = ga from own_k8 hga]
      have m1 : (own_b64 qs ++ [(own_g0 ga)]).length = (own_b64 qs).length + 1 := by simp
      have m2 : (own_b64 qs ++ [(own_g0 ga), (own_g1 ga 0)]).length = (own_b64 qs).length + 2 := by simp
      refine own_seg C S1148 [(208, .aload 4, 2), (210, .iload 9, 2), (212, .iinc 9 1, 3), (215, .aload 5, 2), (217, .iload 10, 2), (219, .iconst 2, 1), (220, .ishr, 1)] (by decide +kernel) 221 #[.val (.ref a), .val (.ref sa), .val (.int 0), .val (.int (Int32.ofNat (qs ++ [ga]).length)), .val (.ref da), .val (.ref TB), .val (.int (Int32.ofNat (qs ++ [ga]).length)), .val (.int (Int32.ofNat (3 * kk))), .val (.int (Int32.ofNat (3 * kk))), .val (.int ((Int32.ofNat (own_b64 qs).length) + (1 : Int32))), .val (.int ga), .val (.int (Int32.ofNat (4 * kk))), .unset, .unset, .unset, .unset] [(.int (ga >>> ((2 : Int32) &&& 31))), (.ref TB), (.int (Int32.ofNat (own_b64 qs).length)), (.ref da)] rfl ?_
      rw [show ((Int32.ofNat (own_b64 qs).length) + (1 : Int32)) = (Int32.ofNat (own_b64 qs ++ [(own_g0 ga)]).length) from (by rw [own_ofNat_succ, m1])]
      have f1156 := (TK.keep K1139 (ninS (Nat.ne_of_lt (Nat.lt_of_lt_of_le TBlt ge_da)) nin0))
      refine own_caload C S1148 f1156 (own_M0 hga).1 (.int (own_g0 ga)) (own_M0 hga).2 (by decide +kernel) ?_
      refine own_seg C S1148 [(222, .i2b, 1)] (by decide +kernel) 223 #[.val (.ref a), .val (.ref sa), .val (.int 0), .val (.int (Int32.ofNat (qs ++ [ga]).length)), .val (.ref da), .val (.ref TB), .val (.int (Int32.ofNat (qs ++ [ga]).length)), .val (.int (Int32.ofNat (3 * kk))), .val (.int (Int32.ofNat (3 * kk))), .val (.int (Int32.ofNat (own_b64 qs ++ [(own_g0 ga)]).length)), .val (.int ga), .val (.int (Int32.ofNat (4 * kk))), .unset, .unset, .unset, .unset] [(.int ((own_g0 ga).toInt8.toInt32)), (.int (Int32.ofNat (own_b64 qs).length)), (.ref da)] rfl ?_
      refine own_bastore C S1148 f1140 ⟨(own_ofNat_nn (by omega)).1, own_ofs (by omega) (by omega)⟩ (own_b64 qs).length (own_ofNat_nn (by omega)).2 (own_pdl (by omega)) ((own_g0 ga).toInt8.toInt32) (own_i2b2 _) ge_da (by decide +kernel) ?_
      intro T1157 h1159 S1158 W1160 f1161
      have f1162 : Arv Z h1159 da dk .byte (Int32.ofNat MM) (own_pd MM ((own_b64 qs ++ [(own_g0 ga)]).map StrChars.lo8)) (.int 0) := by rw [← (own_pds (n := MM) (A := (own_b64 qs)) (B := (own_b64 qs ++ [(own_g0 ga)])) (v := (own_g0 ga)) (by omega) (by simp))]; exact f1161
      refine own_seg C S1158 [(224, .iload 6, 2), (226, .iload_n 3, 1)] (by decide +kernel) 227 #[.val (.ref a), .val (.ref sa), .val (.int 0), .val (.int (Int32.ofNat (qs ++ [ga]).length)), .val (.ref da), .val (.ref TB), .val (.int (Int32.ofNat (qs ++ [ga]).length)), .val (.int (Int32.ofNat (3 * kk))), .val (.int (Int32.ofNat (3 * kk))), .val (.int (Int32.ofNat (own_b64 qs ++ [(own_g0 ga)]).length)), .val (.int ga), .val (.int (Int32.ofNat (4 * kk))), .unset, .unset, .unset, .unset] [(.int (Int32.ofNat (qs ++ [ga]).length)), (.int (Int32.ofNat (qs ++ [ga]).length))] rfl ?_
      refine own_icmp C S1158 (q := .ne) (o := 52) (by decide +kernel) 279 (by decide) (by decide) (fun (hq : ¬ (Int32.ofNat (qs ++ [ga]).length) = (Int32.ofNat (qs ++ [ga]).length)) => False.elim (hq rfl)) (fun (q1163 : (Int32.ofNat (qs ++ [ga]).length) = (Int32.ofNat (qs ++ [ga]).length)) => ?_)
      refine own_seg C S1158 [(230, .aload 4, 2), (232, .iload 9, 2), (234, .iinc 9 1, 3), (237, .aload 5, 2), (239, .iload 10, 2), (241, .iconst 4, 1), (242, .ishl, 1), (243, .bipush 63, 2), (245, .iand, 1)] (by decide +kernel) 246 #[.val (.ref a), .val (.ref sa), .val (.int 0), .val (.int (Int32.ofNat (qs ++ [ga]).length)), .val (.ref da), .val (.ref TB), .val (.int (Int32.ofNat (qs ++ [ga]).length)), .val (.int (Int32.ofNat (3 * kk))), .val (.int (Int32.ofNat (3 * kk))), .val (.int ((Int32.ofNat (own_b64 qs ++ [(own_g0 ga)]).length) + (1 : Int32))), .val (.int ga), .val (.int (Int32.ofNat (4 * kk))), .unset, .unset, .unset, .unset] [(.int ((ga <<< ((4 : Int32) &&& 31)) &&& (63 : Int32))), (.ref TB), (.int (Int32.ofNat (own_b64 qs ++ [(own_g0 ga)]).length)), (.ref da)] rfl ?_
      rw [show ((Int32.ofNat (own_b64 qs ++ [(own_g0 ga)]).length) + (1 : Int32)) = (Int32.ofNat (own_b64 qs ++ [(own_g0 ga), (own_g1 ga 0)]).length) from (by rw [own_ofNat_succ, m2, m1])]
      have f1164 := (f1156.other W1160 (Nat.ne_of_lt (Nat.lt_of_lt_of_le TBlt ge_da)))
      refine own_caload C S1158 f1164 (own_M1 hga).1 (.int (own_g1 ga 0)) (own_M1 hga).2 (by decide +kernel) ?_
      refine own_seg C S1158 [(247, .i2b, 1)] (by decide +kernel) 248 #[.val (.ref a), .val (.ref sa), .val (.int 0), .val (.int (Int32.ofNat (qs ++ [ga]).length)), .val (.ref da), .val (.ref TB), .val (.int (Int32.ofNat (qs ++ [ga]).length)), .val (.int (Int32.ofNat (3 * kk))), .val (.int (Int32.ofNat (3 * kk))), .val (.int (Int32.ofNat (own_b64 qs ++ [(own_g0 ga), (own_g1 ga 0)]).length)), .val (.int ga), .val (.int (Int32.ofNat (4 * kk))), .unset, .unset, .unset, .unset] [(.int ((own_g1 ga 0).toInt8.toInt32)), (.int (Int32.ofNat (own_b64 qs ++ [(own_g0 ga)]).length)), (.ref da)] rfl ?_
      refine own_bastore C S1158 f1162 ⟨(own_ofNat_nn (by omega)).1, own_ofs (by omega) (by omega)⟩ (own_b64 qs ++ [(own_g0 ga)]).length (own_ofNat_nn (by omega)).2 (own_pdl (by omega)) ((own_g1 ga 0).toInt8.toInt32) (own_i2b2 _) ge_da (by decide +kernel) ?_
      intro T1165 h1167 S1166 W1168 f1169
      have f1170 : Arv Z h1167 da dk .byte (Int32.ofNat MM) (own_pd MM ((own_b64 qs ++ [(own_g0 ga), (own_g1 ga 0)]).map StrChars.lo8)) (.int 0) := by rw [← (own_pds (n := MM) (A := (own_b64 qs ++ [(own_g0 ga)])) (B := (own_b64 qs ++ [(own_g0 ga), (own_g1 ga 0)])) (v := (own_g1 ga 0)) (by omega) (by simp))]; exact f1169
      have e8 : own_b64 (qs ++ [ga]) = (own_b64 qs ++ [(own_g0 ga), (own_g1 ga 0)]) := by rw [hap]; rfl
      refine own_seg C S1166 [(249, .aload_n 0, 1)] (by decide +kernel) 250 #[.val (.ref a), .val (.ref sa), .val (.int 0), .val (.int (Int32.ofNat (qs ++ [ga]).length)), .val (.ref da), .val (.ref TB), .val (.int (Int32.ofNat (qs ++ [ga]).length)), .val (.int (Int32.ofNat (3 * kk))), .val (.int (Int32.ofNat (3 * kk))), .val (.int (Int32.ofNat (own_b64 qs ++ [(own_g0 ga), (own_g1 ga 0)]).length)), .val (.int ga), .val (.int (Int32.ofNat (4 * kk))), .unset, .unset, .unset, .unset] [(.ref a)] rfl ?_
      have f1171 := (Fld.other W1168 (Fld.other W1160 (p3.keep K1139 (ninS ne_a_da nin0)) (Or.inl ne_a_da)) (Or.inl ne_a_da))
      refine own_getF C S1166 (host := "") (Or.inl (own_wd hw 62 rfl)) Via.refl f1171 (by decide +kernel) ?_
      intro T1172 S1173
      refine own_if C S1173 (q := .eq) (o := 99) (by decide +kernel) 352 (by decide) (by decide) (fun (q1174 : (0 : Int32) = (0 : Int32)) => ?_) (fun (hq : ¬ (0 : Int32) = (0 : Int32)) => False.elim (by revert hq; decide))
      refine own_seg C S1173 [(352, .iload 9, 2)] (by decide +kernel) 354 #[.val (.ref a), .val (.ref sa), .val (.int 0), .val (.int (Int32.ofNat (qs ++ [ga]).length)), .val (.ref da), .val (.ref TB), .val (.int (Int32.ofNat (qs ++ [ga]).length)), .val (.int (Int32.ofNat (3 * kk))), .val (.int (Int32.ofNat (3 * kk))), .val (.int (Int32.ofNat (own_b64 qs ++ [(own_g0 ga), (own_g1 ga 0)]).length)), .val (.int ga), .val (.int (Int32.ofNat (4 * kk))), .unset, .unset, .unset, .unset] [(.int (Int32.ofNat (own_b64 qs ++ [(own_g0 ga), (own_g1 ga 0)]).length))] rfl ?_
      rw [show (Int32.ofNat (own_b64 qs ++ [(own_g0 ga), (own_g1 ga 0)]).length) = (Int32.ofNat MM) from (by rw [hME, e8])]
      rw [← e8] at f1170
      refine own_retI C S1173 (by decide +kernel) (by decide) (by decide) ?_
      exact ⟨rfl, ((((Keep.refl _ _).trans K1139 (allS (Or.inl (List.mem_of_getElem? (i := 0) rfl)) all0)).wr W1160 (Or.inl (List.mem_of_getElem? (i := 0) rfl))).wr W1168 (Or.inl (List.mem_of_getElem? (i := 0) rfl))), f1170⟩
    · have hsz : (qs ++ [ga, gb]).length = qs.length + 2 := by simp
      have hap2 : (own_b64 (qs ++ [ga, gb])).length = (own_b64 qs).length + 3 := by rw [hap, List.length_append]; rfl
      have hga : own_R ga := hR ga (by simp)
      have c1 : (qs ++ [ga, gb]) = qs ++ ga :: [gb] := by simp
      have l1 : (qs ++ [ga]).length = qs.length + 1 := by simp
      refine own_seg C S1148 [(189, .iload 6, 2), (191, .iload_n 3, 1)] (by decide +kernel) 192 #[.val (.ref a), .val (.ref sa), .val (.int 0), .val (.int (Int32.ofNat (qs ++ [ga, gb]).length)), .val (.ref da), .val (.ref TB), .val (.int (Int32.ofNat qs.length)), .val (.int (Int32.ofNat (3 * kk))), .val (.int (Int32.ofNat (3 * kk))), .val (.int (Int32.ofNat (own_b64 qs).length)), .val (.int (Int32.ofNat (3 * kk))), .val (.int (Int32.ofNat (4 * kk))), .unset, .unset, .unset, .unset] [(.int (Int32.ofNat (qs ++ [ga, gb]).length)), (.int (Int32.ofNat qs.length))] rfl ?_
      refine own_icmp C S1148 (q := .ge) (o := 160) (by decide +kernel) 352 (by decide) (by decide) (fun (hq : ¬ (Int32.ofNat qs.length) < (Int32.ofNat (qs ++ [ga, gb]).length)) => False.elim (hq (own_ofs (by omega) (by omega)))) (fun (q1175 : (Int32.ofNat qs.length) < (Int32.ofNat (qs ++ [ga, gb]).length)) => ?_)
      refine own_seg C S1148 [(195, .aload_n 1, 1), (196, .iload 6, 2), (198, .iinc 6 1, 3)] (by decide +kernel) 201 #[.val (.ref a), .val (.ref sa), .val (.int 0), .val (.int (Int32.ofNat (qs ++ [ga, gb]).length)), .val (.ref da), .val (.ref TB), .val (.int ((Int32.ofNat qs.length) + (1 : Int32))), .val (.int (Int32.ofNat (3 * kk))), .val (.int (Int32.ofNat (3 * kk))), .val (.int (Int32.ofNat (own_b64 qs).length)), .val (.int (Int32.ofNat (3 * kk))), .val (.int (Int32.ofNat (4 * kk))), .unset, .unset, .unset, .unset] [(.int (Int32.ofNat qs.length)), (.ref sa)] rfl ?_
      rw [show ((Int32.ofNat qs.length) + (1 : Int32)) = (Int32.ofNat (qs ++ [ga]).length) from own_snoc _ _]
      have f1176 := (sK.keep K1139 (ninS ne_sa_da nin0))
      refine own_baload C S1148 f1176 ⟨(own_ofNat_nn (by omega)).1, own_ofs (by omega) (by omega)⟩ (.int ga.toInt8.toInt32) (own_svget c1 (by omega)) (by decide +kernel) ?_
      refine own_seg C S1148 [(202, .sipush 255, 3), (205, .iand, 1), (206, .istore 10, 2)] (by decide +kernel) 208 #[.val (.ref a), .val (.ref sa), .val (.int 0), .val (.int (Int32.ofNat (qs ++ [ga, gb]).length)), .val (.ref da), .val (.ref TB), .val (.int (Int32.ofNat (qs ++ [ga]).length)), .val (.int (Int32.ofNat (3 * kk))), .val (.int (Int32.ofNat (3 * kk))), .val (.int (Int32.ofNat (own_b64 qs).length)), .val (.int (ga.toInt8.toInt32 &&& (255 : Int32))), .val (.int (Int32.ofNat (4 * kk))), .unset, .unset, .unset, .unset] [] rfl ?_
      rw [show (ga.toInt8.toInt32 &&& (255 : Int32)) = ga from own_k8 hga]
      have m1 : (own_b64 qs ++ [(own_g0 ga)]).length = (own_b64 qs).length + 1 := by simp
      have m2 : (own_b64 qs ++ [(own_g0 ga), (own_g1 ga gb)]).length = (own_b64 qs).length + 2 := by simp
      have m3 : (own_b64 qs ++ [(own_g0 ga), (own_g1 ga gb), (own_g2 gb 0)]).length = (own_b64 qs).length + 3 := by simp
      have hgb : own_R gb := hR gb (by simp)
      have c2 : (qs ++ [ga, gb]) = (qs ++ [ga]) ++ gb :: [] := by simp
      refine own_seg C S1148 [(208, .aload 4, 2), (210, .iload 9, 2), (212, .iinc 9 1, 3), (215, .aload 5, 2), (217, .iload 10, 2), (219, .iconst 2, 1), (220, .ishr, 1)] (by decide +kernel) 221 #[.val (.ref a), .val (.ref sa), .val (.int 0), .val (.int (Int32.ofNat (qs ++ [ga, gb]).length)), .val (.ref da), .val (.ref TB), .val (.int (Int32.ofNat (qs ++ [ga]).length)), .val (.int (Int32.ofNat (3 * kk))), .val (.int (Int32.ofNat (3 * kk))), .val (.int ((Int32.ofNat (own_b64 qs).length) + (1 : Int32))), .val (.int ga), .val (.int (Int32.ofNat (4 * kk))), .unset, .unset, .unset, .unset] [(.int (ga >>> ((2 : Int32) &&& 31))), (.ref TB), (.int (Int32.ofNat (own_b64 qs).length)), (.ref da)] rfl ?_
      rw [show ((Int32.ofNat (own_b64 qs).length) + (1 : Int32)) = (Int32.ofNat (own_b64 qs ++ [(own_g0 ga)]).length) from (by rw [own_ofNat_succ, m1])]
      have f1177 := (TK.keep K1139 (ninS (Nat.ne_of_lt (Nat.lt_of_lt_of_le TBlt ge_da)) nin0))
      refine own_caload C S1148 f1177 (own_M0 hga).1 (.int (own_g0 ga)) (own_M0 hga).2 (by decide +kernel) ?_
      refine own_seg C S1148 [(222, .i2b, 1)] (by decide +kernel) 223 #[.val (.ref a), .val (.ref sa), .val (.int 0), .val (.int (Int32.ofNat (qs ++ [ga, gb]).length)), .val (.ref da), .val (.ref TB), .val (.int (Int32.ofNat (qs ++ [ga]).length)), .val (.int (Int32.ofNat (3 * kk))), .val (.int (Int32.ofNat (3 * kk))), .val (.int (Int32.ofNat (own_b64 qs ++ [(own_g0 ga)]).length)), .val (.int ga), .val (.int (Int32.ofNat (4 * kk))), .unset, .unset, .unset, .unset] [(.int ((own_g0 ga).toInt8.toInt32)), (.int (Int32.ofNat (own_b64 qs).length)), (.ref da)] rfl ?_
      refine own_bastore C S1148 f1140 ⟨(own_ofNat_nn (by omega)).1, own_ofs (by omega) (by omega)⟩ (own_b64 qs).length (own_ofNat_nn (by omega)).2 (own_pdl (by omega)) ((own_g0 ga).toInt8.toInt32) (own_i2b2 _) ge_da (by decide +kernel) ?_
      intro T1178 h1180 S1179 W1181 f1182
      have f1183 : Arv Z h1180 da dk .byte (Int32.ofNat MM) (own_pd MM ((own_b64 qs ++ [(own_g0 ga)]).map StrChars.lo8)) (.int 0) := by rw [← (own_pds (n := MM) (A := (own_b64 qs)) (B := (own_b64 qs ++ [(own_g0 ga)])) (v := (own_g0 ga)) (by omega) (by simp))]; exact f1182
      refine own_seg C S1179 [(224, .iload 6, 2), (226, .iload_n 3, 1)] (by decide +kernel) 227 #[.val (.ref a), .val (.ref sa), .val (.int 0), .val (.int (Int32.ofNat (qs ++ [ga, gb]).length)), .val (.ref da), .val (.ref TB), .val (.int (Int32.ofNat (qs ++ [ga]).length)), .val (.int (Int32.ofNat (3 * kk))), .val (.int (Int32.ofNat (3 * kk))), .val (.int (Int32.ofNat (own_b64 qs ++ [(own_g0 ga)]).length)), .val (.int ga), .val (.int (Int32.ofNat (4 * kk))), .unset, .unset, .unset, .unset] [(.int (Int32.ofNat (qs ++ [ga, gb]).length)), (.int (Int32.ofNat (qs ++ [ga]).length))] rfl ?_
      refine own_icmp C S1179 (q := .ne) (o := 52) (by decide +kernel) 279 (by decide) (by decide) (fun (q1184 : ¬ (Int32.ofNat (qs ++ [ga]).length) = (Int32.ofNat (qs ++ [ga, gb]).length)) => ?_) (fun (hq : (Int32.ofNat (qs ++ [ga]).length) = (Int32.ofNat (qs ++ [ga, gb]).length)) => False.elim (absurd hq (fun q => absurd ((own_oNinj (by omega) (by omega)).mp q) (by omega))))
      refine own_seg C S1179 [(279, .aload_n 1, 1), (280, .iload 6, 2), (282, .iinc 6 1, 3)] (by decide +kernel) 285 #[.val (.ref a), .val (.ref sa), .val (.int 0), .val (.int (Int32.ofNat (qs ++ [ga, gb]).length)), .val (.ref da), .val (.ref TB), .val (.int ((Int32.ofNat (qs ++ [ga]).length) + (1 : Int32))), .val (.int (Int32.ofNat (3 * kk))), .val (.int (Int32.ofNat (3 * kk))), .val (.int (Int32.ofNat (own_b64 qs ++ [(own_g0 ga)]).length)), .val (.int ga), .val (.int (Int32.ofNat (4 * kk))), .unset, .unset, .unset, .unset] [(.int (Int32.ofNat (qs ++ [ga]).length)), (.ref sa)] rfl ?_
      rw [show ((Int32.ofNat (qs ++ [ga]).length) + (1 : Int32)) = (Int32.ofNat ((qs ++ [ga]) ++ [gb]).length) from own_snoc _ _]
      have f1185 := (f1176.other W1181 ne_sa_da)
      refine own_baload C S1179 f1185 ⟨(own_ofNat_nn (by omega)).1, own_ofs (by omega) (by omega)⟩ (.int gb.toInt8.toInt32) (own_svget c2 (by omega)) (by decide +kernel) ?_
      refine own_seg C S1179 [(286, .sipush 255, 3), (289, .iand, 1), (290, .istore 11, 2)] (by decide +kernel) 292 #[.val (.ref a), .val (.ref sa), .val (.int 0), .val (.int (Int32.ofNat (qs ++ [ga, gb]).length)), .val (.ref da), .val (.ref TB), .val (.int (Int32.ofNat ((qs ++ [ga]) ++ [gb]).length)), .val (.int (Int32.ofNat (3 * kk))), .val (.int (Int32.ofNat (3 * kk))), .val (.int (Int32.ofNat (own_b64 qs ++ [(own_g0 ga)]).length)), .val (.int ga), .val (.int (gb.toInt8.toInt32 &&& (255 : Int32))), .unset, .unset, .unset, .unset] [] rfl ?_
      rw [show (gb.toInt8.toInt32 &&& (255 : Int32)) = gb from own_k8 hgb]
      refine own_seg C S1179 [(292, .aload 4, 2), (294, .iload 9, 2), (296, .iinc 9 1, 3), (299, .aload 5, 2), (301, .iload 10, 2), (303, .iconst 4, 1), (304, .ishl, 1), (305, .bipush 63, 2), (307, .iand, 1), (308, .iload 11, 2), (310, .iconst 4, 1), (311, .ishr, 1), (312, .ior, 1)] (by decide +kernel) 313 #[.val (.ref a), .val (.ref sa), .val (.int 0), .val (.int (Int32.ofNat (qs ++ [ga, gb]).length)), .val (.ref da), .val (.ref TB), .val (.int (Int32.ofNat ((qs ++ [ga]) ++ [gb]).length)), .val (.int (Int32.ofNat (3 * kk))), .val (.int (Int32.ofNat (3 * kk))), .val (.int ((Int32.ofNat (own_b64 qs ++ [(own_g0 ga)]).length) + (1 : Int32))), .val (.int ga), .val (.int gb), .unset, .unset, .unset, .unset] [(.int (((ga <<< ((4 : Int32) &&& 31)) &&& (63 : Int32)) ||| (gb >>> ((4 : Int32) &&& 31)))), (.ref TB), (.int (Int32.ofNat (own_b64 qs ++ [(own_g0 ga)]).length)), (.ref da)] rfl ?_
      rw [show ((Int32.ofNat (own_b64 qs ++ [(own_g0 ga)]).length) + (1 : Int32)) = (Int32.ofNat (own_b64 qs ++ [(own_g0 ga), (own_g1 ga gb)]).length) from (by rw [own_ofNat_succ, m2, m1])]
      have f1186 := (f1177.other W1181 (Nat.ne_of_lt (Nat.lt_of_lt_of_le TBlt ge_da)))
      refine own_caload C S1179 f1186 (own_M2 hga hgb).1 (.int (own_g1 ga gb)) (own_M2 hga hgb).2 (by decide +kernel) ?_
      refine own_seg C S1179 [(314, .i2b, 1)] (by decide +kernel) 315 #[.val (.ref a), .val (.ref sa), .val (.int 0), .val (.int (Int32.ofNat (qs ++ [ga, gb]).length)), .val (.ref da), .val (.ref TB), .val (.int (Int32.ofNat ((qs ++ [ga]) ++ [gb]).length)), .val (.int (Int32.ofNat (3 * kk))), .val (.int (Int32.ofNat (3 * kk))), .val (.int (Int32.ofNat (own_b64 qs ++ [(own_g0 ga), (own_g1 ga gb)]).length)), .val (.int ga), .val (.int gb), .unset, .unset, .unset, .unset] [(.int ((own_g1 ga gb).toInt8.toInt32)), (.int (Int32.ofNat (own_b64 qs ++ [(own_g0 ga)]).length)), (.ref da)] rfl ?_
      refine own_bastore C S1179 f1183 ⟨(own_ofNat_nn (by omega)).1, own_ofs (by omega) (by omega)⟩ (own_b64 qs ++ [(own_g0 ga)]).length (own_ofNat_nn (by omega)).2 (own_pdl (by omega)) ((own_g1 ga gb).toInt8.toInt32) (own_i2b2 _) ge_da (by decide +kernel) ?_
      intro T1187 h1189 S1188 W1190 f1191
      have f1192 : Arv Z h1189 da dk .byte (Int32.ofNat MM) (own_pd MM ((own_b64 qs ++ [(own_g0 ga), (own_g1 ga gb)]).map StrChars.lo8)) (.int 0) := by rw [← (own_pds (n := MM) (A := (own_b64 qs ++ [(own_g0 ga)])) (B := (own_b64 qs ++ [(own_g0 ga), (own_g1 ga gb)])) (v := (own_g1 ga gb)) (by omega) (by simp))]; exact f1191
      refine own_seg C S1188 [(316, .aload 4, 2), (318, .iload 9, 2), (320, .iinc 9 1, 3), (323, .aload 5, 2), (325, .iload 11, 2), (327, .iconst 2, 1), (328, .ishl, 1), (329, .bipush 63, 2), (331, .iand, 1)] (by decide +kernel) 332 #[.val (.ref a), .val (.ref sa), .val (.int 0), .val (.int (Int32.ofNat (qs ++ [ga, gb]).length)), .val (.ref da), .val (.ref TB), .val (.int (Int32.ofNat ((qs ++ [ga]) ++ [gb]).length)), .val (.int (Int32.ofNat (3 * kk))), .val (.int (Int32.ofNat (3 * kk))), .val (.int ((Int32.ofNat (own_b64 qs ++ [(own_g0 ga), (own_g1 ga gb)]).length) + (1 : Int32))), .val (.int ga), .val (.int gb), .unset, .unset, .unset, .unset] [(.int ((gb <<< ((2 : Int32) &&& 31)) &&& (63 : Int32))), (.ref TB), (.int (Int32.ofNat (own_b64 qs ++ [(own_g0 ga), (own_g1 ga gb)]).length)), (.ref da)] rfl ?_
      rw [show ((Int32.ofNat (own_b64 qs ++ [(own_g0 ga), (own_g1 ga gb)]).length) + (1 : Int32)) = (Int32.ofNat (own_b64 qs ++ [(own_g0 ga), (own_g1 ga gb), (own_g2 gb 0)]).length) from (by rw [own_ofNat_succ, m3, m2])]
      have f1193 := (f1186.other W1190 (Nat.ne_of_lt (Nat.lt_of_lt_of_le TBlt ge_da)))
      refine own_caload C S1188 f1193 (own_M3 hgb).1 (.int (own_g2 gb 0)) (own_M3 hgb).2 (by decide +kernel) ?_
      refine own_seg C S1188 [(333, .i2b, 1)] (by decide +kernel) 334 #[.val (.ref a), .val (.ref sa), .val (.int 0), .val (.int (Int32.ofNat (qs ++ [ga, gb]).length)), .val (.ref da), .val (.ref TB), .val (.int (Int32.ofNat ((qs ++ [ga]) ++ [gb]).length)), .val (.int (Int32.ofNat (3 * kk))), .val (.int (Int32.ofNat (3 * kk))), .val (.int (Int32.ofNat (own_b64 qs ++ [(own_g0 ga), (own_g1 ga gb), (own_g2 gb 0)]).length)), .val (.int ga), .val (.int gb), .unset, .unset, .unset, .unset] [(.int ((own_g2 gb 0).toInt8.toInt32)), (.int (Int32.ofNat (own_b64 qs ++ [(own_g0 ga), (own_g1 ga gb)]).length)), (.ref da)] rfl ?_
      refine own_bastore C S1188 f1192 ⟨(own_ofNat_nn (by omega)).1, own_ofs (by omega) (by omega)⟩ (own_b64 qs ++ [(own_g0 ga), (own_g1 ga gb)]).length (own_ofNat_nn (by omega)).2 (own_pdl (by omega)) ((own_g2 gb 0).toInt8.toInt32) (own_i2b2 _) ge_da (by decide +kernel) ?_
      intro T1194 h1196 S1195 W1197 f1198
      have f1199 : Arv Z h1196 da dk .byte (Int32.ofNat MM) (own_pd MM ((own_b64 qs ++ [(own_g0 ga), (own_g1 ga gb), (own_g2 gb 0)]).map StrChars.lo8)) (.int 0) := by rw [← (own_pds (n := MM) (A := (own_b64 qs ++ [(own_g0 ga), (own_g1 ga gb)])) (B := (own_b64 qs ++ [(own_g0 ga), (own_g1 ga gb), (own_g2 gb 0)])) (v := (own_g2 gb 0)) (by omega) (by simp))]; exact f1198
      have e8 : own_b64 (qs ++ [ga, gb]) = (own_b64 qs ++ [(own_g0 ga), (own_g1 ga gb), (own_g2 gb 0)]) := by rw [hap]; rfl
      refine own_seg C S1195 [(335, .aload_n 0, 1)] (by decide +kernel) 336 #[.val (.ref a), .val (.ref sa), .val (.int 0), .val (.int (Int32.ofNat (qs ++ [ga, gb]).length)), .val (.ref da), .val (.ref TB), .val (.int (Int32.ofNat ((qs ++ [ga]) ++ [gb]).length)), .val (.int (Int32.ofNat (3 * kk))), .val (.int (Int32.ofNat (3 * kk))), .val (.int (Int32.ofNat (own_b64 qs ++ [(own_g0 ga), (own_g1 ga gb), (own_g2 gb 0)]).length)), .val (.int ga), .val (.int gb), .unset, .unset, .unset, .unset] [(.ref a)] rfl ?_
      have f1200 := (Fld.other W1197 (Fld.other W1190 (Fld.other W1181 (p3.keep K1139 (ninS ne_a_da nin0)) (Or.inl ne_a_da)) (Or.inl ne_a_da)) (Or.inl ne_a_da))
      refine own_getF C S1195 (host := "") (Or.inl (own_wd hw 62 rfl)) Via.refl f1200 (by decide +kernel) ?_
      intro T1201 S1202
      refine own_if C S1202 (q := .eq) (o := 13) (by decide +kernel) 352 (by decide) (by decide) (fun (q1203 : (0 : Int32) = (0 : Int32)) => ?_) (fun (hq : ¬ (0 : Int32) = (0 : Int32)) => False.elim (by revert hq; decide))
      refine own_seg C S1202 [(352, .iload 9, 2)] (by decide +kernel) 354 #[.val (.ref a), .val (.ref sa), .val (.int 0), .val (.int (Int32.ofNat (qs ++ [ga, gb]).length)), .val (.ref da), .val (.ref TB), .val (.int (Int32.ofNat ((qs ++ [ga]) ++ [gb]).length)), .val (.int (Int32.ofNat (3 * kk))), .val (.int (Int32.ofNat (3 * kk))), .val (.int (Int32.ofNat (own_b64 qs ++ [(own_g0 ga), (own_g1 ga gb), (own_g2 gb 0)]).length)), .val (.int ga), .val (.int gb), .unset, .unset, .unset, .unset] [(.int (Int32.ofNat (own_b64 qs ++ [(own_g0 ga), (own_g1 ga gb), (own_g2 gb 0)]).length))] rfl ?_
      rw [show (Int32.ofNat (own_b64 qs ++ [(own_g0 ga), (own_g1 ga gb), (own_g2 gb 0)]).length) = (Int32.ofNat MM) from (by rw [hME, e8])]
      rw [← e8] at f1199
      refine own_retI C S1202 (by decide +kernel) (by decide) (by decide) ?_
      exact ⟨rfl, (((((Keep.refl _ _).trans K1139 (allS (Or.inl (List.mem_of_getElem? (i := 0) rfl)) all0)).wr W1181 (Or.inl (List.mem_of_getElem? (i := 0) rfl))).wr W1190 (Or.inl (List.mem_of_getElem? (i := 0) rfl))).wr W1197 (Or.inl (List.mem_of_getElem? (i := 0) rfl))), f1199⟩
theorem own_eo (l : Launch) (Z : State) (a0 : Array Value) (hw : ∀ d ∈ tables_1, d.before a0 Z = true) (a : Addr) (nn : Nat) (h0 : Heap) (n0 : Nat) (z0 : n0 ≤ h0.size) (p0 : Exa Z h0 a "java/util/Base64$Encoder") (p1 : Fld Z h0 a "java/util/Base64$Encoder" "isURL" "Z" (.int 0)) (p2 : Fld Z h0 a "java/util/Base64$Encoder" "linemax" "I" (.int (-1 : Int32))) (p3 : Fld Z h0 a "java/util/Base64$Encoder" "doPadding" "Z" (.int 0)) (hn : nn ≤ 9) :
    own_MetH l Z (⟨"java/util/Base64$Encoder", "encodedOutLength", "(IZ)I"⟩ : MethodName) jdk_2452_method_2_code 5 (some .int) [((2 : Nat), (79 : Nat), (82 : Nat), (33 : Nat))] ({ frames := 1, cells := 0, slots := 0, locals := 15 } : Room) n0 #[(.ref a), (.int (Int32.ofNat nn)), (.int 1)] h0 (fun v h => v = some (.int (Int32.ofNat (own_M nn))) ∧ h = h0) := by
  refine own_metH (by decide +kernel) #[.val (.ref a), .val (.int (Int32.ofNat nn)), .val (.int 1), .unset, .unset] (fun m => by first | (simp [entryFrame, mkF, argsToLocals, Value.category]; done) | rfl) ?_
  intro p e s m below meth c T0 C S0
  have h3 := own_n3 hn
  refine own_seg C S0 [(0, .iconst 0, 1), (1, .istore_n 3, 1), (2, .aload_n 0, 1)] (by decide +kernel) 3 #[.val (.ref a), .val (.int (Int32.ofNat nn)), .val (.int 1), .val (.int 0), .unset] [(.ref a)] rfl ?_
  refine own_getF C S0 (host := "") (Or.inl (own_wd hw 62 rfl)) Via.refl p3 (by decide +kernel) ?_
  intro T1204 S1205
  refine own_if C S1205 (q := .eq) (o := 18) (by decide +kernel) 24 (by decide) (by decide) (fun (q1206 : (0 : Int32) = (0 : Int32)) => ?_) (fun (hq : ¬ (0 : Int32) = (0 : Int32)) => False.elim (by revert hq; decide))
  refine own_seg C S1205 [(24, .iload_n 1, 1), (25, .iconst 3, 1)] (by decide +kernel) 26 #[.val (.ref a), .val (.int (Int32.ofNat nn)), .val (.int 1), .val (.int 0), .unset] [(.int 3), (.int (Int32.ofNat nn))] rfl ?_
  refine own_irem C S1205 (by decide +kernel) (by decide) ?_
  rw [show ((Int32.ofNat nn) % (3 : Int32)) = (Int32.ofNat (nn % 3)) from h3.1]
  refine own_seg C S1205 [(27, .istore 4, 2), (29, .iconst 4, 1), (30, .iload_n 1, 1), (31, .iconst 3, 1)] (by decide +kernel) 32 #[.val (.ref a), .val (.int (Int32.ofNat nn)), .val (.int 1), .val (.int 0), .val (.int (Int32.ofNat (nn % 3)))] [(.int 3), (.int (Int32.ofNat nn)), (.int 4)] rfl ?_
  refine own_idiv C S1205 (by decide +kernel) (by decide) ?_
  rw [show ((Int32.ofNat nn) / (3 : Int32)) = (Int32.ofNat (nn / 3)) from h3.2.1]
  refine own_callS C S1205 (own_wd hw 234 rfl) (own_wd hw 235 rfl) (own_wd hw 185 rfl) (own_wd hw 236 rfl) (by decide) (own_Met.pay (own_mxc l Z a0 hw (nn / 3) h0 n0 z0 (by omega)) C 0 (own_wd hw 236 rfl) (own_wd hw 185 rfl) (by decide) (by decide)) (fun _ _ _ q => q.2) [(.int 4), (.int (Int32.ofNat (nn / 3)))] [] rfl own_pd11 rfl rfl rfl (Nat.le_of_ble_eq_true rfl) (by decide) (by decide) (by decide +kernel) ?_
  rintro T1208 h1209 v1210 L1211 S1212 ⟨⟨rfl, e1207⟩, -⟩
  rw [e1207] at S1212; clear e1207
  show own_Go p e below _ T1208 (mkF m 36 #[.val (.ref a), .val (.int (Int32.ofNat nn)), .val (.int 1), .val (.int 0), .val (.int (Int32.ofNat (nn % 3)))] [(.int (Int32.ofNat (4 * (nn / 3))))])
  refine own_seg C S1212 [(36, .iload 4, 2)] (by decide +kernel) 38 #[.val (.ref a), .val (.int (Int32.ofNat nn)), .val (.int 1), .val (.int 0), .val (.int (Int32.ofNat (nn % 3)))] [(.int (Int32.ofNat (nn % 3))), (.int (Int32.ofNat (4 * (nn / 3))))] rfl ?_
  refine own_if C S1212 (q := .ne) (o := 7) (by decide +kernel) 45 (by decide) (by decide) (fun (q1213 : ¬ (Int32.ofNat (nn % 3)) = (0 : Int32)) => ?_) (fun (q1214 : (Int32.ofNat (nn % 3)) = (0 : Int32)) => ?_)
  · refine own_seg C S1212 [(45, .iload 4, 2), (47, .iconst 1, 1), (48, .iadd, 1)] (by decide +kernel) 49 #[.val (.ref a), .val (.int (Int32.ofNat nn)), .val (.int 1), .val (.int 0), .val (.int (Int32.ofNat (nn % 3)))] [(.int ((Int32.ofNat (nn % 3)) + (1 : Int32))), (.int (Int32.ofNat (4 * (nn / 3))))] rfl ?_
    rw [show ((Int32.ofNat (nn % 3)) + (1 : Int32)) = (Int32.ofNat (nn % 3 + 1)) from own_ofNat_succ _]
    refine own_callS C S1212 (own_wd hw 237 rfl) (own_wd hw 238 rfl) (own_wd hw 185 rfl) (own_wd hw 239 rfl) (by decide) (own_Met.pay (own_axc l Z a0 hw (4 * (nn / 3)) (nn % 3 + 1) h0 n0 z0 (by omega) (by omega)) C 0 (own_wd hw 239 rfl) (own_wd hw 185 rfl) (by decide) (by decide)) (fun _ _ _ q => q.2) [(.int (Int32.ofNat (4 * (nn / 3)))), (.int (Int32.ofNat (nn % 3 + 1)))] [] rfl own_pd11 rfl rfl rfl (Nat.le_of_ble_eq_true rfl) (by decide) (by decide) (by decide +kernel) ?_
    rintro T1216 h1217 v1218 L1219 S1220 ⟨⟨rfl, e1215⟩, -⟩
    rw [e1215] at S1220; clear e1215
    show own_Go p e below _ T1216 (mkF m 52 #[.val (.ref a), .val (.int (Int32.ofNat nn)), .val (.int 1), .val (.int 0), .val (.int (Int32.ofNat (nn % 3)))] [(.int (Int32.ofNat ((4 * (nn / 3)) + (nn % 3 + 1))))])
    refine own_seg C S1220 [(52, .istore_n 3, 1), (53, .aload_n 0, 1)] (by decide +kernel) 54 #[.val (.ref a), .val (.int (Int32.ofNat nn)), .val (.int 1), .val (.int (Int32.ofNat ((4 * (nn / 3)) + (nn % 3 + 1)))), .val (.int (Int32.ofNat (nn % 3)))] [(.ref a)] rfl ?_
    refine own_getF C S1220 (host := "") (Or.inl (own_wd hw 70 rfl)) Via.refl p2 (by decide +kernel) ?_
    intro T1221 S1222
    refine own_if C S1222 (q := .le) (o := 22) (by decide +kernel) 79 (by decide) (by decide) (fun (q1223 : ¬ (0 : Int32) < (-1 : Int32)) => ?_) (fun (hq : (0 : Int32) < (-1 : Int32)) => False.elim (by revert hq; decide))
    refine own_seg C S1222 [(79, .goto 21, 3), (100, .iload_n 3, 1)] (by decide +kernel) 101 #[.val (.ref a), .val (.int (Int32.ofNat nn)), .val (.int 1), .val (.int (Int32.ofNat ((4 * (nn / 3)) + (nn % 3 + 1)))), .val (.int (Int32.ofNat (nn % 3)))] [(.int (Int32.ofNat ((4 * (nn / 3)) + (nn % 3 + 1))))] rfl ?_
    refine own_retI C S1222 (by decide +kernel) (by decide) (by decide) ?_
    exact ⟨(by unfold own_M; rw [if_neg (fun q => q1213 (h3.2.2.mpr q))]), rfl⟩
  · refine own_seg C S1212 [(41, .iconst 0, 1), (42, .goto 7, 3)] (by decide +kernel) 49 #[.val (.ref a), .val (.int (Int32.ofNat nn)), .val (.int 1), .val (.int 0), .val (.int (Int32.ofNat (nn % 3)))] [(.int 0), (.int (Int32.ofNat (4 * (nn / 3))))] rfl ?_
    show own_Go p e below _ T1208 (mkF m 49 #[.val (.ref a), .val (.int (Int32.ofNat nn)), .val (.int 1), .val (.int 0), .val (.int (Int32.ofNat (nn % 3)))] [(.int (Int32.ofNat 0)), (.int (Int32.ofNat (4 * (nn / 3))))])
    refine own_callS C S1212 (own_wd hw 237 rfl) (own_wd hw 238 rfl) (own_wd hw 185 rfl) (own_wd hw 239 rfl) (by decide) (own_Met.pay (own_axc l Z a0 hw (4 * (nn / 3)) 0 h0 n0 z0 (by omega) (by omega)) C 0 (own_wd hw 239 rfl) (own_wd hw 185 rfl) (by decide) (by decide)) (fun _ _ _ q => q.2) [(.int (Int32.ofNat (4 * (nn / 3)))), (.int (Int32.ofNat 0))] [] rfl own_pd11 rfl rfl rfl (Nat.le_of_ble_eq_true rfl) (by decide) (by decide) (by decide +kernel) ?_
    rintro T1225 h1226 v1227 L1228 S1229 ⟨⟨rfl, e1224⟩, -⟩
    rw [e1224] at S1229; clear e1224
    show own_Go p e below _ T1225 (mkF m 52 #[.val (.ref a), .val (.int (Int32.ofNat nn)), .val (.int 1), .val (.int 0), .val (.int (Int32.ofNat (nn % 3)))] [(.int (Int32.ofNat ((4 * (nn / 3)) + 0)))])
    refine own_seg C S1229 [(52, .istore_n 3, 1), (53, .aload_n 0, 1)] (by decide +kernel) 54 #[.val (.ref a), .val (.int (Int32.ofNat nn)), .val (.int 1), .val (.int (Int32.ofNat ((4 * (nn / 3)) + 0))), .val (.int (Int32.ofNat (nn % 3)))] [(.ref a)] rfl ?_
    refine own_getF C S1229 (host := "") (Or.inl (own_wd hw 70 rfl)) Via.refl p2 (by decide +kernel) ?_
    intro T1230 S1231
    refine own_if C S1231 (q := .le) (o := 22) (by decide +kernel) 79 (by decide) (by decide) (fun (q1232 : ¬ (0 : Int32) < (-1 : Int32)) => ?_) (fun (hq : (0 : Int32) < (-1 : Int32)) => False.elim (by revert hq; decide))
    refine own_seg C S1231 [(79, .goto 21, 3), (100, .iload_n 3, 1)] (by decide +kernel) 101 #[.val (.ref a), .val (.int (Int32.ofNat nn)), .val (.int 1), .val (.int (Int32.ofNat ((4 * (nn / 3)) + 0))), .val (.int (Int32.ofNat (nn % 3)))] [(.int (Int32.ofNat ((4 * (nn / 3)) + 0)))] rfl ?_
    refine own_retI C S1231 (by decide +kernel) (by decide) (by decide) ?_
    exact ⟨(by unfold own_M; rw [if_pos (h3.2.2.mp q1214)]), rfl⟩
theorem own_pd33 : parseMethodDescriptor "(IZ)I" = some ⟨[.int, .boolean], (some .int)⟩ := by decide +kernel
theorem own_pd34 : parseMethodDescriptor "([BII[B)I" = some ⟨[(.array .byte), .int, .int, (.array .byte)], (some .int)⟩ := by decide +kernel
theorem own_ec (l : Launch) (Z : State) (a0 : Array Value) (hw : ∀ d ∈ tables_1, d.before a0 Z = true) (G1 : Int32) (G3 : Value) (U8 : Addr) (TB : Addr) (TBk : ClassId) (a : Addr) (sa : Addr) (sk : ClassId) (qs : List Int32) (rs : List Int32) (kk : Nat) (h0 : Heap) (n0 : Nat) (z0 : n0 ≤ h0.size) (X00 : Old Z n0 h0) (TK : Arv Z h0 TB TBk .char (64 : Int32) own_T64v (.int 0)) (p0 : Exa Z h0 a "java/util/Base64$Encoder") (p1 : Fld Z h0 a "java/util/Base64$Encoder" "isURL" "Z" (.int 0)) (p2 : Fld Z h0 a "java/util/Base64$Encoder" "linemax" "I" (.int (-1 : Int32))) (p3 : Fld Z h0 a "java/util/Base64$Encoder" "doPadding" "Z" (.int 0)) (sK : Arv Z h0 sa sk .byte (Int32.ofNat (qs ++ rs).length) (own_sv (qs ++ rs)) (.int 0)) (O2 : Sta Z Z.heap "java/lang/String" "COMPACT_STRINGS" "Z" (.int G1)) (O4 : Sta Z Z.heap "jdk/internal/util/Preconditions" "SIOOBE_FORMATTER" "Ljava/util/function/BiFunction;" G3) (P5 : ¬ G1 = (0 : Int32)) (rG3 : G3.isRef = true) (OU1 : Sta Z Z.heap "java/nio/charset/StandardCharsets" "UTF_8" "Ljava/nio/charset/Charset;" (.ref U8)) (OU2 : Sta Z Z.heap "sun/nio/cs/UTF_8" "INSTANCE" "Lsun/nio/cs/UTF_8;" (.ref U8)) (OT : Sta Z Z.heap "java/util/Base64$Encoder" "toBase64" "[C" (.ref TB)) (TBlt : TB < n0) (hq3 : qs.length = 3 * kk) (hr3 : rs.length < 3) (h9 : (qs ++ rs).length ≤ 9) (hR : ∀ x ∈ (qs ++ rs), own_R x) :
    own_Met l Z (⟨"java/util/Base64$Encoder", "encode", "([B)[B"⟩ : MethodName) jdk_2452_method_3_code 5 (some (.array .byte)) ({ frames := 2, cells := 1, slots := 12, locals := 49 } : Room) n0 #[(.ref a), (.ref sa)] h0 (fun v h => ∃ r : Addr, ∃ rk : ClassId, v = some (.ref r) ∧ h0.size ≤ r ∧ Keep h0 h [] ∧ Arv Z h r rk .byte (Int32.ofNat (own_b64 (qs ++ rs)).length) (own_sv (own_b64 (qs ++ rs))) (.int 0) ∧ Exa Z h r "[B") := by
  refine own_met (by decide +kernel) #[.val (.ref a), .val (.ref sa), .unset, .unset, .unset] (fun m => by first | (simp [entryFrame, mkF, argsToLocals, Value.category]; done) | rfl) ?_
  intro p e s m below meth c T0 C S0
  have hbl := own_b64_len (L := qs) (R := rs) hq3 hr3
  have hB12 : (own_b64 (qs ++ rs)).length ≤ 12 := by rw [hbl.1]; unfold own_M; split <;> omega
  refine own_seg C S0 [(0, .aload_n 0, 1), (1, .aload_n 1, 1)] (by decide +kernel) 2 #[.val (.ref a), .val (.ref sa), .unset, .unset, .unset] [(.ref sa), (.ref a)] rfl ?_
  refine own_alen C S0 sK (by decide +kernel) ?_
  refine own_seg C S0 [(3, .iconst 1, 1)] (by decide +kernel) 4 #[.val (.ref a), .val (.ref sa), .unset, .unset, .unset] [(.int 1), (.int (Int32.ofNat (qs ++ rs).length)), (.ref a)] rfl ?_
  refine own_callV C S0 (own_wd hw 229 rfl) (own_decl (own_wd hw 230 rfl) (own_wd hw 233 rfl)) (own_wd hw 232 rfl) (own_wd hw 232 rfl) rfl (own_wd hw 230 rfl) (by decide) (own_MetH.pay (own_eo l Z a0 hw a ((qs ++ rs).length) h0 n0 z0 p0 p1 p2 p3 h9) C 0 (own_wd hw 233 rfl) (own_wd hw 56 rfl) (by decide) (by decide)) (fun _ _ _ q => q.2) p0 [(.int (Int32.ofNat (qs ++ rs).length)), (.int 1)] [] rfl own_pd33 rfl rfl rfl (Nat.le_of_ble_eq_true rfl) (by decide) (by decide) (by decide +kernel) ?_
  rintro T1234 h1235 v1236 L1237 S1238 ⟨⟨rfl, e1233⟩, -⟩
  rw [e1233] at S1238; clear e1233
  show own_Go p e below _ T1234 (mkF m 7 #[.val (.ref a), .val (.ref sa), .unset, .unset, .unset] [(.int (Int32.ofNat (own_M (qs ++ rs).length)))])
  rw [show (Int32.ofNat (own_M (qs ++ rs).length)) = (Int32.ofNat (own_b64 (qs ++ rs)).length) from (by rw [hbl.1])]
  refine own_seg C S1238 [(7, .istore_n 2, 1), (8, .iload_n 2, 1)] (by decide +kernel) 9 #[.val (.ref a), .val (.ref sa), .val (.int (Int32.ofNat (own_b64 (qs ++ rs)).length)), .unset, .unset] [(.int (Int32.ofNat (own_b64 (qs ++ rs)).length))] rfl ?_
  refine own_newPE C S1238 (aty := .byte) (ad := "[B") (by decide) (own_wd hw 23 rfl) (by decide +kernel) (own_ofNat_nn (by omega)).1 12 (by rw [(own_ofNat_nn (by omega)).2]; omega) (by decide) (by decide) (by decide) ?_
  intro T1239 h1241 a1242 k1243 S1240 g1244 E1245 f1246 x1247
  have f1248 : Arv Z h1241 a1242 k1243 .byte (Int32.ofNat (own_b64 (qs ++ rs)).length) (own_pd (own_b64 (qs ++ rs)).length (([] : List Int32).map StrChars.lo8)) (.int 0) := Arv.pad f1246 (pad_rep [] (.int 0) (own_b64 (qs ++ rs)).length)
  refine own_seg C S1240 [(11, .astore_n 3, 1), (12, .aload_n 0, 1), (13, .aload_n 1, 1), (14, .iconst 0, 1), (15, .aload_n 1, 1)] (by decide +kernel) 16 #[.val (.ref a), .val (.ref sa), .val (.int (Int32.ofNat (own_b64 (qs ++ rs)).length)), .val (.ref a1242), .unset] [(.ref sa), (.int 0), (.ref sa), (.ref a)] rfl ?_
  have f1249 := (sK.ext E1245)
  refine own_alen C S1240 f1249 (by decide +kernel) ?_
  refine own_seg C S1240 [(17, .aload_n 3, 1)] (by decide +kernel) 18 #[.val (.ref a), .val (.ref sa), .val (.int (Int32.ofNat (own_b64 (qs ++ rs)).length)), .val (.ref a1242), .unset] [(.ref a1242), (.int (Int32.ofNat (qs ++ rs).length)), (.int 0), (.ref sa), (.ref a)] rfl ?_
  have f1250 := (X00.ext E1245)
  have f1251 := (TK.ext E1245)
  have f1252 := (Exa.ext E1245 p0)
  have f1253 := (Fld.ext E1245 p1)
  have f1254 := (Fld.ext E1245 p2)
  have f1255 := (Fld.ext E1245 p3)
  have f1256 : n0 ≤ h1241.size := (Nat.le_trans z0 E1245.1)
  have g1257 : n0 ≤ a1242 := by rw [g1244]; exact z0
  have n1258 : sa ≠ a1242 := by rw [g1244]; exact Nat.ne_of_lt sK.lt
  have n1259 : a ≠ a1242 := by rw [g1244]; exact Nat.ne_of_lt p0.lt
  refine own_callP C S1240 (own_wd hw 240 rfl) (own_wd hw 241 rfl) (own_wd hw 243 rfl) (own_wd hw 242 rfl) (own_wd hw 244 rfl) (by decide) (own_Met.pay (own_ez l Z a0 hw G1 G3 U8 TB TBk a sa _ qs rs kk a1242 _ ((own_b64 (qs ++ rs)).length) h1241 n0 f1256 g1257 f1250 f1251 f1252 f1253 f1254 f1255 f1249 f1248 n1258 n1259 O2 O4 P5 rG3 OU1 OU2 OT TBlt hq3 hr3 h9 hR rfl) C 0 (own_wd hw 244 rfl) (own_wd hw 56 rfl) (by decide) (by decide)) (fun _ _ _ q => q.2) f1252 [(.ref sa), (.int 0), (.int (Int32.ofNat (qs ++ rs).length)), (.ref a1242)] [] rfl own_pd34 rfl rfl rfl (Nat.le_of_ble_eq_true rfl) (by decide) (by decide) (by decide +kernel) ?_
  rintro T1262 h1263 v1264 L1265 S1266 ⟨⟨rfl, K1260, f1261⟩, -⟩
  show own_Go p e below _ T1262 (mkF m 21 #[.val (.ref a), .val (.ref sa), .val (.int (Int32.ofNat (own_b64 (qs ++ rs)).length)), .val (.ref a1242), .unset] [(.int (Int32.ofNat (own_b64 (qs ++ rs)).length))])
  refine own_seg C S1266 [(21, .istore 4, 2), (23, .iload 4, 2), (25, .aload_n 3, 1)] (by decide +kernel) 26 #[.val (.ref a), .val (.ref sa), .val (.int (Int32.ofNat (own_b64 (qs ++ rs)).length)), .val (.ref a1242), .val (.int (Int32.ofNat (own_b64 (qs ++ rs)).length))] [(.ref a1242), (.int (Int32.ofNat (own_b64 (qs ++ rs)).length))] rfl ?_
  refine own_alen C S1266 f1261 (by decide +kernel) ?_
  refine own_icmp C S1266 (q := .eq) (o := 10) (by decide +kernel) 37 (by decide) (by decide) (fun (q1267 : (Int32.ofNat (own_b64 (qs ++ rs)).length) = (Int32.ofNat (own_b64 (qs ++ rs)).length)) => ?_) (fun (hq : ¬ (Int32.ofNat (own_b64 (qs ++ rs)).length) = (Int32.ofNat (own_b64 (qs ++ rs)).length)) => False.elim (hq rfl))
  refine own_seg C S1266 [(37, .aload_n 3, 1)] (by decide +kernel) 38 #[.val (.ref a), .val (.ref sa), .val (.int (Int32.ofNat (own_b64 (qs ++ rs)).length)), .val (.ref a1242), .val (.int (Int32.ofNat (own_b64 (qs ++ rs)).length))] [(.ref a1242)] rfl ?_
  refine own_retA C S1266 rfl rfl (by decide +kernel) (by decide) (by decide) ?_
  have f1268 : Arv Z h1263 a1242 k1243 .byte (Int32.ofNat (own_b64 (qs ++ rs)).length) (own_sv (own_b64 (qs ++ rs))) (.int 0) := by rw [← own_pd_full]; exact f1261
  have o1269 : h0.size ≤ a1242 := by rw [g1244]; exact (Nat.le_refl _)
  have f1270 := (x1247.keep K1260)
  exact ⟨a1242, k1243, rfl, o1269, (((Keep.refl _ _).ext E1245).trans K1260 (allS (Or.inr o1269) all0)), f1268, f1270⟩
theorem own_pd35 : parseMethodDescriptor "([B)[B" = some ⟨[(.array .byte)], (some (.array .byte))⟩ := by decide +kernel
theorem own_pd36 : parseMethodDescriptor "([BIII)V" = some ⟨[(.array .byte), .int, .int, .int], none⟩ := by decide +kernel
theorem own_es (l : Launch) (Z : State) (a0 : Array Value) (hw : ∀ d ∈ tables_1, d.before a0 Z = true) (G1 : Int32) (G3 : Value) (U8 : Addr) (TB : Addr) (TBk : ClassId) (a : Addr) (sa : Addr) (sk : ClassId) (qs : List Int32) (rs : List Int32) (kk : Nat) (h0 : Heap) (n0 : Nat) (z0 : n0 ≤ h0.size) (X00 : Old Z n0 h0) (TK : Arv Z h0 TB TBk .char (64 : Int32) own_T64v (.int 0)) (p0 : Exa Z h0 a "java/util/Base64$Encoder") (p1 : Fld Z h0 a "java/util/Base64$Encoder" "isURL" "Z" (.int 0)) (p2 : Fld Z h0 a "java/util/Base64$Encoder" "linemax" "I" (.int (-1 : Int32))) (p3 : Fld Z h0 a "java/util/Base64$Encoder" "doPadding" "Z" (.int 0)) (sK : Arv Z h0 sa sk .byte (Int32.ofNat (qs ++ rs).length) (own_sv (qs ++ rs)) (.int 0)) (O2 : Sta Z Z.heap "java/lang/String" "COMPACT_STRINGS" "Z" (.int G1)) (O4 : Sta Z Z.heap "jdk/internal/util/Preconditions" "SIOOBE_FORMATTER" "Ljava/util/function/BiFunction;" G3) (P5 : ¬ G1 = (0 : Int32)) (rG3 : G3.isRef = true) (OU1 : Sta Z Z.heap "java/nio/charset/StandardCharsets" "UTF_8" "Ljava/nio/charset/Charset;" (.ref U8)) (OU2 : Sta Z Z.heap "sun/nio/cs/UTF_8" "INSTANCE" "Lsun/nio/cs/UTF_8;" (.ref U8)) (OT : Sta Z Z.heap "java/util/Base64$Encoder" "toBase64" "[C" (.ref TB)) (TBlt : TB < n0) (hq3 : qs.length = 3 * kk) (hr3 : rs.length < 3) (h9 : (qs ++ rs).length ≤ 9) (hR : ∀ x ∈ (qs ++ rs), own_R x) (h1 : 1 ≤ (qs ++ rs).length) :
    own_Met l Z (⟨"java/util/Base64$Encoder", "encodeToString", "([B)Ljava/lang/String;"⟩ : MethodName) jdk_2452_method_5_code 3 (some (.object "java/lang/String")) ({ frames := 3, cells := 3, slots := 28, locals := 65 } : Room) n0 #[(.ref a), (.ref sa)] h0 (fun v h => ∃ x : Addr, ∃ r : Addr, ∃ rk : ClassId, v = some (.ref x) ∧ h0.size ≤ x ∧ h0.size ≤ r ∧ Keep h0 h [] ∧ Exa Z h x "java/lang/String" ∧ Fld Z h x "java/lang/String" "coder" "B" (.int 0) ∧ Fld Z h x "java/lang/String" "value" "[B" (.ref r) ∧ Arv Z h r rk .byte (Int32.ofNat (own_b64 (qs ++ rs)).length) (own_sv (own_b64 (qs ++ rs))) (.int 0)) := by
  refine own_met (by decide +kernel) #[.val (.ref a), .val (.ref sa), .unset] (fun m => by first | (simp [entryFrame, mkF, argsToLocals, Value.category]; done) | rfl) ?_
  intro p e s m below meth c T0 C S0
  have hbl := own_b64_len (L := qs) (R := rs) hq3 hr3
  have hB12 : (own_b64 (qs ++ rs)).length ≤ 12 ∧ 1 ≤ (own_b64 (qs ++ rs)).length := by rw [hbl.1]; unfold own_M; split <;> omega
  refine own_seg C S0 [(0, .aload_n 0, 1), (1, .aload_n 1, 1)] (by decide +kernel) 2 #[.val (.ref a), .val (.ref sa), .unset] [(.ref sa), (.ref a)] rfl ?_
  refine own_callV C S0 (own_wd hw 224 rfl) (own_wd hw 225 rfl) (own_wd hw 227 rfl) (own_wd hw 227 rfl) rfl (own_wd hw 226 rfl) (by decide) (own_Met.pay (own_ec l Z a0 hw G1 G3 U8 TB TBk a sa _ qs rs kk h0 n0 z0 X00 TK p0 p1 p2 p3 sK O2 O4 P5 rG3 OU1 OU2 OT TBlt hq3 hr3 h9 hR) C 0 (own_wd hw 228 rfl) (own_wd hw 56 rfl) (by decide) (by decide)) (fun _ _ _ q => q.2) p0 [(.ref sa)] [] rfl own_pd35 rfl rfl rfl (Nat.le_of_ble_eq_true rfl) (by decide) (by decide) (by decide +kernel) ?_
  rintro T1277 h1278 v1279 L1280 S1281 ⟨⟨a1271, k1272, rfl, g1273, K1274, f1275, f1276⟩, -⟩
  show own_Go p e below _ T1277 (mkF m 5 #[.val (.ref a), .val (.ref sa), .unset] [(.ref a1271)])
  refine own_seg C S1281 [(5, .astore_n 2, 1)] (by decide +kernel) 6 #[.val (.ref a), .val (.ref sa), .val (.ref a1271)] [] rfl ?_
  refine own_new C S1281 (own_wd hw 252 rfl) (own_wd hw 5 rfl) (own_wd hw 6 rfl) (by decide +kernel) (by decide) (by decide) ?_
  intro T1282 h1284 a1285 S1283 g1286 E1287 x1288 D1289
  have f1290 : Fld Z h1284 a1285 "java/lang/String" "coder" "B" (.int 0) := D1289 (ty := .byte) (Or.inr (own_wd hw 31 rfl)) own_fd1
  have f1291 : Fld Z h1284 a1285 "java/lang/String" "value" "[B" .null := D1289 (ty := (.array .byte)) (Or.inr (own_wd hw 33 rfl)) own_fd0
  refine own_seg C S1283 [(9, .dup, 1), (10, .aload_n 2, 1), (11, .iconst 0, 1), (12, .iconst 0, 1), (13, .aload_n 2, 1)] (by decide +kernel) 14 #[.val (.ref a), .val (.ref sa), .val (.ref a1271)] [(.ref a1271), (.int 0), (.int 0), (.ref a1271), (.ref a1285), (.ref a1285)] rfl ?_
  have f1292 := (f1275.ext E1287)
  refine own_alen C S1283 f1292 (by decide +kernel) ?_
  have f1293 := ((X00.keep K1274 all0).ext E1287)
  have f1294 := (Exa.ext E1287 f1276)
  have f1295 : n0 ≤ h1284.size := (Nat.le_trans (Nat.le_trans z0 K1274.1) E1287.1)
  have f1296 : n0 ≤ h1278.size := (Nat.le_trans z0 K1274.1)
  have g1297 : n0 ≤ a1285 := by rw [g1286]; exact f1296
  have n1298 : a1271 ≠ a1285 := by rw [g1286]; exact Nat.ne_of_lt f1275.lt
  refine own_callI C S1283 rfl (own_wd hw 253 rfl) (own_wd hw 254 rfl) (own_wd hw 255 rfl) (by decide) (own_Met.pay (own_sib3 l Z a0 hw G1 G3 a1285 a1271 _ (Int32.ofNat (own_b64 (qs ++ rs)).length) _ h1284 n0 f1295 g1297 f1293 x1288 f1291 f1290 f1292 f1294 n1298 O2 O4 P5 rG3 ((own_ofNat_nn (by omega)).1) (fun q => absurd ((own_oNinj (b := 0) (by omega) (by omega)).mp q) (by omega)) (by rw [(own_ofNat_nn (by omega)).2]; omega)) C 1 (own_wd hw 255 rfl) (own_wd hw 6 rfl) (by decide) (by decide)) (fun _ _ _ q => q.2) [(.ref a1271), (.int 0), (.int 0), (.int (Int32.ofNat (own_b64 (qs ++ rs)).length))] [(.ref a1285)] rfl own_pd36 rfl rfl rfl (Nat.le_of_ble_eq_true rfl) (by decide) (by decide) (by decide +kernel) ?_
  rintro T1307 h1308 v1309 L1310 S1311 ⟨⟨a1299, k1300, rfl, g1301, K1302, f1303, f1304, f1305, f1306⟩, -⟩
  show own_Go p e below _ T1307 (mkF m 18 #[.val (.ref a), .val (.ref sa), .val (.ref a1271)] [(.ref a1285)])
  refine own_retA C S1311 rfl rfl (by decide +kernel) (by decide) (by decide) ?_
  have o1313 : h0.size ≤ h1278.size := (Nat.le_trans (Nat.le_refl _) K1274.1)
  have o1312 : h0.size ≤ a1285 := by rw [g1286]; exact o1313
  have o1315 : h0.size ≤ h1284.size := (Nat.le_trans o1313 E1287.1)
  have o1314 : h0.size ≤ a1299 := Nat.le_trans o1315 g1301
  exact ⟨a1285, a1299, k1300, rfl, o1312, o1314, ((((Keep.refl _ _).trans K1274 all0).ext E1287).trans K1302 (allS (Or.inr o1312) all0)), f1303, f1304, f1305, f1306⟩
theorem own_pd37 : parseMethodDescriptor "()Ljava/util/Base64$Encoder;" = some ⟨[], (some (.object "java/util/Base64$Encoder"))⟩ := by decide +kernel
theorem own_pd38 : parseMethodDescriptor "()V" = some ⟨[], none⟩ := by decide +kernel
theorem own_pd39 : parseMethodDescriptor "(Ljava/lang/String;)Ljava/lang/StringBuilder;" = some ⟨[(.object "java/lang/String")], (some (.object "java/lang/StringBuilder"))⟩ := by decide +kernel
theorem own_pd40 : parseMethodDescriptor "()Ljava/lang/String;" = some ⟨[], (some (.object "java/lang/String"))⟩ := by decide +kernel
theorem own_pd41 : parseMethodDescriptor "(Ljava/nio/charset/Charset;)[B" = some ⟨[(.object "java/nio/charset/Charset")], (some (.array .byte))⟩ := by decide +kernel
theorem own_pd42 : parseMethodDescriptor "([B)Ljava/lang/String;" = some ⟨[(.array .byte)], (some (.object "java/lang/String"))⟩ := by decide +kernel
theorem own_of (l : Launch) (Z : State) (a0 : Array Value) (hw : ∀ d ∈ tables_1, d.before a0 Z = true) (hEL : EW Z a0 own_EL) (wS : ∀ a ∈ Bundle.stringAtoms, a.before a0 Z = true) (G1 : Int32) (G3 : Value) (U8 : Addr) (TB : Addr) (TBk : ClassId) (EN : Addr) (x : Addr) (xt : Addr) (xk : ClassId) (xcs : List Int32) (y : Addr) (yt : Addr) (yk : ClassId) (ycs : List Int32) (h0 : Heap) (n0 : Nat) (z0 : n0 ≤ h0.size) (X00 : Old Z n0 h0) (xE : Exa Z h0 x "java/lang/String") (xV : Fld Z h0 x "java/lang/String" "value" "[B" (.ref xt)) (xC : Fld Z h0 x "java/lang/String" "coder" "B" (.int 0)) (xK : Arv Z h0 xt xk .byte (Int32.ofNat (xcs).length) (own_sv xcs) (.int 0)) (yE : Exa Z h0 y "java/lang/String") (yV : Fld Z h0 y "java/lang/String" "value" "[B" (.ref yt)) (yC : Fld Z h0 y "java/lang/String" "coder" "B" (.int 0)) (yK : Arv Z h0 yt yk .byte (Int32.ofNat (ycs).length) (own_sv ycs) (.int 0)) (TK : Arv Z h0 TB TBk .char (64 : Int32) own_T64v (.int 0)) (q0 : Exa Z h0 EN "java/util/Base64$Encoder") (q1 : Fld Z h0 EN "java/util/Base64$Encoder" "isURL" "Z" (.int 0)) (q2 : Fld Z h0 EN "java/util/Base64$Encoder" "newline" "[B" .null) (q3 : Fld Z h0 EN "java/util/Base64$Encoder" "linemax" "I" (.int (-1 : Int32))) (q4 : Fld Z h0 EN "java/util/Base64$Encoder" "doPadding" "Z" (.int 1)) (O2 : Sta Z Z.heap "java/lang/String" "COMPACT_STRINGS" "Z" (.int G1)) (O4 : Sta Z Z.heap "jdk/internal/util/Preconditions" "SIOOBE_FORMATTER" "Ljava/util/function/BiFunction;" G3) (P5 : ¬ G1 = (0 : Int32)) (rG3 : G3.isRef = true) (xhp : ∀ c ∈ xcs, ¬ c < 0 ∧ ¬ (255 : Int32) < c) (xhl : xcs.length ≤ 2) (yhp : ∀ c ∈ ycs, ¬ c < 0 ∧ ¬ (255 : Int32) < c) (yhl : ycs.length ≤ 2) (OU1 : Sta Z Z.heap "java/nio/charset/StandardCharsets" "UTF_8" "Ljava/nio/charset/Charset;" (.ref U8)) (OU2 : Sta Z Z.heap "sun/nio/cs/UTF_8" "INSTANCE" "Lsun/nio/cs/UTF_8;" (.ref U8)) (OT : Sta Z Z.heap "java/util/Base64$Encoder" "toBase64" "[C" (.ref TB)) (TBlt : TB < n0) (OE : Sta Z Z.heap "java/util/Base64$Encoder" "RFC4648" "Ljava/util/Base64$Encoder;" (.ref EN)) (ENlt : EN < n0) :
    own_MetW l Z own_EL (⟨"com/example/exact_rest/exactrest/NodeIds", "of", "(Ljava/lang/String;Ljava/lang/String;)Ljava/lang/String;"⟩ : MethodName) prog_10_method_2_code 2 (some (.object "java/lang/String")) ({ frames := 6, cells := 12, slots := 148, locals := 92 } : Room) n0 #[(.ref x), (.ref y)] h0 [] (fun v h => ∃ x2 : Addr, ∃ r : Addr, ∃ rk : ClassId, v = some (.ref x2) ∧ h0.size ≤ x2 ∧ h0.size ≤ r ∧ Keep h0 h [] ∧ Exa Z h x2 "java/lang/String" ∧ Fld Z h x2 "java/lang/String" "coder" "B" (.int 0) ∧ Fld Z h x2 "java/lang/String" "value" "[B" (.ref r) ∧ Arv Z h r rk .byte (Int32.ofNat (own_b64 (own_u8 (((([] : List Int32) ++ xcs) ++ ([58] : List Int32)) ++ ycs))).length) (own_sv (own_b64 (own_u8 (((([] : List Int32) ++ xcs) ++ ([58] : List Int32)) ++ ycs)))) (.int 0)) := by
  refine own_metW hEL wS (by decide +kernel) #[.val (.ref x), .val (.ref y)] (fun m => by first | (simp [entryFrame, mkF, argsToLocals, Value.category]; done) | rfl) ?_
  intro p e s m below meth c T0 CW SW0
  refine own_lift CW SW0 ?_
  intro vm1322 C S1323 rb1324
  refine own_callS C S1323 (own_wd hw 51 rfl) (own_wd hw 52 rfl) (own_wd hw 53 rfl) (own_wd hw 54 rfl) (by decide) (own_Met.pay (own_ge l Z a0 hw EN h0 n0 z0 X00 OE) C 0 (own_wd hw 54 rfl) (own_wd hw 53 rfl) (by decide) (by decide)) (fun _ _ _ q => q.2) [] [] rfl own_pd37 rfl rfl rfl (Nat.le_of_ble_eq_true rfl) (by decide) (by decide) (by decide +kernel) ?_
  rintro T1317 h1318 v1319 L1320 S1321 ⟨⟨rfl, e1316⟩, -⟩
  rw [e1316] at S1321; clear e1316
  show own_Go p e below _ T1317 (mkF m 3 #[.val (.ref x), .val (.ref y)] [(.ref EN)])
  refine own_callV C S1321 (own_wd hw 57 rfl) (own_wd hw 58 rfl) (own_wd hw 60 rfl) (own_wd hw 60 rfl) rfl (own_wd hw 59 rfl) (by decide) (own_Met.pay (own_wp l Z a0 hw EN h0 n0 z0 q0 q1 q2 q3 q4) C 0 (own_wd hw 61 rfl) (own_wd hw 56 rfl) (by decide) (by decide)) (fun _ _ _ q => q.2) q0 [] [] rfl own_pd37 rfl rfl rfl (Nat.le_of_ble_eq_true rfl) (by decide) (by decide) (by decide +kernel) ?_
  rintro T1333 h1334 v1335 L1336 S1337 ⟨⟨a1325, rfl, g1326, K1327, f1328, f1329, f1330, f1331, f1332⟩, -⟩
  show own_Go p e below _ T1333 (mkF m 6 #[.val (.ref x), .val (.ref y)] [(.ref a1325)])
  refine own_new C S1337 (own_wd hw 77 rfl) (own_wd hw 78 rfl) (own_wd hw 79 rfl) (by decide +kernel) (by decide) (by decide) ?_
  intro T1338 h1340 a1341 S1339 g1342 E1343 x1344 D1345
  have f1346 : Fld Z h1340 a1341 "java/lang/AbstractStringBuilder" "value" "[B" .null := D1345 (ty := (.array .byte)) (Or.inl (own_wd hw 92 rfl)) own_fd0
  have f1347 : Fld Z h1340 a1341 "java/lang/AbstractStringBuilder" "coder" "B" (.int 0) := D1345 (ty := .byte) (Or.inl (own_wd hw 94 rfl)) own_fd1
  have f1348 : Fld Z h1340 a1341 "java/lang/AbstractStringBuilder" "count" "I" (.int 0) := D1345 (ty := .int) (Or.inl (own_wd hw 116 rfl)) own_fd2
  refine own_seg C S1339 [(9, .dup, 1)] (by decide +kernel) 10 #[.val (.ref x), .val (.ref y)] [(.ref a1341), (.ref a1341), (.ref a1325)] rfl ?_
  have f1349 := ((X00.keep K1327 all0).ext E1343)
  have f1350 : n0 ≤ h1340.size := (Nat.le_trans (Nat.le_trans z0 K1327.1) E1343.1)
  have f1351 : n0 ≤ h1334.size := (Nat.le_trans z0 K1327.1)
  have g1352 : n0 ≤ a1341 := by rw [g1342]; exact f1351
  refine own_callI C S1339 rfl (own_wd hw 80 rfl) (own_wd hw 81 rfl) (own_wd hw 82 rfl) (by decide) (own_Met.pay (own_sbI l Z a0 hw G1 G3 a1341 h1340 n0 f1350 g1352 f1349 x1344 f1346 f1347 f1348 O2 O4 P5 rG3) C 2 (own_wd hw 82 rfl) (own_wd hw 79 rfl) (by decide) (by decide)) (fun _ _ _ q => q.2) [] [(.ref a1341), (.ref a1325)] rfl own_pd38 rfl rfl rfl (Nat.le_of_ble_eq_true rfl) (by decide) (by decide) (by decide +kernel) ?_
  rintro T1362 h1363 v1364 L1365 S1366 ⟨⟨a1353, k1354, rfl, g1355, K1356, f1357, f1358, f1359, f1360, f1361⟩, -⟩
  show own_Go p e below _ T1362 (mkF m 13 #[.val (.ref x), .val (.ref y)] [(.ref a1341), (.ref a1325)])
  have f1367 : Arv Z h1363 a1353 k1354 .byte (16 : Int32) (own_bv ([] : List Int32)) (.int 0) := f1361
  have f1368 : Fld Z h1363 a1341 "java/lang/AbstractStringBuilder" "count" "I" (.int (Int32.ofNat ([] : List Int32).length)) := f1360
  refine own_seg C S1366 [(13, .aload_n 0, 1)] (by decide +kernel) 14 #[.val (.ref x), .val (.ref y)] [(.ref x), (.ref a1341), (.ref a1325)] rfl ?_
  have f1369 := (f1349.keep K1356 (allS g1352 all0))
  have f1370 := ((Exa.ext E1343 (xE.keep K1327)).keep K1356)
  have f1371 : x < h1334.size := (Nat.lt_of_lt_of_le xE.lt K1327.1)
  have n1372 : x ≠ a1341 := by rw [g1342]; exact Nat.ne_of_lt f1371
  have f1373 := ((Fld.ext E1343 (xV.keep K1327 nin0)).keep K1356 (ninS n1372 nin0))
  have f1374 := ((Fld.ext E1343 (xC.keep K1327 nin0)).keep K1356 (ninS n1372 nin0))
  have f1375 : xt < h1334.size := (Nat.lt_of_lt_of_le xK.lt K1327.1)
  have n1376 : xt ≠ a1341 := by rw [g1342]; exact Nat.ne_of_lt f1375
  have f1377 := (((xK.keep K1327 nin0).ext E1343).keep K1356 (ninS n1376 nin0))
  have f1378 : n0 ≤ h1363.size := (Nat.le_trans f1350 K1356.1)
  have g1379 : n0 ≤ a1353 := Nat.le_trans f1350 g1355
  have f1380 : xt < h1340.size := (Nat.lt_of_lt_of_le f1375 E1343.1)
  have n1381 : xt ≠ a1353 := Nat.ne_of_lt (Nat.lt_of_lt_of_le f1380 g1355)
  have f1382 : x < h1340.size := (Nat.lt_of_lt_of_le f1371 E1343.1)
  have n1383 : x ≠ a1353 := Nat.ne_of_lt (Nat.lt_of_lt_of_le f1382 g1355)
  have n1384 : a1341 ≠ a1353 := Nat.ne_of_lt (Nat.lt_of_lt_of_le f1346.lt g1355)
  refine own_callV C S1366 (own_wd hw 95 rfl) (own_wd hw 96 rfl) (own_wd hw 98 rfl) (own_wd hw 98 rfl) rfl (own_wd hw 97 rfl) (by decide) (own_Met.pay (own_sbA l Z a0 hw G1 G3 x _ _ _ _ xcs a1341 _ _ _ _ _ (own_bv (([] : List Int32) ++ xcs)) h1363 n0 f1378 g1352 g1379 f1369 f1370 f1373 f1374 f1377 f1357 f1358 f1359 f1368 f1367 n1381 n1376 n1372 n1383 (Ne.symm n1384) O2 O4 P5 rG3 (own_codG xhp) xhp (Nat.le_trans xhl (by decide)) (own_apH (b := ([] : List Int32)) (x := xcs) (by first | omega | (simp only [List.length_append, List.length_cons, List.length_nil]; omega))) ((own_ofNat_nn (by first | omega | (simp only [List.length_append, List.length_cons, List.length_nil]; omega))).1) ((own_ofNat_nn (by first | omega | (simp only [List.length_append, List.length_cons, List.length_nil]; omega))).1) (own_ap5 (b := ([] : List Int32)) (x := xcs) (by first | omega | (simp only [List.length_append, List.length_cons, List.length_nil]; omega))) (own_apL (b := ([] : List Int32)) (x := xcs) (by first | omega | (simp only [List.length_append, List.length_cons, List.length_nil]; omega))) (own_apU (b := ([] : List Int32)) (x := xcs) (by first | omega | (simp only [List.length_append, List.length_cons, List.length_nil]; omega)))) C 1 (own_wd hw 99 rfl) (own_wd hw 79 rfl) (by decide) (by decide)) (fun _ _ _ q => q.2) f1357 [(.ref x)] [(.ref a1325)] rfl own_pd39 rfl rfl rfl (Nat.le_of_ble_eq_true rfl) (by decide) (by decide) (by decide +kernel) ?_
  rintro T1391 h1392 v1393 L1394 S1395 ⟨⟨rfl, K1385, f1386, f1387, f1388, f1389, f1390⟩, -⟩
  have f1396 : Fld Z h1392 a1341 "java/lang/AbstractStringBuilder" "count" "I" (.int (Int32.ofNat (([] : List Int32) ++ xcs).length)) := by rw [← own_cntA]; exact f1389
  show own_Go p e below _ T1391 (mkF m 17 #[.val (.ref x), .val (.ref y)] [(.ref a1341), (.ref a1325)])
  have o1398 : h0.size ≤ h1334.size := (Nat.le_trans (Nat.le_refl _) K1327.1)
  have o1397 : h0.size ≤ a1341 := by rw [g1342]; exact o1398
  have o1400 : h0.size ≤ h1340.size := (Nat.le_trans o1398 E1343.1)
  have o1399 : h0.size ≤ a1353 := Nat.le_trans o1400 g1355
  have f1401 : a1353 < h1392.size := (Nat.lt_of_lt_of_le f1367.lt K1385.1)
  have f1402 : a1341 < h1392.size := (Nat.lt_of_lt_of_le (Nat.lt_of_lt_of_le f1346.lt K1356.1) K1385.1)
  have o1403 : h0.size ≤ a1325 := Nat.le_trans (Nat.le_refl _) g1326
  have f1404 : a1325 < h1392.size := (Nat.lt_of_lt_of_le (Nat.lt_of_lt_of_le (Nat.lt_of_lt_of_le f1328.lt E1343.1) K1356.1) K1385.1)
  have SW1405 := rb1324 _ _ _ _ [] [a1325, a1341, a1353] S1395 (((((Keep.refl _ _).trans K1327 all0).ext E1343).trans K1356 (allS (Or.inr o1397) all0)).trans K1385 (allS (Or.inr o1397) (allS (Or.inr o1399) all0))) all0 (allS ⟨o1403, f1404⟩ (allS ⟨o1397, f1402⟩ (allS ⟨o1399, f1401⟩ all0)))
  refine own_ldcWE CW SW1405 (own_wd hw 142 rfl) (List.mem_of_getElem? (i := 0) rfl) (z := (1 : Int32)) (vs := [(.int 58)]) ⟨by decide, by decide⟩ (by decide) rfl (by decide +kernel) 4 (by decide) (by decide) (by decide) (by decide) ?_
  intro T1406 h1407 a1408 b1409 k1410 SW1411 E1412 x1413 f1414 f1415 f1416 ne1417 x1418
  have hp1419 : ∀ c ∈ ([58] : List Int32), ¬ c < 0 ∧ ¬ (255 : Int32) < c := by decide
  have hcd1420 : StrChars.Road.CodA ([58] : List Int32) 0 (1 : Int32) [(.int 58)] := StrChars.Road.codOf (cs := ([58] : List Int32)) (n := 1) rfl (fun c hc => (hp1419 c hc).2)
  have f1421 : Arv Z h1407 b1409 k1410 .byte (Int32.ofNat (([58] : List Int32)).length) (own_sv ([58] : List Int32)) (.int 0) := f1416
  have f1422 := ((f1369.keep K1385 (allS g1352 (allS g1379 all0))).ext E1412)
  have f1423 := (Exa.ext E1412 f1386)
  have f1424 := (Fld.ext E1412 f1387)
  have f1425 := (Fld.ext E1412 f1388)
  have f1426 := (Fld.ext E1412 f1396)
  have f1427 := (f1390.ext E1412)
  have f1428 : n0 ≤ h1407.size := (Nat.le_trans (Nat.le_trans f1378 K1385.1) E1412.1)
  refine own_lift CW SW1411 ?_
  intro vm1440 C S1441 rb1442
  refine own_callV C S1441 (own_wd hw 95 rfl) (own_wd hw 96 rfl) (own_wd hw 98 rfl) (own_wd hw 98 rfl) rfl (own_wd hw 97 rfl) (by decide) (own_Met.pay (own_sbA l Z a0 hw G1 G3 a1408 _ _ _ _ ([58] : List Int32) a1341 _ _ _ _ _ (own_bv ((([] : List Int32) ++ xcs) ++ ([58] : List Int32))) h1407 n0 f1428 g1352 g1379 f1422 x1413 f1415 f1414 f1421 f1423 f1424 f1425 f1426 f1427 (Ne.symm (ne1417 a1353 (List.mem_of_getElem? (i := 2) rfl)).2) (Ne.symm (ne1417 a1341 (List.mem_of_getElem? (i := 1) rfl)).2) (Ne.symm (ne1417 a1341 (List.mem_of_getElem? (i := 1) rfl)).1) (Ne.symm (ne1417 a1353 (List.mem_of_getElem? (i := 2) rfl)).1) (Ne.symm n1384) O2 O4 P5 rG3 (own_codG hp1419) hp1419 (Nat.le_of_ble_eq_true rfl) (own_apH (b := (([] : List Int32) ++ xcs)) (x := ([58] : List Int32)) (by first | omega | (simp only [List.length_append, List.length_cons, List.length_nil]; omega))) ((own_ofNat_nn (by first | omega | (simp only [List.length_append, List.length_cons, List.length_nil]; omega))).1) ((own_ofNat_nn (by first | omega | (simp only [List.length_append, List.length_cons, List.length_nil]; omega))).1) (own_ap5 (b := (([] : List Int32) ++ xcs)) (x := ([58] : List Int32)) (by first | omega | (simp only [List.length_append, List.length_cons, List.length_nil]; omega))) (own_apL (b := (([] : List Int32) ++ xcs)) (x := ([58] : List Int32)) (by first | omega | (simp only [List.length_append, List.length_cons, List.length_nil]; omega))) (own_apU (b := (([] : List Int32) ++ xcs)) (x := ([58] : List Int32)) (by first | omega | (simp only [List.length_append, List.length_cons, List.length_nil]; omega)))) C 1 (own_wd hw 99 rfl) (own_wd hw 79 rfl) (by decide) (by decide)) (fun _ _ _ q => q.2) f1423 [(.ref a1408)] [(.ref a1325)] rfl own_pd39 rfl rfl rfl (Nat.le_of_ble_eq_true rfl) (by decide) (by decide) (by decide +kernel) ?_
  rintro T1435 h1436 v1437 L1438 S1439 ⟨⟨rfl, K1429, f1430, f1431, f1432, f1433, f1434⟩, -⟩
  have f1443 : Fld Z h1436 a1341 "java/lang/AbstractStringBuilder" "count" "I" (.int (Int32.ofNat ((([] : List Int32) ++ xcs) ++ ([58] : List Int32)).length)) := by rw [← own_cntA]; exact f1433
  show own_Go p e below _ T1435 (mkF m 22 #[.val (.ref x), .val (.ref y)] [(.ref a1341), (.ref a1325)])
  refine own_seg C S1439 [(22, .aload_n 1, 1)] (by decide +kernel) 23 #[.val (.ref x), .val (.ref y)] [(.ref y), (.ref a1341), (.ref a1325)] rfl ?_
  have f1444 := (f1422.keep K1429 (allS g1352 (allS g1379 all0)))
  have f1445 := ((Exa.ext E1412 (((Exa.ext E1343 (yE.keep K1327)).keep K1356).keep K1385)).keep K1429)
  have f1446 : y < h1334.size := (Nat.lt_of_lt_of_le yE.lt K1327.1)
  have n1447 : y ≠ a1341 := by rw [g1342]; exact Nat.ne_of_lt f1446
  have f1448 : y < h1340.size := (Nat.lt_of_lt_of_le f1446 E1343.1)
  have n1449 : y ≠ a1353 := Nat.ne_of_lt (Nat.lt_of_lt_of_le f1448 g1355)
  have f1450 := ((Fld.ext E1412 (((Fld.ext E1343 (yV.keep K1327 nin0)).keep K1356 (ninS n1447 nin0)).keep K1385 (ninS n1447 (ninS n1449 nin0)))).keep K1429 (ninS n1447 (ninS n1449 nin0)))
  have f1451 := ((Fld.ext E1412 (((Fld.ext E1343 (yC.keep K1327 nin0)).keep K1356 (ninS n1447 nin0)).keep K1385 (ninS n1447 (ninS n1449 nin0)))).keep K1429 (ninS n1447 (ninS n1449 nin0)))
  have f1452 : yt < h1334.size := (Nat.lt_of_lt_of_le yK.lt K1327.1)
  have n1453 : yt ≠ a1341 := by rw [g1342]; exact Nat.ne_of_lt f1452
  have f1454 : yt < h1340.size := (Nat.lt_of_lt_of_le f1452 E1343.1)
  have n1455 : yt ≠ a1353 := Nat.ne_of_lt (Nat.lt_of_lt_of_le f1454 g1355)
  have f1456 := ((((((yK.keep K1327 nin0).ext E1343).keep K1356 (ninS n1453 nin0)).keep K1385 (ninS n1453 (ninS n1455 nin0))).ext E1412).keep K1429 (ninS n1453 (ninS n1455 nin0)))
  have f1457 : n0 ≤ h1436.size := (Nat.le_trans f1428 K1429.1)
  refine own_callV C S1439 (own_wd hw 95 rfl) (own_wd hw 96 rfl) (own_wd hw 98 rfl) (own_wd hw 98 rfl) rfl (own_wd hw 97 rfl) (by decide) (own_Met.pay (own_sbA l Z a0 hw G1 G3 y _ _ _ _ ycs a1341 _ _ _ _ _ (own_bv (((([] : List Int32) ++ xcs) ++ ([58] : List Int32)) ++ ycs)) h1436 n0 f1457 g1352 g1379 f1444 f1445 f1450 f1451 f1456 f1430 f1431 f1432 f1443 f1434 n1455 n1453 n1447 n1449 (Ne.symm n1384) O2 O4 P5 rG3 (own_codG yhp) yhp (Nat.le_trans yhl (by decide)) (own_apH (b := ((([] : List Int32) ++ xcs) ++ ([58] : List Int32))) (x := ycs) (by first | omega | (simp only [List.length_append, List.length_cons, List.length_nil]; omega))) ((own_ofNat_nn (by first | omega | (simp only [List.length_append, List.length_cons, List.length_nil]; omega))).1) ((own_ofNat_nn (by first | omega | (simp only [List.length_append, List.length_cons, List.length_nil]; omega))).1) (own_ap5 (b := ((([] : List Int32) ++ xcs) ++ ([58] : List Int32))) (x := ycs) (by first | omega | (simp only [List.length_append, List.length_cons, List.length_nil]; omega))) (own_apL (b := ((([] : List Int32) ++ xcs) ++ ([58] : List Int32))) (x := ycs) (by first | omega | (simp only [List.length_append, List.length_cons, List.length_nil]; omega))) (own_apU (b := ((([] : List Int32) ++ xcs) ++ ([58] : List Int32))) (x := ycs) (by first | omega | (simp only [List.length_append, List.length_cons, List.length_nil]; omega)))) C 1 (own_wd hw 99 rfl) (own_wd hw 79 rfl) (by decide) (by decide)) (fun _ _ _ q => q.2) f1430 [(.ref y)] [(.ref a1325)] rfl own_pd39 rfl rfl rfl (Nat.le_of_ble_eq_true rfl) (by decide) (by decide) (by decide +kernel) ?_
  rintro T1464 h1465 v1466 L1467 S1468 ⟨⟨rfl, K1458, f1459, f1460, f1461, f1462, f1463⟩, -⟩
  have f1469 : Fld Z h1465 a1341 "java/lang/AbstractStringBuilder" "count" "I" (.int (Int32.ofNat (((([] : List Int32) ++ xcs) ++ ([58] : List Int32)) ++ ycs).length)) := by rw [← own_cntA]; exact f1462
  show own_Go p e below _ T1464 (mkF m 26 #[.val (.ref x), .val (.ref y)] [(.ref a1341), (.ref a1325)])
  have f1470 := (f1444.keep K1458 (allS g1352 (allS g1379 all0)))
  have f1471 : n0 ≤ h1465.size := (Nat.le_trans f1457 K1458.1)
  refine own_callV C S1468 (own_wd hw 143 rfl) (own_wd hw 144 rfl) (own_wd hw 146 rfl) (own_wd hw 146 rfl) rfl (own_wd hw 145 rfl) (by decide) (own_Met.pay (own_ts l Z a0 hw G1 G3 a1341 _ _ _ _ _ (own_sv (((([] : List Int32) ++ xcs) ++ ([58] : List Int32)) ++ ycs)) h1465 n0 f1471 f1470 f1459 f1460 f1461 f1469 f1463 O2 O4 P5 rG3 ((own_tsH (b := (((([] : List Int32) ++ xcs) ++ ([58] : List Int32)) ++ ycs)) (by first | omega | (simp only [List.length_append, List.length_cons, List.length_nil]; omega))).1) ((own_tsH (b := (((([] : List Int32) ++ xcs) ++ ([58] : List Int32)) ++ ycs)) (by first | omega | (simp only [List.length_append, List.length_cons, List.length_nil]; omega))).2.1) ((own_tsH (b := (((([] : List Int32) ++ xcs) ++ ([58] : List Int32)) ++ ycs)) (by first | omega | (simp only [List.length_append, List.length_cons, List.length_nil]; omega))).2.2.1) ((own_tsH (b := (((([] : List Int32) ++ xcs) ++ ([58] : List Int32)) ++ ycs)) (by first | omega | (simp only [List.length_append, List.length_cons, List.length_nil]; omega))).2.2.2) (own_tsU (b := (((([] : List Int32) ++ xcs) ++ ([58] : List Int32)) ++ ycs)) (by first | omega | (simp only [List.length_append, List.length_cons, List.length_nil]; omega)))) C 1 (own_wd hw 147 rfl) (own_wd hw 79 rfl) (by decide) (by decide)) (fun _ _ _ q => q.2) f1459 [] [(.ref a1325)] rfl own_pd40 rfl rfl rfl (Nat.le_of_ble_eq_true rfl) (by decide) (by decide) (by decide +kernel) ?_
  rintro T1483 h1484 v1485 L1486 S1487 ⟨⟨a1472, a1473, k1474, rfl, g1475, g1476, K1477, f1478, f1479, f1480, f1481, f1482⟩, -⟩
  show own_Go p e below _ T1483 (mkF m 29 #[.val (.ref x), .val (.ref y)] [(.ref a1472), (.ref a1325)])
  have f1488 := (f1470.keep K1477 all0)
  refine own_getS C S1487 (own_wd hw 188 rfl) Via.refl (OU1.ext f1488.2) (by decide +kernel) ?_
  intro T1489 S1490
  have f1491 := ((((((((TK.keep K1327 nin0).ext E1343).keep K1356 (ninS (Nat.ne_of_lt (Nat.lt_of_lt_of_le TBlt g1352)) nin0)).keep K1385 (ninS (Nat.ne_of_lt (Nat.lt_of_lt_of_le TBlt g1352)) (ninS (Nat.ne_of_lt (Nat.lt_of_lt_of_le TBlt g1379)) nin0))).ext E1412).keep K1429 (ninS (Nat.ne_of_lt (Nat.lt_of_lt_of_le TBlt g1352)) (ninS (Nat.ne_of_lt (Nat.lt_of_lt_of_le TBlt g1379)) nin0))).keep K1458 (ninS (Nat.ne_of_lt (Nat.lt_of_lt_of_le TBlt g1352)) (ninS (Nat.ne_of_lt (Nat.lt_of_lt_of_le TBlt g1379)) nin0))).keep K1477 nin0)
  have f1492 : n0 ≤ h1484.size := (Nat.le_trans f1471 K1477.1)
  refine own_callV C S1490 (own_wd hw 190 rfl) (own_wd hw 191 rfl) (own_wd hw 193 rfl) (own_wd hw 193 rfl) rfl (own_wd hw 192 rfl) (by decide) (own_Met.pay (own_gbu l Z a0 hw G1 G3 U8 TB TBk a1472 _ _ (((([] : List Int32) ++ xcs) ++ ([58] : List Int32)) ++ ycs) h1484 n0 f1492 f1488 f1491 f1478 f1480 f1479 f1481 f1482 O2 O4 P5 rG3 OU1 OU2 OT TBlt (own_hpA xhp yhp) (by simp only [List.length_append, List.length_cons, List.length_nil]; omega) (own_u8_58 xcs ycs)) C 1 (own_wd hw 194 rfl) (own_wd hw 6 rfl) (by decide) (by decide)) (fun _ _ _ q => q.2) f1478 [(.ref U8)] [(.ref a1325)] rfl own_pd41 rfl rfl rfl (Nat.le_of_ble_eq_true rfl) (by decide) (by decide) (by decide +kernel) ?_
  rintro T1498 h1499 v1500 L1501 S1502 ⟨⟨a1493, k1494, rfl, g1495, K1496, f1497⟩, -⟩
  show own_Go p e below _ T1498 (mkF m 35 #[.val (.ref x), .val (.ref y)] [(.ref a1493), (.ref a1325)])
  have hbs9 : 1 ≤ (own_u8 (((([] : List Int32) ++ xcs) ++ ([58] : List Int32)) ++ ycs)).length ∧ (own_u8 (((([] : List Int32) ++ xcs) ++ ([58] : List Int32)) ++ ycs)).length ≤ 9 := by
    have q1 := own_u8_58 xcs ycs; have q2 := (own_u8_len (((([] : List Int32) ++ xcs) ++ ([58] : List Int32)) ++ ycs)).2; simp only [List.length_append, List.length_cons, List.length_nil] at q1 q2; omega
  have hR0 := own_u8_R (own_hpA xhp yhp)
  obtain ⟨bs, hbs⟩ : ∃ q, q = (own_u8 (((([] : List Int32) ++ xcs) ++ ([58] : List Int32)) ++ ycs)) := ⟨_, rfl⟩
  rw [← hbs] at f1497 hbs9 hR0 ⊢
  obtain ⟨kk, qs, rs, hsp, hq3, hr3⟩ := own_split bs
  subst hsp
  have h9 := hbs9.2
  have h1 := hbs9.1
  have hR := hR0
  have f1503 := (f1488.keep K1496 all0)
  have f1504 := (f1491.keep K1496 nin0)
  have f1505 := (((((Exa.ext E1412 (((Exa.ext E1343 f1328).keep K1356).keep K1385)).keep K1429).keep K1458).keep K1477).keep K1496)
  have n1506 : a1325 ≠ a1341 := by rw [g1342]; exact Nat.ne_of_lt f1328.lt
  have f1507 : a1325 < h1340.size := (Nat.lt_of_lt_of_le f1328.lt E1343.1)
  have n1508 : a1325 ≠ a1353 := Nat.ne_of_lt (Nat.lt_of_lt_of_le f1507 g1355)
  have f1509 := (((((Fld.ext E1412 (((Fld.ext E1343 f1329).keep K1356 (ninS n1506 nin0)).keep K1385 (ninS n1506 (ninS n1508 nin0)))).keep K1429 (ninS n1506 (ninS n1508 nin0))).keep K1458 (ninS n1506 (ninS n1508 nin0))).keep K1477 nin0).keep K1496 nin0)
  have f1510 := (((((Fld.ext E1412 (((Fld.ext E1343 f1331).keep K1356 (ninS n1506 nin0)).keep K1385 (ninS n1506 (ninS n1508 nin0)))).keep K1429 (ninS n1506 (ninS n1508 nin0))).keep K1458 (ninS n1506 (ninS n1508 nin0))).keep K1477 nin0).keep K1496 nin0)
  have f1511 := (((((Fld.ext E1412 (((Fld.ext E1343 f1332).keep K1356 (ninS n1506 nin0)).keep K1385 (ninS n1506 (ninS n1508 nin0)))).keep K1429 (ninS n1506 (ninS n1508 nin0))).keep K1458 (ninS n1506 (ninS n1508 nin0))).keep K1477 nin0).keep K1496 nin0)
  have f1512 : n0 ≤ h1499.size := (Nat.le_trans f1492 K1496.1)
  refine own_callV C S1502 (own_wd hw 219 rfl) (own_wd hw 220 rfl) (own_wd hw 222 rfl) (own_wd hw 222 rfl) rfl (own_wd hw 221 rfl) (by decide) (own_Met.pay (own_es l Z a0 hw G1 G3 U8 TB TBk a1325 a1493 _ qs rs kk h1499 n0 f1512 f1503 f1504 f1505 f1509 f1510 f1511 f1497 O2 O4 P5 rG3 OU1 OU2 OT TBlt hq3 hr3 h9 hR h1) C 0 (own_wd hw 223 rfl) (own_wd hw 56 rfl) (by decide) (by decide)) (fun _ _ _ q => q.2) f1505 [(.ref a1493)] [] rfl own_pd42 rfl rfl rfl (Nat.le_of_ble_eq_true rfl) (by decide) (by decide) (by decide +kernel) ?_
  rintro T1523 h1524 v1525 L1526 S1527 ⟨⟨a1513, a1514, k1515, rfl, g1516, g1517, K1518, f1519, f1520, f1521, f1522⟩, -⟩
  show own_Go p e below _ T1523 (mkF m 38 #[.val (.ref x), .val (.ref y)] [(.ref a1513)])
  have o1529 : h1407.size ≤ h1499.size := (Nat.le_trans (Nat.le_trans (Nat.le_trans (Nat.le_trans (Nat.le_refl _) K1429.1) K1458.1) K1477.1) K1496.1)
  have o1528 : h1407.size ≤ a1514 := Nat.le_trans o1529 g1517
  have o1530 : h1407.size ≤ a1513 := Nat.le_trans o1529 g1516
  have o1532 : h1407.size ≤ h1484.size := (Nat.le_trans (Nat.le_trans (Nat.le_trans (Nat.le_refl _) K1429.1) K1458.1) K1477.1)
  have o1531 : h1407.size ≤ a1493 := Nat.le_trans o1532 g1495
  have f1533 : a1493 < h1524.size := (Nat.lt_of_lt_of_le f1497.lt K1518.1)
  have o1535 : h1407.size ≤ h1465.size := (Nat.le_trans (Nat.le_trans (Nat.le_refl _) K1429.1) K1458.1)
  have o1534 : h1407.size ≤ a1473 := Nat.le_trans o1535 g1476
  have f1536 : a1473 < h1524.size := (Nat.lt_of_lt_of_le (Nat.lt_of_lt_of_le f1481.lt K1496.1) K1518.1)
  have o1537 : h1407.size ≤ a1472 := Nat.le_trans o1535 g1475
  have f1538 : a1472 < h1524.size := (Nat.lt_of_lt_of_le (Nat.lt_of_lt_of_le f1478.lt K1496.1) K1518.1)
  have SW1539 := rb1442 _ _ _ _ [a1341, a1353] [a1472, a1473, a1493, a1513, a1514] S1527 ((((((Keep.refl _ _).trans K1429 (allS (Or.inl (List.mem_of_getElem? (i := 0) rfl)) (allS (Or.inl (List.mem_of_getElem? (i := 1) rfl)) all0))).trans K1458 (allS (Or.inl (List.mem_of_getElem? (i := 0) rfl)) (allS (Or.inl (List.mem_of_getElem? (i := 1) rfl)) all0))).trans K1477 all0).trans K1496 all0).trans K1518 all0) (allS (List.mem_of_getElem? (i := 1) rfl) (allS (List.mem_of_getElem? (i := 2) rfl) all0)) (allS ⟨o1537, f1538⟩ (allS ⟨o1534, f1536⟩ (allS ⟨o1531, f1533⟩ (allS ⟨o1530, f1519.lt⟩ (allS ⟨o1528, f1522.lt⟩ all0)))))
  refine own_retAW CW SW1539 rfl rfl (by decide +kernel) (by decide) (by decide) ?_
  have o1541 : h0.size ≤ h1499.size := (Nat.le_trans (Nat.le_trans (Nat.le_trans (Nat.le_trans (Nat.le_trans (Nat.le_trans (Nat.le_trans o1400 K1356.1) K1385.1) E1412.1) K1429.1) K1458.1) K1477.1) K1496.1)
  have o1540 : h0.size ≤ a1513 := Nat.le_trans o1541 g1516
  have o1542 : h0.size ≤ a1514 := Nat.le_trans o1541 g1517
  exact ⟨a1513, a1514, k1515, rfl, o1540, o1542, (((((((((((Keep.refl _ _).trans K1327 all0).ext E1343).trans K1356 (allS (Or.inr o1397) all0)).trans K1385 (allS (Or.inr o1397) (allS (Or.inr o1399) all0))).ext E1412).trans K1429 (allS (Or.inr o1397) (allS (Or.inr o1399) all0))).trans K1458 (allS (Or.inr o1397) (allS (Or.inr o1399) all0))).trans K1477 all0).trans K1496 all0).trans K1518 all0), f1519, f1520, f1521, f1522⟩
theorem own_alpha (l : Launch) (Z : State) (a0 : Array Value) (hw : ∀ d ∈ tables_1, d.before a0 Z = true) (k : Int32) (h0 : Heap) (n0 : Nat) (z0 : n0 ≤ h0.size) (hk : ¬ k < 0 ∧ k < 64) :
    own_Met l Z (⟨"com/example/exact_rest/exactrest/NodeIdsOfPinLaw", "alpha", "(I)C"⟩ : MethodName) method_5_code 1 (some .char) ({ frames := 0, cells := 0, slots := 0, locals := 0 } : Room) n0 #[(.int k)] h0 (fun v h => v = some (.int (own_T k)) ∧ h = h0) := by
  refine own_met (by decide +kernel) #[.val (.int k)] (fun m => by first | (simp [entryFrame, mkF, argsToLocals, Value.category]; done) | rfl) ?_
  intro p e s m below meth c T0 C S0
  refine own_seg C S0 [(0, .iload_n 0, 1), (1, .bipush 26, 2)] (by decide +kernel) 3 #[.val (.int k)] [(.int 26), (.int k)] rfl ?_
  refine own_icmp C S0 (q := .ge) (o := 9) (by decide +kernel) 12 (by decide) (by decide) (fun (q1543 : ¬ k < (26 : Int32)) => ?_) (fun (q1544 : k < (26 : Int32)) => ?_)
  · refine own_seg C S0 [(12, .iload_n 0, 1), (13, .bipush 52, 2)] (by decide +kernel) 15 #[.val (.int k)] [(.int 52), (.int k)] rfl ?_
    refine own_icmp C S0 (q := .ge) (o := 12) (by decide +kernel) 27 (by decide) (by decide) (fun (q1545 : ¬ k < (52 : Int32)) => ?_) (fun (q1546 : k < (52 : Int32)) => ?_)
    · refine own_seg C S0 [(27, .iload_n 0, 1), (28, .bipush 62, 2)] (by decide +kernel) 30 #[.val (.int k)] [(.int 62), (.int k)] rfl ?_
      refine own_icmp C S0 (q := .ge) (o := 12) (by decide +kernel) 42 (by decide) (by decide) (fun (q1547 : ¬ k < (62 : Int32)) => ?_) (fun (q1548 : k < (62 : Int32)) => ?_)
      · refine own_seg C S0 [(42, .iload_n 0, 1), (43, .bipush 62, 2)] (by decide +kernel) 45 #[.val (.int k)] [(.int 62), (.int k)] rfl ?_
        refine own_icmp C S0 (q := .ne) (o := 6) (by decide +kernel) 51 (by decide) (by decide) (fun (q1549 : ¬ k = (62 : Int32)) => ?_) (fun (q1550 : k = (62 : Int32)) => ?_)
        · refine own_seg C S0 [(51, .bipush 47, 2)] (by decide +kernel) 53 #[.val (.int k)] [(.int 47)] rfl ?_
          rw [show (47 : Int32) = (own_T k) from (own_alp hk).2.2.2.2 q1547 q1549]
          refine own_retC C S0 (by decide +kernel) (own_c16 (own_TB k)) (by decide) (by decide) ?_
          exact ⟨rfl, rfl⟩
        · refine own_seg C S0 [(48, .bipush 43, 2)] (by decide +kernel) 50 #[.val (.int k)] [(.int 43)] rfl ?_
          rw [show (43 : Int32) = (own_T k) from (own_alp hk).2.2.2.1 q1550]
          refine own_retC C S0 (by decide +kernel) (own_c16 (own_TB k)) (by decide) (by decide) ?_
          exact ⟨rfl, rfl⟩
      · refine own_seg C S0 [(33, .bipush 48, 2), (35, .iload_n 0, 1), (36, .bipush 52, 2), (38, .isub, 1), (39, .iadd, 1), (40, .i2c, 1)] (by decide +kernel) 41 #[.val (.int k)] [(.int (((48 : Int32) + (k - (52 : Int32))).toUInt32.toUInt16.toUInt32.toInt32))] rfl ?_
        rw [show ((48 : Int32) + (k - (52 : Int32))).toUInt32.toUInt16.toUInt32.toInt32 = (own_T k) from (own_alp hk).2.2.1 q1545 q1548]
        refine own_retC C S0 (by decide +kernel) (own_c16 (own_TB k)) (by decide) (by decide) ?_
        exact ⟨rfl, rfl⟩
    · refine own_seg C S0 [(18, .bipush 97, 2), (20, .iload_n 0, 1), (21, .bipush 26, 2), (23, .isub, 1), (24, .iadd, 1), (25, .i2c, 1)] (by decide +kernel) 26 #[.val (.int k)] [(.int (((97 : Int32) + (k - (26 : Int32))).toUInt32.toUInt16.toUInt32.toInt32))] rfl ?_
      rw [show ((97 : Int32) + (k - (26 : Int32))).toUInt32.toUInt16.toUInt32.toInt32 = (own_T k) from (own_alp hk).2.1 q1543 q1546]
      refine own_retC C S0 (by decide +kernel) (own_c16 (own_TB k)) (by decide) (by decide) ?_
      exact ⟨rfl, rfl⟩
  · refine own_seg C S0 [(6, .bipush 65, 2), (8, .iload_n 0, 1), (9, .iadd, 1), (10, .i2c, 1)] (by decide +kernel) 11 #[.val (.int k)] [(.int (((65 : Int32) + k).toUInt32.toUInt16.toUInt32.toInt32))] rfl ?_
    rw [show ((65 : Int32) + k).toUInt32.toUInt16.toUInt32.toInt32 = (own_T k) from (own_alp hk).1 q1544]
    refine own_retC C S0 (by decide +kernel) (own_c16 (own_TB k)) (by decide) (by decide) ?_
    exact ⟨rfl, rfl⟩
theorem own_pbuf (l : Launch) (Z : State) (a0 : Array Value) (hw : ∀ d ∈ tables_1, d.before a0 Z = true) (ba : Addr) (bk : ClassId) (bs : List Int32) (k : Int32) (h0 : Heap) (n0 : Nat) (z0 : n0 ≤ h0.size) (ge_ba : n0 ≤ ba) (bK : Arv Z h0 ba bk .int 9 (own_pd 9 bs) (.int 0)) (hl : bs.length ≤ 7) :
    own_Met l Z (⟨"com/example/exact_rest/exactrest/NodeIdsOfPinLaw", "put", "([IIC)I"⟩ : MethodName) method_4_code 3 (some .int) ({ frames := 0, cells := 0, slots := 0, locals := 0 } : Room) n0 #[(.ref ba), (.int (Int32.ofNat bs.length)), (.int k)] h0 (fun v h => v = some (.int (Int32.ofNat (bs ++ own_c8 k).length)) ∧ Keep h0 h [ba] ∧ Arv Z h ba bk .int 9 (own_pd 9 (bs ++ own_c8 k)) (.int 0)) := by
  refine own_met (by decide +kernel) #[.val (.ref ba), .val (.int (Int32.ofNat bs.length)), .val (.int k)] (fun m => by first | (simp [entryFrame, mkF, argsToLocals, Value.category]; done) | rfl) ?_
  intro p e s m below meth c T0 C S0
  refine own_seg C S0 [(0, .iload_n 2, 1), (1, .sipush 128, 3)] (by decide +kernel) 4 #[.val (.ref ba), .val (.int (Int32.ofNat bs.length)), .val (.int k)] [(.int 128), (.int k)] rfl ?_
  refine own_icmp C S0 (q := .ge) (o := 11) (by decide +kernel) 15 (by decide) (by decide) (fun (q1551 : ¬ k < (128 : Int32)) => ?_) (fun (q1552 : k < (128 : Int32)) => ?_)
  · have e8 : own_c8 k = [((192 : Int32) ||| (k >>> ((6 : Int32) &&& 31))), ((128 : Int32) ||| (k &&& (63 : Int32)))] := by rw [own_c8, if_neg q1551]
    refine own_seg C S0 [(15, .aload_n 0, 1), (16, .iload_n 1, 1), (17, .sipush 192, 3), (20, .iload_n 2, 1), (21, .bipush 6, 2), (23, .ishr, 1), (24, .ior, 1)] (by decide +kernel) 25 #[.val (.ref ba), .val (.int (Int32.ofNat bs.length)), .val (.int k)] [(.int ((192 : Int32) ||| (k >>> ((6 : Int32) &&& 31)))), (.int (Int32.ofNat bs.length)), (.ref ba)] rfl ?_
    refine own_iastore C S0 bK ⟨(own_ofNat_nn (by omega)).1, own_ofs (n := 9) (by omega) (by omega)⟩ bs.length (own_ofNat_nn (by omega)).2 (by rw [own_pd_len (by omega)]; omega) ge_ba (by decide +kernel) ?_
    intro T1553 h1555 S1554 W1556 f1557
    have f1558 : Arv Z h1555 ba bk .int 9 (own_pd 9 (bs ++ [((192 : Int32) ||| (k >>> ((6 : Int32) &&& 31)))])) (.int 0) := by rw [← (own_pdq (n := 9) (A := bs) (B := (bs ++ [((192 : Int32) ||| (k >>> ((6 : Int32) &&& 31)))])) (v := ((192 : Int32) ||| (k >>> ((6 : Int32) &&& 31)))) (by omega) (by simp))]; exact f1557
    have m1 : (bs ++ [((192 : Int32) ||| (k >>> ((6 : Int32) &&& 31)))]).length = bs.length + 1 := by simp
    refine own_seg C S1554 [(26, .aload_n 0, 1), (27, .iload_n 1, 1), (28, .iconst 1, 1), (29, .iadd, 1), (30, .sipush 128, 3), (33, .iload_n 2, 1), (34, .bipush 63, 2), (36, .iand, 1), (37, .ior, 1)] (by decide +kernel) 38 #[.val (.ref ba), .val (.int (Int32.ofNat bs.length)), .val (.int k)] [(.int ((128 : Int32) ||| (k &&& (63 : Int32)))), (.int ((Int32.ofNat bs.length) + (1 : Int32))), (.ref ba)] rfl ?_
    rw [show ((Int32.ofNat bs.length) + (1 : Int32)) = (Int32.ofNat (bs ++ [((192 : Int32) ||| (k >>> ((6 : Int32) &&& 31)))]).length) from own_snoc _ _]
    refine own_iastore C S1554 f1558 ⟨(own_ofNat_nn (by omega)).1, own_ofs (n := 9) (by omega) (by omega)⟩ (bs ++ [((192 : Int32) ||| (k >>> ((6 : Int32) &&& 31)))]).length (own_ofNat_nn (by omega)).2 (by rw [own_pd_len (by omega)]; omega) ge_ba (by decide +kernel) ?_
    intro T1559 h1561 S1560 W1562 f1563
    have f1564 : Arv Z h1561 ba bk .int 9 (own_pd 9 (bs ++ [((192 : Int32) ||| (k >>> ((6 : Int32) &&& 31))), ((128 : Int32) ||| (k &&& (63 : Int32)))])) (.int 0) := by rw [← (own_pdq (n := 9) (A := (bs ++ [((192 : Int32) ||| (k >>> ((6 : Int32) &&& 31)))])) (B := (bs ++ [((192 : Int32) ||| (k >>> ((6 : Int32) &&& 31))), ((128 : Int32) ||| (k &&& (63 : Int32)))])) (v := ((128 : Int32) ||| (k &&& (63 : Int32)))) (by omega) (by simp))]; exact f1563
    refine own_seg C S1560 [(39, .iload_n 1, 1), (40, .iconst 2, 1), (41, .iadd, 1)] (by decide +kernel) 42 #[.val (.ref ba), .val (.int (Int32.ofNat bs.length)), .val (.int k)] [(.int ((Int32.ofNat bs.length) + (2 : Int32)))] rfl ?_
    rw [show ((Int32.ofNat bs.length) + (2 : Int32)) = (Int32.ofNat (bs ++ own_c8 k).length) from (by rw [e8, List.length_append, Int32.ofNat_add]; rfl)]
    refine own_retI C S1560 (by decide +kernel) (by decide) (by decide) ?_
    rw [← e8] at f1564
    exact ⟨rfl, (((Keep.refl _ _).wr W1556 (Or.inl (List.mem_of_getElem? (i := 0) rfl))).wr W1562 (Or.inl (List.mem_of_getElem? (i := 0) rfl))), f1564⟩
  · have e8 : own_c8 k = [k] := by rw [own_c8, if_pos q1552]
    refine own_seg C S0 [(7, .aload_n 0, 1), (8, .iload_n 1, 1), (9, .iload_n 2, 1)] (by decide +kernel) 10 #[.val (.ref ba), .val (.int (Int32.ofNat bs.length)), .val (.int k)] [(.int k), (.int (Int32.ofNat bs.length)), (.ref ba)] rfl ?_
    refine own_iastore C S0 bK ⟨(own_ofNat_nn (by omega)).1, own_ofs (n := 9) (by omega) (by omega)⟩ bs.length (own_ofNat_nn (by omega)).2 (by rw [own_pd_len (by omega)]; omega) ge_ba (by decide +kernel) ?_
    intro T1565 h1567 S1566 W1568 f1569
    have f1570 : Arv Z h1567 ba bk .int 9 (own_pd 9 (bs ++ [k])) (.int 0) := by rw [← (own_pdq (n := 9) (A := bs) (B := (bs ++ [k])) (v := k) (by omega) (by simp))]; exact f1569
    refine own_seg C S1566 [(11, .iload_n 1, 1), (12, .iconst 1, 1), (13, .iadd, 1)] (by decide +kernel) 14 #[.val (.ref ba), .val (.int (Int32.ofNat bs.length)), .val (.int k)] [(.int ((Int32.ofNat bs.length) + (1 : Int32)))] rfl ?_
    rw [show ((Int32.ofNat bs.length) + (1 : Int32)) = (Int32.ofNat (bs ++ own_c8 k).length) from (by rw [e8, List.length_append, Int32.ofNat_add]; rfl)]
    refine own_retI C S1566 (by decide +kernel) (by decide) (by decide) ?_
    rw [← e8] at f1570
    exact ⟨rfl, ((Keep.refl _ _).wr W1568 (Or.inl (List.mem_of_getElem? (i := 0) rfl))), f1570⟩
theorem own_pd43 : parseMethodDescriptor "(I)C" = some ⟨[.int], (some .char)⟩ := by decide +kernel
theorem own_gr (l : Launch) (Z : State) (a0 : Array Value) (hw : ∀ d ∈ tables_1, d.before a0 Z = true) (ba : Addr) (bk : ClassId) (ob : Addr) (ok : ClassId) (nx : Int32) (ix : Int32) (ox : Int32) (qs : List Int32) (rs : List Int32) (kk : Nat) (h0 : Heap) (n0 : Nat) (z0 : n0 ≤ h0.size) (ge_ob : n0 ≤ ob) (bK : Arv Z h0 ba bk .int 9 (own_pd 9 (qs ++ rs)) (.int 0)) (oK : Arv Z h0 ob ok .char (12 : Int32) (own_pd 12 (own_b64 qs)) (.int 0)) (ne_ba_ob : ba ≠ ob) (hn : nx = Int32.ofNat (qs ++ rs).length) (hi : ix = Int32.ofNat qs.length) (ho : ox = Int32.ofNat (own_b64 qs).length) (hq3 : qs.length = 3 * kk) (h9 : (qs ++ rs).length ≤ 9) (hne : ¬ rs = []) (hR : ∀ x ∈ qs ++ rs, own_R x) :
    own_Met l Z (⟨"com/example/exact_rest/exactrest/NodeIdsOfPinLaw", "group", "([III[CI)I"⟩ : MethodName) method_6_code 9 (some .int) ({ frames := 1, cells := 0, slots := 0, locals := 14 } : Room) n0 #[(.ref ba), (.int nx), (.int ix), (.ref ob), (.int ox)] h0 (fun v h => v = some (.int (Int32.ofNat (own_b64 (qs ++ rs.take 3)).length)) ∧ Keep h0 h [ob] ∧ Arv Z h ob ok .char (12 : Int32) (own_pd 12 (own_b64 (qs ++ rs.take 3))) (.int 0)) := by
  refine own_met (by decide +kernel) #[.val (.ref ba), .val (.int nx), .val (.int ix), .val (.ref ob), .val (.int ox), .unset, .unset, .unset, .unset] (fun m => by first | (simp [entryFrame, mkF, argsToLocals, Value.category]; done) | rfl) ?_
  intro p e s m below meth c T0 C S0
  subst hn
  subst hi
  subst ho
  show own_Go p e below _ T0 (mkF m 0 #[.val (.ref ba), .val (.int (Int32.ofNat (qs ++ rs).length)), .val (.int (Int32.ofNat qs.length)), .val (.ref ob), .val (.int (Int32.ofNat (own_b64 qs).length)), .unset, .unset, .unset, .unset] [])
  have hbl : (own_b64 qs).length = 4 * kk := (own_b64_len (L := qs) (R := []) hq3 (by simp)).2
  have hq9 : qs.length + rs.length ≤ 9 := by rw [← List.length_append]; exact h9
  rcases own_rs hne with ⟨ga, rfl⟩ | ⟨ga, gb, rfl⟩ | ⟨ga, gb, gc, R, rfl⟩
  · simp only [List.length_cons, List.length_nil] at hq9
    have hsz : (qs ++ [ga]).length = qs.length + 1 := by simp
    have hga : own_R ga := hR ga (by simp)
    have c1 : (qs ++ [ga]) = qs ++ ga :: [] := by simp
    have l1 : (qs ++ [ga]).length = qs.length + 1 := by simp
    have m1 : (own_b64 qs ++ [(own_g0 ga)]).length = (own_b64 qs).length + 1 := by simp
    have m2 : (own_b64 qs ++ [(own_g0 ga), (own_g1 ga 0)]).length = (own_b64 qs).length + 2 := by simp
    refine own_seg C S0 [(0, .iload_n 2, 1), (1, .iload_n 1, 1)] (by decide +kernel) 2 #[.val (.ref ba), .val (.int (Int32.ofNat (qs ++ [ga]).length)), .val (.int (Int32.ofNat qs.length)), .val (.ref ob), .val (.int (Int32.ofNat (own_b64 qs).length)), .unset, .unset, .unset, .unset] [(.int (Int32.ofNat (qs ++ [ga]).length)), (.int (Int32.ofNat qs.length))] rfl ?_
    refine own_icmp C S0 (q := .lt) (o := 6) (by decide +kernel) 8 (by decide) (by decide) (fun (q1571 : (Int32.ofNat qs.length) < (Int32.ofNat (qs ++ [ga]).length)) => ?_) (fun (hq : ¬ (Int32.ofNat qs.length) < (Int32.ofNat (qs ++ [ga]).length)) => False.elim (hq (own_ofs (by omega) (by omega))))
    refine own_seg C S0 [(8, .iload_n 1, 1), (9, .iload_n 2, 1), (10, .isub, 1)] (by decide +kernel) 11 #[.val (.ref ba), .val (.int (Int32.ofNat (qs ++ [ga]).length)), .val (.int (Int32.ofNat qs.length)), .val (.ref ob), .val (.int (Int32.ofNat (own_b64 qs).length)), .unset, .unset, .unset, .unset] [(.int ((Int32.ofNat (qs ++ [ga]).length) - (Int32.ofNat qs.length)))] rfl ?_
    rw [show ((Int32.ofNat (qs ++ [ga]).length) - (Int32.ofNat qs.length)) = (Int32.ofNat [ga].length) from own_subN _ _]
    show own_Go p e below _ T0 (mkF m 11 #[.val (.ref ba), .val (.int (Int32.ofNat (qs ++ [ga]).length)), .val (.int (Int32.ofNat qs.length)), .val (.ref ob), .val (.int (Int32.ofNat (own_b64 qs).length)), .unset, .unset, .unset, .unset] [(.int 1)])
    refine own_seg C S0 [(11, .istore 5, 2), (13, .aload_n 0, 1), (14, .iload_n 2, 1)] (by decide +kernel) 15 #[.val (.ref ba), .val (.int (Int32.ofNat (qs ++ [ga]).length)), .val (.int (Int32.ofNat qs.length)), .val (.ref ob), .val (.int (Int32.ofNat (own_b64 qs).length)), .val (.int 1), .unset, .unset, .unset] [(.int (Int32.ofNat qs.length)), (.ref ba)] rfl ?_
    refine own_iaload C S0 bK ⟨(own_ofNat_nn (by omega)).1, own_ofs (n := 9) (by omega) (by omega)⟩ (.int ga) (own_pdget c1 (by omega)) (by decide +kernel) ?_
    refine own_seg C S0 [(16, .istore 6, 2), (18, .iload 5, 2), (20, .iconst 1, 1)] (by decide +kernel) 21 #[.val (.ref ba), .val (.int (Int32.ofNat (qs ++ [ga]).length)), .val (.int (Int32.ofNat qs.length)), .val (.ref ob), .val (.int (Int32.ofNat (own_b64 qs).length)), .val (.int 1), .val (.int ga), .unset, .unset] [(.int 1), (.int 1)] rfl ?_
    refine own_icmp C S0 (q := .le) (o := 11) (by decide +kernel) 32 (by decide) (by decide) (fun (q1572 : ¬ (1 : Int32) < (1 : Int32)) => ?_) (fun (hq : (1 : Int32) < (1 : Int32)) => False.elim (by revert hq; decide))
    refine own_seg C S0 [(32, .iconst 0, 1), (33, .istore 7, 2), (35, .iload 5, 2), (37, .iconst 2, 1)] (by decide +kernel) 38 #[.val (.ref ba), .val (.int (Int32.ofNat (qs ++ [ga]).length)), .val (.int (Int32.ofNat qs.length)), .val (.ref ob), .val (.int (Int32.ofNat (own_b64 qs).length)), .val (.int 1), .val (.int ga), .val (.int 0), .unset] [(.int 2), (.int 1)] rfl ?_
    refine own_icmp C S0 (q := .le) (o := 11) (by decide +kernel) 49 (by decide) (by decide) (fun (q1573 : ¬ (2 : Int32) < (1 : Int32)) => ?_) (fun (hq : (2 : Int32) < (1 : Int32)) => False.elim (by revert hq; decide))
    refine own_seg C S0 [(49, .iconst 0, 1), (50, .istore 8, 2), (52, .aload_n 3, 1), (53, .iload 4, 2), (55, .iload 6, 2), (57, .iconst 2, 1), (58, .ishr, 1)] (by decide +kernel) 59 #[.val (.ref ba), .val (.int (Int32.ofNat (qs ++ [ga]).length)), .val (.int (Int32.ofNat qs.length)), .val (.ref ob), .val (.int (Int32.ofNat (own_b64 qs).length)), .val (.int 1), .val (.int ga), .val (.int 0), .val (.int 0)] [(.int (ga >>> ((2 : Int32) &&& 31))), (.int (Int32.ofNat (own_b64 qs).length)), (.ref ob)] rfl ?_
    refine own_callS C S0 (own_wd hw 44 rfl) (own_wd hw 45 rfl) (own_wd hw 2 rfl) (own_wd hw 46 rfl) (by decide) (own_Met.pay (own_alpha l Z a0 hw (ga >>> ((2 : Int32) &&& 31)) h0 n0 z0 (own_w0 hga)) C 2 (own_wd hw 46 rfl) (own_wd hw 2 rfl) (by decide) (by decide)) (fun _ _ _ q => q.2) [(.int (ga >>> ((2 : Int32) &&& 31)))] [(.int (Int32.ofNat (own_b64 qs).length)), (.ref ob)] rfl own_pd43 rfl rfl rfl (Nat.le_of_ble_eq_true rfl) (by decide) (by decide) (by decide +kernel) ?_
    rintro T1575 h1576 v1577 L1578 S1579 ⟨⟨rfl, e1574⟩, -⟩
    rw [e1574] at S1579; clear e1574
    show own_Go p e below _ T1575 (mkF m 62 #[.val (.ref ba), .val (.int (Int32.ofNat (qs ++ [ga]).length)), .val (.int (Int32.ofNat qs.length)), .val (.ref ob), .val (.int (Int32.ofNat (own_b64 qs).length)), .val (.int 1), .val (.int ga), .val (.int 0), .val (.int 0)] [(.int (own_T (ga >>> ((2 : Int32) &&& 31)))), (.int (Int32.ofNat (own_b64 qs).length)), (.ref ob)])
    refine own_castore C S1579 oK ⟨(own_ofNat_nn (by omega)).1, own_ofs (n := 12) (by omega) (by omega)⟩ (own_b64 qs).length (own_ofNat_nn (by omega)).2 (by rw [own_pd_len (by omega)]; omega) (own_g0 ga) (own_c16 (own_TB _)) ge_ob (by decide +kernel) ?_
    intro T1580 h1582 S1581 W1583 f1584
    have f1585 : Arv Z h1582 ob ok .char (12 : Int32) (own_pd 12 (own_b64 qs ++ [(own_g0 ga)])) (.int 0) := by rw [← (own_pdq (n := 12) (A := (own_b64 qs)) (B := (own_b64 qs ++ [(own_g0 ga)])) (v := (own_g0 ga)) (by omega) (by simp))]; exact f1584
    refine own_seg C S1581 [(63, .aload_n 3, 1), (64, .iload 4, 2), (66, .iconst 1, 1), (67, .iadd, 1), (68, .iload 6, 2), (70, .iconst 3, 1), (71, .iand, 1), (72, .iconst 4, 1), (73, .ishl, 1), (74, .iload 7, 2), (76, .iconst 4, 1), (77, .ishr, 1), (78, .ior, 1)] (by decide +kernel) 79 #[.val (.ref ba), .val (.int (Int32.ofNat (qs ++ [ga]).length)), .val (.int (Int32.ofNat qs.length)), .val (.ref ob), .val (.int (Int32.ofNat (own_b64 qs).length)), .val (.int 1), .val (.int ga), .val (.int 0), .val (.int 0)] [(.int (((ga &&& (3 : Int32)) <<< ((4 : Int32) &&& 31)) ||| ((0 : Int32) >>> ((4 : Int32) &&& 31)))), (.int ((Int32.ofNat (own_b64 qs).length) + (1 : Int32))), (.ref ob)] rfl ?_
    have f1586 : n0 ≤ h1582.size := (by rw [W1583.size]; exact z0)
    refine own_callS C S1581 (own_wd hw 44 rfl) (own_wd hw 45 rfl) (own_wd hw 2 rfl) (own_wd hw 46 rfl) (by decide) (own_Met.pay (own_alpha l Z a0 hw (((ga &&& (3 : Int32)) <<< ((4 : Int32) &&& 31)) ||| ((0 : Int32) >>> ((4 : Int32) &&& 31))) h1582 n0 f1586 (own_w1 hga own_R0)) C 2 (own_wd hw 46 rfl) (own_wd hw 2 rfl) (by decide) (by decide)) (fun _ _ _ q => q.2) [(.int (((ga &&& (3 : Int32)) <<< ((4 : Int32) &&& 31)) ||| ((0 : Int32) >>> ((4 : Int32) &&& 31))))] [(.int ((Int32.ofNat (own_b64 qs).length) + (1 : Int32))), (.ref ob)] rfl own_pd43 rfl rfl rfl (Nat.le_of_ble_eq_true rfl) (by decide) (by decide) (by decide +kernel) ?_
    rintro T1588 h1589 v1590 L1591 S1592 ⟨⟨rfl, e1587⟩, -⟩
    rw [e1587] at S1592; clear e1587
    show own_Go p e below _ T1588 (mkF m 82 #[.val (.ref ba), .val (.int (Int32.ofNat (qs ++ [ga]).length)), .val (.int (Int32.ofNat qs.length)), .val (.ref ob), .val (.int (Int32.ofNat (own_b64 qs).length)), .val (.int 1), .val (.int ga), .val (.int 0), .val (.int 0)] [(.int (own_T (((ga &&& (3 : Int32)) <<< ((4 : Int32) &&& 31)) ||| ((0 : Int32) >>> ((4 : Int32) &&& 31))))), (.int ((Int32.ofNat (own_b64 qs).length) + (1 : Int32))), (.ref ob)])
    rw [show ((Int32.ofNat (own_b64 qs).length) + (1 : Int32)) = (Int32.ofNat (own_b64 qs ++ [(own_g0 ga)]).length) from own_addk _ _ (n := 1) rfl m1]
    refine own_castore C S1592 f1585 ⟨(own_ofNat_nn (by omega)).1, own_ofs (n := 12) (by omega) (by omega)⟩ (own_b64 qs ++ [(own_g0 ga)]).length (own_ofNat_nn (by omega)).2 (by rw [own_pd_len (by omega)]; omega) (own_g1 ga 0) (own_c16 (own_TB _)) ge_ob (by decide +kernel) ?_
    intro T1593 h1595 S1594 W1596 f1597
    have f1598 : Arv Z h1595 ob ok .char (12 : Int32) (own_pd 12 (own_b64 qs ++ [(own_g0 ga), (own_g1 ga 0)])) (.int 0) := by rw [← (own_pdq (n := 12) (A := (own_b64 qs ++ [(own_g0 ga)])) (B := (own_b64 qs ++ [(own_g0 ga), (own_g1 ga 0)])) (v := (own_g1 ga 0)) (by omega) (by simp))]; exact f1597
    refine own_seg C S1594 [(83, .iload 5, 2), (85, .iconst 1, 1)] (by decide +kernel) 86 #[.val (.ref ba), .val (.int (Int32.ofNat (qs ++ [ga]).length)), .val (.int (Int32.ofNat qs.length)), .val (.ref ob), .val (.int (Int32.ofNat (own_b64 qs).length)), .val (.int 1), .val (.int ga), .val (.int 0), .val (.int 0)] [(.int 1), (.int 1)] rfl ?_
    refine own_icmp C S1594 (q := .le) (o := 25) (by decide +kernel) 111 (by decide) (by decide) (fun (q1599 : ¬ (1 : Int32) < (1 : Int32)) => ?_) (fun (hq : (1 : Int32) < (1 : Int32)) => False.elim (by revert hq; decide))
    refine own_seg C S1594 [(111, .iload 5, 2), (113, .iconst 2, 1)] (by decide +kernel) 114 #[.val (.ref ba), .val (.int (Int32.ofNat (qs ++ [ga]).length)), .val (.int (Int32.ofNat qs.length)), .val (.ref ob), .val (.int (Int32.ofNat (own_b64 qs).length)), .val (.int 1), .val (.int ga), .val (.int 0), .val (.int 0)] [(.int 2), (.int 1)] rfl ?_
    refine own_icmp C S1594 (q := .le) (o := 22) (by decide +kernel) 136 (by decide) (by decide) (fun (q1600 : ¬ (2 : Int32) < (1 : Int32)) => ?_) (fun (hq : (2 : Int32) < (1 : Int32)) => False.elim (by revert hq; decide))
    refine own_seg C S1594 [(136, .iload 4, 2), (138, .iload 5, 2), (140, .iadd, 1), (141, .iconst 1, 1), (142, .iadd, 1)] (by decide +kernel) 143 #[.val (.ref ba), .val (.int (Int32.ofNat (qs ++ [ga]).length)), .val (.int (Int32.ofNat qs.length)), .val (.ref ob), .val (.int (Int32.ofNat (own_b64 qs).length)), .val (.int 1), .val (.int ga), .val (.int 0), .val (.int 0)] [(.int (((Int32.ofNat (own_b64 qs).length) + (1 : Int32)) + (1 : Int32)))] rfl ?_
    refine own_retI C S1594 (by decide +kernel) (by decide) (by decide) ?_
    have e8 : own_b64 (qs ++ [ga].take 3) = (own_b64 qs ++ [(own_g0 ga), (own_g1 ga 0)]) := by
      have q := own_b64_app (L := qs) (R := [ga]) hq3
      rw [show [ga].take 3 = [ga] from by simp, q]; rfl
    rw [← e8] at f1598
    exact ⟨(by rw [e8, ← own_addk (own_b64 qs) 2 (n := 2) rfl m2, Int32.add_assoc]; rfl), (((Keep.refl _ _).wr W1583 (Or.inl (List.mem_of_getElem? (i := 0) rfl))).wr W1596 (Or.inl (List.mem_of_getElem? (i := 0) rfl))), f1598⟩
  · simp only [List.length_cons, List.length_nil] at hq9
    have hsz : (qs ++ [ga, gb]).length = qs.length + 2 := by simp
    have hga : own_R ga := hR ga (by simp)
    have hgb : own_R gb := hR gb (by simp)
    have c1 : (qs ++ [ga, gb]) = qs ++ ga :: [gb] := by simp
    have c2 : (qs ++ [ga, gb]) = (qs ++ [ga]) ++ gb :: [] := by simp
    have l1 : (qs ++ [ga]).length = qs.length + 1 := by simp
    have l2 : ((qs ++ [ga]) ++ [gb]).length = qs.length + 2 := by simp
    have m1 : (own_b64 qs ++ [(own_g0 ga)]).length = (own_b64 qs).length + 1 := by simp
    have m2 : (own_b64 qs ++ [(own_g0 ga), (own_g1 ga gb)]).length = (own_b64 qs).length + 2 := by simp
    have m3 : (own_b64 qs ++ [(own_g0 ga), (own_g1 ga gb), (own_g2 gb 0)]).length = (own_b64 qs).length + 3 := by simp
    refine own_seg C S0 [(0, .iload_n 2, 1), (1, .iload_n 1, 1)] (by decide +kernel) 2 #[.val (.ref ba), .val (.int (Int32.ofNat (qs ++ [ga, gb]).length)), .val (.int (Int32.ofNat qs.length)), .val (.ref ob), .val (.int (Int32.ofNat (own_b64 qs).length)), .unset, .unset, .unset, .unset] [(.int (Int32.ofNat (qs ++ [ga, gb]).length)), (.int (Int32.ofNat qs.length))] rfl ?_
    refine own_icmp C S0 (q := .lt) (o := 6) (by decide +kernel) 8 (by decide) (by decide) (fun (q1601 : (Int32.ofNat qs.length) < (Int32.ofNat (qs ++ [ga, gb]).length)) => ?_) (fun (hq : ¬ (Int32.ofNat qs.length) < (Int32.ofNat (qs ++ [ga, gb]).length)) => False.elim (hq (own_ofs (by omega) (by omega))))
    refine own_seg C S0 [(8, .iload_n 1, 1), (9, .iload_n 2, 1), (10, .isub, 1)] (by decide +kernel) 11 #[.val (.ref ba), .val (.int (Int32.ofNat (qs ++ [ga, gb]).length)), .val (.int (Int32.ofNat qs.length)), .val (.ref ob), .val (.int (Int32.ofNat (own_b64 qs).length)), .unset, .unset, .unset, .unset] [(.int ((Int32.ofNat (qs ++ [ga, gb]).length) - (Int32.ofNat qs.length)))] rfl ?_
    rw [show ((Int32.ofNat (qs ++ [ga, gb]).length) - (Int32.ofNat qs.length)) = (Int32.ofNat [ga, gb].length) from own_subN _ _]
    show own_Go p e below _ T0 (mkF m 11 #[.val (.ref ba), .val (.int (Int32.ofNat (qs ++ [ga, gb]).length)), .val (.int (Int32.ofNat qs.length)), .val (.ref ob), .val (.int (Int32.ofNat (own_b64 qs).length)), .unset, .unset, .unset, .unset] [(.int 2)])
    refine own_seg C S0 [(11, .istore 5, 2), (13, .aload_n 0, 1), (14, .iload_n 2, 1)] (by decide +kernel) 15 #[.val (.ref ba), .val (.int (Int32.ofNat (qs ++ [ga, gb]).length)), .val (.int (Int32.ofNat qs.length)), .val (.ref ob), .val (.int (Int32.ofNat (own_b64 qs).length)), .val (.int 2), .unset, .unset, .unset] [(.int (Int32.ofNat qs.length)), (.ref ba)] rfl ?_
    refine own_iaload C S0 bK ⟨(own_ofNat_nn (by omega)).1, own_ofs (n := 9) (by omega) (by omega)⟩ (.int ga) (own_pdget c1 (by omega)) (by decide +kernel) ?_
    refine own_seg C S0 [(16, .istore 6, 2), (18, .iload 5, 2), (20, .iconst 1, 1)] (by decide +kernel) 21 #[.val (.ref ba), .val (.int (Int32.ofNat (qs ++ [ga, gb]).length)), .val (.int (Int32.ofNat qs.length)), .val (.ref ob), .val (.int (Int32.ofNat (own_b64 qs).length)), .val (.int 2), .val (.int ga), .unset, .unset] [(.int 1), (.int 2)] rfl ?_
    refine own_icmp C S0 (q := .le) (o := 11) (by decide +kernel) 32 (by decide) (by decide) (fun (hq : ¬ (1 : Int32) < (2 : Int32)) => False.elim (by revert hq; decide)) (fun (q1602 : (1 : Int32) < (2 : Int32)) => ?_)
    refine own_seg C S0 [(24, .aload_n 0, 1), (25, .iload_n 2, 1), (26, .iconst 1, 1), (27, .iadd, 1)] (by decide +kernel) 28 #[.val (.ref ba), .val (.int (Int32.ofNat (qs ++ [ga, gb]).length)), .val (.int (Int32.ofNat qs.length)), .val (.ref ob), .val (.int (Int32.ofNat (own_b64 qs).length)), .val (.int 2), .val (.int ga), .unset, .unset] [(.int ((Int32.ofNat qs.length) + (1 : Int32))), (.ref ba)] rfl ?_
    rw [show ((Int32.ofNat qs.length) + (1 : Int32)) = (Int32.ofNat (qs ++ [ga]).length) from own_snoc _ _]
    refine own_iaload C S0 bK ⟨(own_ofNat_nn (by omega)).1, own_ofs (n := 9) (by omega) (by omega)⟩ (.int gb) (own_pdget c2 (by omega)) (by decide +kernel) ?_
    refine own_seg C S0 [(29, .goto 4, 3), (33, .istore 7, 2), (35, .iload 5, 2), (37, .iconst 2, 1)] (by decide +kernel) 38 #[.val (.ref ba), .val (.int (Int32.ofNat (qs ++ [ga, gb]).length)), .val (.int (Int32.ofNat qs.length)), .val (.ref ob), .val (.int (Int32.ofNat (own_b64 qs).length)), .val (.int 2), .val (.int ga), .val (.int gb), .unset] [(.int 2), (.int 2)] rfl ?_
    refine own_icmp C S0 (q := .le) (o := 11) (by decide +kernel) 49 (by decide) (by decide) (fun (q1603 : ¬ (2 : Int32) < (2 : Int32)) => ?_) (fun (hq : (2 : Int32) < (2 : Int32)) => False.elim (by revert hq; decide))
    refine own_seg C S0 [(49, .iconst 0, 1), (50, .istore 8, 2), (52, .aload_n 3, 1), (53, .iload 4, 2), (55, .iload 6, 2), (57, .iconst 2, 1), (58, .ishr, 1)] (by decide +kernel) 59 #[.val (.ref ba), .val (.int (Int32.ofNat (qs ++ [ga, gb]).length)), .val (.int (Int32.ofNat qs.length)), .val (.ref ob), .val (.int (Int32.ofNat (own_b64 qs).length)), .val (.int 2), .val (.int ga), .val (.int gb), .val (.int 0)] [(.int (ga >>> ((2 : Int32) &&& 31))), (.int (Int32.ofNat (own_b64 qs).length)), (.ref ob)] rfl ?_
    refine own_callS C S0 (own_wd hw 44 rfl) (own_wd hw 45 rfl) (own_wd hw 2 rfl) (own_wd hw 46 rfl) (by decide) (own_Met.pay (own_alpha l Z a0 hw (ga >>> ((2 : Int32) &&& 31)) h0 n0 z0 (own_w0 hga)) C 2 (own_wd hw 46 rfl) (own_wd hw 2 rfl) (by decide) (by decide)) (fun _ _ _ q => q.2) [(.int (ga >>> ((2 : Int32) &&& 31)))] [(.int (Int32.ofNat (own_b64 qs).length)), (.ref ob)] rfl own_pd43 rfl rfl rfl (Nat.le_of_ble_eq_true rfl) (by decide) (by decide) (by decide +kernel) ?_
    rintro T1605 h1606 v1607 L1608 S1609 ⟨⟨rfl, e1604⟩, -⟩
    rw [e1604] at S1609; clear e1604
    show own_Go p e below _ T1605 (mkF m 62 #[.val (.ref ba), .val (.int (Int32.ofNat (qs ++ [ga, gb]).length)), .val (.int (Int32.ofNat qs.length)), .val (.ref ob), .val (.int (Int32.ofNat (own_b64 qs).length)), .val (.int 2), .val (.int ga), .val (.int gb), .val (.int 0)] [(.int (own_T (ga >>> ((2 : Int32) &&& 31)))), (.int (Int32.ofNat (own_b64 qs).length)), (.ref ob)])
    refine own_castore C S1609 oK ⟨(own_ofNat_nn (by omega)).1, own_ofs (n := 12) (by omega) (by omega)⟩ (own_b64 qs).length (own_ofNat_nn (by omega)).2 (by rw [own_pd_len (by omega)]; omega) (own_g0 ga) (own_c16 (own_TB _)) ge_ob (by decide +kernel) ?_
    intro T1610 h1612 S1611 W1613 f1614
    have f1615 : Arv Z h1612 ob ok .char (12 : Int32) (own_pd 12 (own_b64 qs ++ [(own_g0 ga)])) (.int 0) := by rw [← (own_pdq (n := 12) (A := (own_b64 qs)) (B := (own_b64 qs ++ [(own_g0 ga)])) (v := (own_g0 ga)) (by omega) (by simp))]; exact f1614
    refine own_seg C S1611 [(63, .aload_n 3, 1), (64, .iload 4, 2), (66, .iconst 1, 1), (67, .iadd, 1), (68, .iload 6, 2), (70, .iconst 3, 1), (71, .iand, 1), (72, .iconst 4, 1), (73, .ishl, 1), (74, .iload 7, 2), (76, .iconst 4, 1), (77, .ishr, 1), (78, .ior, 1)] (by decide +kernel) 79 #[.val (.ref ba), .val (.int (Int32.ofNat (qs ++ [ga, gb]).length)), .val (.int (Int32.ofNat qs.length)), .val (.ref ob), .val (.int (Int32.ofNat (own_b64 qs).length)), .val (.int 2), .val (.int ga), .val (.int gb), .val (.int 0)] [(.int (((ga &&& (3 : Int32)) <<< ((4 : Int32) &&& 31)) ||| (gb >>> ((4 : Int32) &&& 31)))), (.int ((Int32.ofNat (own_b64 qs).length) + (1 : Int32))), (.ref ob)] rfl ?_
    have f1616 : n0 ≤ h1612.size := (by rw [W1613.size]; exact z0)
    refine own_callS C S1611 (own_wd hw 44 rfl) (own_wd hw 45 rfl) (own_wd hw 2 rfl) (own_wd hw 46 rfl) (by decide) (own_Met.pay (own_alpha l Z a0 hw (((ga &&& (3 : Int32)) <<< ((4 : Int32) &&& 31)) ||| (gb >>> ((4 : Int32) &&& 31))) h1612 n0 f1616 (own_w1 hga hgb)) C 2 (own_wd hw 46 rfl) (own_wd hw 2 rfl) (by decide) (by decide)) (fun _ _ _ q => q.2) [(.int (((ga &&& (3 : Int32)) <<< ((4 : Int32) &&& 31)) ||| (gb >>> ((4 : Int32) &&& 31))))] [(.int ((Int32.ofNat (own_b64 qs).length) + (1 : Int32))), (.ref ob)] rfl own_pd43 rfl rfl rfl (Nat.le_of_ble_eq_true rfl) (by decide) (by decide) (by decide +kernel) ?_
    rintro T1618 h1619 v1620 L1621 S1622 ⟨⟨rfl, e1617⟩, -⟩
    rw [e1617] at S1622; clear e1617
    show own_Go p e below _ T1618 (mkF m 82 #[.val (.ref ba), .val (.int (Int32.ofNat (qs ++ [ga, gb]).length)), .val (.int (Int32.ofNat qs.length)), .val (.ref ob), .val (.int (Int32.ofNat (own_b64 qs).length)), .val (.int 2), .val (.int ga), .val (.int gb), .val (.int 0)] [(.int (own_T (((ga &&& (3 : Int32)) <<< ((4 : Int32) &&& 31)) ||| (gb >>> ((4 : Int32) &&& 31))))), (.int ((Int32.ofNat (own_b64 qs).length) + (1 : Int32))), (.ref ob)])
    rw [show ((Int32.ofNat (own_b64 qs).length) + (1 : Int32)) = (Int32.ofNat (own_b64 qs ++ [(own_g0 ga)]).length) from own_addk _ _ (n := 1) rfl m1]
    refine own_castore C S1622 f1615 ⟨(own_ofNat_nn (by omega)).1, own_ofs (n := 12) (by omega) (by omega)⟩ (own_b64 qs ++ [(own_g0 ga)]).length (own_ofNat_nn (by omega)).2 (by rw [own_pd_len (by omega)]; omega) (own_g1 ga gb) (own_c16 (own_TB _)) ge_ob (by decide +kernel) ?_
    intro T1623 h1625 S1624 W1626 f1627
    have f1628 : Arv Z h1625 ob ok .char (12 : Int32) (own_pd 12 (own_b64 qs ++ [(own_g0 ga), (own_g1 ga gb)])) (.int 0) := by rw [← (own_pdq (n := 12) (A := (own_b64 qs ++ [(own_g0 ga)])) (B := (own_b64 qs ++ [(own_g0 ga), (own_g1 ga gb)])) (v := (own_g1 ga gb)) (by omega) (by simp))]; exact f1627
    refine own_seg C S1624 [(83, .iload 5, 2), (85, .iconst 1, 1)] (by decide +kernel) 86 #[.val (.ref ba), .val (.int (Int32.ofNat (qs ++ [ga, gb]).length)), .val (.int (Int32.ofNat qs.length)), .val (.ref ob), .val (.int (Int32.ofNat (own_b64 qs).length)), .val (.int 2), .val (.int ga), .val (.int gb), .val (.int 0)] [(.int 1), (.int 2)] rfl ?_
    refine own_icmp C S1624 (q := .le) (o := 25) (by decide +kernel) 111 (by decide) (by decide) (fun (hq : ¬ (1 : Int32) < (2 : Int32)) => False.elim (by revert hq; decide)) (fun (q1629 : (1 : Int32) < (2 : Int32)) => ?_)
    refine own_seg C S1624 [(89, .aload_n 3, 1), (90, .iload 4, 2), (92, .iconst 2, 1), (93, .iadd, 1), (94, .iload 7, 2), (96, .bipush 15, 2), (98, .iand, 1), (99, .iconst 2, 1), (100, .ishl, 1), (101, .iload 8, 2), (103, .bipush 6, 2), (105, .ishr, 1), (106, .ior, 1)] (by decide +kernel) 107 #[.val (.ref ba), .val (.int (Int32.ofNat (qs ++ [ga, gb]).length)), .val (.int (Int32.ofNat qs.length)), .val (.ref ob), .val (.int (Int32.ofNat (own_b64 qs).length)), .val (.int 2), .val (.int ga), .val (.int gb), .val (.int 0)] [(.int (((gb &&& (15 : Int32)) <<< ((2 : Int32) &&& 31)) ||| ((0 : Int32) >>> ((6 : Int32) &&& 31)))), (.int ((Int32.ofNat (own_b64 qs).length) + (2 : Int32))), (.ref ob)] rfl ?_
    have f1630 : n0 ≤ h1625.size := (by rw [W1626.size]; exact f1616)
    refine own_callS C S1624 (own_wd hw 44 rfl) (own_wd hw 45 rfl) (own_wd hw 2 rfl) (own_wd hw 46 rfl) (by decide) (own_Met.pay (own_alpha l Z a0 hw (((gb &&& (15 : Int32)) <<< ((2 : Int32) &&& 31)) ||| ((0 : Int32) >>> ((6 : Int32) &&& 31))) h1625 n0 f1630 (own_w2 hgb own_R0)) C 2 (own_wd hw 46 rfl) (own_wd hw 2 rfl) (by decide) (by decide)) (fun _ _ _ q => q.2) [(.int (((gb &&& (15 : Int32)) <<< ((2 : Int32) &&& 31)) ||| ((0 : Int32) >>> ((6 : Int32) &&& 31))))] [(.int ((Int32.ofNat (own_b64 qs).length) + (2 : Int32))), (.ref ob)] rfl own_pd43 rfl rfl rfl (Nat.le_of_ble_eq_true rfl) (by decide) (by decide) (by decide +kernel) ?_
    rintro T1632 h1633 v1634 L1635 S1636 ⟨⟨rfl, e1631⟩, -⟩
    rw [e1631] at S1636; clear e1631
    show own_Go p e below _ T1632 (mkF m 110 #[.val (.ref ba), .val (.int (Int32.ofNat (qs ++ [ga, gb]).length)), .val (.int (Int32.ofNat qs.length)), .val (.ref ob), .val (.int (Int32.ofNat (own_b64 qs).length)), .val (.int 2), .val (.int ga), .val (.int gb), .val (.int 0)] [(.int (own_T (((gb &&& (15 : Int32)) <<< ((2 : Int32) &&& 31)) ||| ((0 : Int32) >>> ((6 : Int32) &&& 31))))), (.int ((Int32.ofNat (own_b64 qs).length) + (2 : Int32))), (.ref ob)])
    rw [show ((Int32.ofNat (own_b64 qs).length) + (2 : Int32)) = (Int32.ofNat (own_b64 qs ++ [(own_g0 ga), (own_g1 ga gb)]).length) from own_addk _ _ (n := 2) rfl m2]
    refine own_castore C S1636 f1628 ⟨(own_ofNat_nn (by omega)).1, own_ofs (n := 12) (by omega) (by omega)⟩ (own_b64 qs ++ [(own_g0 ga), (own_g1 ga gb)]).length (own_ofNat_nn (by omega)).2 (by rw [own_pd_len (by omega)]; omega) (own_g2 gb 0) (own_c16 (own_TB _)) ge_ob (by decide +kernel) ?_
    intro T1637 h1639 S1638 W1640 f1641
    have f1642 : Arv Z h1639 ob ok .char (12 : Int32) (own_pd 12 (own_b64 qs ++ [(own_g0 ga), (own_g1 ga gb), (own_g2 gb 0)])) (.int 0) := by rw [← (own_pdq (n := 12) (A := (own_b64 qs ++ [(own_g0 ga), (own_g1 ga gb)])) (B := (own_b64 qs ++ [(own_g0 ga), (own_g1 ga gb), (own_g2 gb 0)])) (v := (own_g2 gb 0)) (by omega) (by simp))]; exact f1641
    refine own_seg C S1638 [(111, .iload 5, 2), (113, .iconst 2, 1)] (by decide +kernel) 114 #[.val (.ref ba), .val (.int (Int32.ofNat (qs ++ [ga, gb]).length)), .val (.int (Int32.ofNat qs.length)), .val (.ref ob), .val (.int (Int32.ofNat (own_b64 qs).length)), .val (.int 2), .val (.int ga), .val (.int gb), .val (.int 0)] [(.int 2), (.int 2)] rfl ?_
    refine own_icmp C S1638 (q := .le) (o := 22) (by decide +kernel) 136 (by decide) (by decide) (fun (q1643 : ¬ (2 : Int32) < (2 : Int32)) => ?_) (fun (hq : (2 : Int32) < (2 : Int32)) => False.elim (by revert hq; decide))
    refine own_seg C S1638 [(136, .iload 4, 2), (138, .iload 5, 2), (140, .iadd, 1), (141, .iconst 1, 1), (142, .iadd, 1)] (by decide +kernel) 143 #[.val (.ref ba), .val (.int (Int32.ofNat (qs ++ [ga, gb]).length)), .val (.int (Int32.ofNat qs.length)), .val (.ref ob), .val (.int (Int32.ofNat (own_b64 qs).length)), .val (.int 2), .val (.int ga), .val (.int gb), .val (.int 0)] [(.int (((Int32.ofNat (own_b64 qs).length) + (2 : Int32)) + (1 : Int32)))] rfl ?_
    refine own_retI C S1638 (by decide +kernel) (by decide) (by decide) ?_
    have e8 : own_b64 (qs ++ [ga, gb].take 3) = (own_b64 qs ++ [(own_g0 ga), (own_g1 ga gb), (own_g2 gb 0)]) := by
      have q := own_b64_app (L := qs) (R := [ga, gb]) hq3
      rw [show [ga, gb].take 3 = [ga, gb] from by simp, q]; rfl
    rw [← e8] at f1642
    exact ⟨(by rw [e8, ← own_addk (own_b64 qs) 3 (n := 3) rfl m3, Int32.add_assoc]; rfl), ((((Keep.refl _ _).wr W1613 (Or.inl (List.mem_of_getElem? (i := 0) rfl))).wr W1626 (Or.inl (List.mem_of_getElem? (i := 0) rfl))).wr W1640 (Or.inl (List.mem_of_getElem? (i := 0) rfl))), f1642⟩
  · simp only [List.length_cons, List.length_nil] at hq9
    have hsz : (qs ++ (ga :: gb :: gc :: R)).length = qs.length + (R.length + 3) := by simp
    have hga : own_R ga := hR ga (by simp)
    have hgb : own_R gb := hR gb (by simp)
    have hgc : own_R gc := hR gc (by simp)
    have c1 : (qs ++ (ga :: gb :: gc :: R)) = qs ++ ga :: (gb :: gc :: R) := by simp
    have c2 : (qs ++ (ga :: gb :: gc :: R)) = (qs ++ [ga]) ++ gb :: (gc :: R) := by simp
    have c3 : (qs ++ (ga :: gb :: gc :: R)) = ((qs ++ [ga]) ++ [gb]) ++ gc :: R := by simp
    have l1 : (qs ++ [ga]).length = qs.length + 1 := by simp
    have l2 : ((qs ++ [ga]) ++ [gb]).length = qs.length + 2 := by simp
    have m1 : (own_b64 qs ++ [(own_g0 ga)]).length = (own_b64 qs).length + 1 := by simp
    have m2 : (own_b64 qs ++ [(own_g0 ga), (own_g1 ga gb)]).length = (own_b64 qs).length + 2 := by simp
    have m3 : (own_b64 qs ++ [(own_g0 ga), (own_g1 ga gb), (own_g2 gb gc)]).length = (own_b64 qs).length + 3 := by simp
    have m4 : (own_b64 qs ++ [(own_g0 ga), (own_g1 ga gb), (own_g2 gb gc), (own_g3 gc)]).length = (own_b64 qs).length + 4 := by simp
    refine own_seg C S0 [(0, .iload_n 2, 1), (1, .iload_n 1, 1)] (by decide +kernel) 2 #[.val (.ref ba), .val (.int (Int32.ofNat (qs ++ (ga :: gb :: gc :: R)).length)), .val (.int (Int32.ofNat qs.length)), .val (.ref ob), .val (.int (Int32.ofNat (own_b64 qs).length)), .unset, .unset, .unset, .unset] [(.int (Int32.ofNat (qs ++ (ga :: gb :: gc :: R)).length)), (.int (Int32.ofNat qs.length))] rfl ?_
    refine own_icmp C S0 (q := .lt) (o := 6) (by decide +kernel) 8 (by decide) (by decide) (fun (q1644 : (Int32.ofNat qs.length) < (Int32.ofNat (qs ++ (ga :: gb :: gc :: R)).length)) => ?_) (fun (hq : ¬ (Int32.ofNat qs.length) < (Int32.ofNat (qs ++ (ga :: gb :: gc :: R)).length)) => False.elim (hq (own_ofs (by omega) (by omega))))
    refine own_seg C S0 [(8, .iload_n 1, 1), (9, .iload_n 2, 1), (10, .isub, 1)] (by decide +kernel) 11 #[.val (.ref ba), .val (.int (Int32.ofNat (qs ++ (ga :: gb :: gc :: R)).length)), .val (.int (Int32.ofNat qs.length)), .val (.ref ob), .val (.int (Int32.ofNat (own_b64 qs).length)), .unset, .unset, .unset, .unset] [(.int ((Int32.ofNat (qs ++ (ga :: gb :: gc :: R)).length) - (Int32.ofNat qs.length)))] rfl ?_
    rw [show ((Int32.ofNat (qs ++ (ga :: gb :: gc :: R)).length) - (Int32.ofNat qs.length)) = (Int32.ofNat (ga :: gb :: gc :: R).length) from own_subN _ _]
    refine own_seg C S0 [(11, .istore 5, 2), (13, .aload_n 0, 1), (14, .iload_n 2, 1)] (by decide +kernel) 15 #[.val (.ref ba), .val (.int (Int32.ofNat (qs ++ (ga :: gb :: gc :: R)).length)), .val (.int (Int32.ofNat qs.length)), .val (.ref ob), .val (.int (Int32.ofNat (own_b64 qs).length)), .val (.int (Int32.ofNat (ga :: gb :: gc :: R).length)), .unset, .unset, .unset] [(.int (Int32.ofNat qs.length)), (.ref ba)] rfl ?_
    refine own_iaload C S0 bK ⟨(own_ofNat_nn (by omega)).1, own_ofs (n := 9) (by omega) (by omega)⟩ (.int ga) (own_pdget c1 (by omega)) (by decide +kernel) ?_
    refine own_seg C S0 [(16, .istore 6, 2), (18, .iload 5, 2), (20, .iconst 1, 1)] (by decide +kernel) 21 #[.val (.ref ba), .val (.int (Int32.ofNat (qs ++ (ga :: gb :: gc :: R)).length)), .val (.int (Int32.ofNat qs.length)), .val (.ref ob), .val (.int (Int32.ofNat (own_b64 qs).length)), .val (.int (Int32.ofNat (ga :: gb :: gc :: R).length)), .val (.int ga), .unset, .unset] [(.int 1), (.int (Int32.ofNat (ga :: gb :: gc :: R).length))] rfl ?_
    refine own_icmp C S0 (q := .le) (o := 11) (by decide +kernel) 32 (by decide) (by decide) (fun (hq : ¬ (1 : Int32) < (Int32.ofNat (ga :: gb :: gc :: R).length)) => False.elim (hq (own_ofs (i := 1) (by simp only [List.length_cons]; omega) (by simp only [List.length_cons]; omega)))) (fun (q1645 : (1 : Int32) < (Int32.ofNat (ga :: gb :: gc :: R).length)) => ?_)
    refine own_seg C S0 [(24, .aload_n 0, 1), (25, .iload_n 2, 1), (26, .iconst 1, 1), (27, .iadd, 1)] (by decide +kernel) 28 #[.val (.ref ba), .val (.int (Int32.ofNat (qs ++ (ga :: gb :: gc :: R)).length)), .val (.int (Int32.ofNat qs.length)), .val (.ref ob), .val (.int (Int32.ofNat (own_b64 qs).length)), .val (.int (Int32.ofNat (ga :: gb :: gc :: R).length)), .val (.int ga), .unset, .unset] [(.int ((Int32.ofNat qs.length) + (1 : Int32))), (.ref ba)] rfl ?_
    rw [show ((Int32.ofNat qs.length) + (1 : Int32)) = (Int32.ofNat (qs ++ [ga]).length) from own_snoc _ _]
    refine own_iaload C S0 bK ⟨(own_ofNat_nn (by omega)).1, own_ofs (n := 9) (by omega) (by omega)⟩ (.int gb) (own_pdget c2 (by omega)) (by decide +kernel) ?_
    refine own_seg C S0 [(29, .goto 4, 3), (33, .istore 7, 2), (35, .iload 5, 2), (37, .iconst 2, 1)] (by decide +kernel) 38 #[.val (.ref ba), .val (.int (Int32.ofNat (qs ++ (ga :: gb :: gc :: R)).length)), .val (.int (Int32.ofNat qs.length)), .val (.ref ob), .val (.int (Int32.ofNat (own_b64 qs).length)), .val (.int (Int32.ofNat (ga :: gb :: gc :: R).length)), .val (.int ga), .val (.int gb), .unset] [(.int 2), (.int (Int32.ofNat (ga :: gb :: gc :: R).length))] rfl ?_
    refine own_icmp C S0 (q := .le) (o := 11) (by decide +kernel) 49 (by decide) (by decide) (fun (hq : ¬ (2 : Int32) < (Int32.ofNat (ga :: gb :: gc :: R).length)) => False.elim (hq (own_ofs (i := 2) (by simp only [List.length_cons]; omega) (by simp only [List.length_cons]; omega)))) (fun (q1646 : (2 : Int32) < (Int32.ofNat (ga :: gb :: gc :: R).length)) => ?_)
    refine own_seg C S0 [(41, .aload_n 0, 1), (42, .iload_n 2, 1), (43, .iconst 2, 1), (44, .iadd, 1)] (by decide +kernel) 45 #[.val (.ref ba), .val (.int (Int32.ofNat (qs ++ (ga :: gb :: gc :: R)).length)), .val (.int (Int32.ofNat qs.length)), .val (.ref ob), .val (.int (Int32.ofNat (own_b64 qs).length)), .val (.int (Int32.ofNat (ga :: gb :: gc :: R).length)), .val (.int ga), .val (.int gb), .unset] [(.int ((Int32.ofNat qs.length) + (2 : Int32))), (.ref ba)] rfl ?_
    rw [show ((Int32.ofNat qs.length) + (2 : Int32)) = (Int32.ofNat ((qs ++ [ga]) ++ [gb]).length) from own_snoc2 _ _ _]
    refine own_iaload C S0 bK ⟨(own_ofNat_nn (by omega)).1, own_ofs (n := 9) (by omega) (by omega)⟩ (.int gc) (own_pdget c3 (by omega)) (by decide +kernel) ?_
    refine own_seg C S0 [(46, .goto 4, 3), (50, .istore 8, 2), (52, .aload_n 3, 1), (53, .iload 4, 2), (55, .iload 6, 2), (57, .iconst 2, 1), (58, .ishr, 1)] (by decide +kernel) 59 #[.val (.ref ba), .val (.int (Int32.ofNat (qs ++ (ga :: gb :: gc :: R)).length)), .val (.int (Int32.ofNat qs.length)), .val (.ref ob), .val (.int (Int32.ofNat (own_b64 qs).length)), .val (.int (Int32.ofNat (ga :: gb :: gc :: R).length)), .val (.int ga), .val (.int gb), .val (.int gc)] [(.int (ga >>> ((2 : Int32) &&& 31))), (.int (Int32.ofNat (own_b64 qs).length)), (.ref ob)] rfl ?_
    refine own_callS C S0 (own_wd hw 44 rfl) (own_wd hw 45 rfl) (own_wd hw 2 rfl) (own_wd hw 46 rfl) (by decide) (own_Met.pay (own_alpha l Z a0 hw (ga >>> ((2 : Int32) &&& 31)) h0 n0 z0 (own_w0 hga)) C 2 (own_wd hw 46 rfl) (own_wd hw 2 rfl) (by decide) (by decide)) (fun _ _ _ q => q.2) [(.int (ga >>> ((2 : Int32) &&& 31)))] [(.int (Int32.ofNat (own_b64 qs).length)), (.ref ob)] rfl own_pd43 rfl rfl rfl (Nat.le_of_ble_eq_true rfl) (by decide) (by decide) (by decide +kernel) ?_
    rintro T1648 h1649 v1650 L1651 S1652 ⟨⟨rfl, e1647⟩, -⟩
    rw [e1647] at S1652; clear e1647
    show own_Go p e below _ T1648 (mkF m 62 #[.val (.ref ba), .val (.int (Int32.ofNat (qs ++ (ga :: gb :: gc :: R)).length)), .val (.int (Int32.ofNat qs.length)), .val (.ref ob), .val (.int (Int32.ofNat (own_b64 qs).length)), .val (.int (Int32.ofNat (ga :: gb :: gc :: R).length)), .val (.int ga), .val (.int gb), .val (.int gc)] [(.int (own_T (ga >>> ((2 : Int32) &&& 31)))), (.int (Int32.ofNat (own_b64 qs).length)), (.ref ob)])
    refine own_castore C S1652 oK ⟨(own_ofNat_nn (by omega)).1, own_ofs (n := 12) (by omega) (by omega)⟩ (own_b64 qs).length (own_ofNat_nn (by omega)).2 (by rw [own_pd_len (by omega)]; omega) (own_g0 ga) (own_c16 (own_TB _)) ge_ob (by decide +kernel) ?_
    intro T1653 h1655 S1654 W1656 f1657
    have f1658 : Arv Z h1655 ob ok .char (12 : Int32) (own_pd 12 (own_b64 qs ++ [(own_g0 ga)])) (.int 0) := by rw [← (own_pdq (n := 12) (A := (own_b64 qs)) (B := (own_b64 qs ++ [(own_g0 ga)])) (v := (own_g0 ga)) (by omega) (by simp))]; exact f1657
    refine own_seg C S1654 [(63, .aload_n 3, 1), (64, .iload 4, 2), (66, .iconst 1, 1), (67, .iadd, 1), (68, .iload 6, 2), (70, .iconst 3, 1), (71, .iand, 1), (72, .iconst 4, 1), (73, .ishl, 1), (74, .iload 7, 2), (76, .iconst 4, 1), (77, .ishr, 1), (78, .ior, 1)] (by decide +kernel) 79 #[.val (.ref ba), .val (.int (Int32.ofNat (qs ++ (ga :: gb :: gc :: R)).length)), .val (.int (Int32.ofNat qs.length)), .val (.ref ob), .val (.int (Int32.ofNat (own_b64 qs).length)), .val (.int (Int32.ofNat (ga :: gb :: gc :: R).length)), .val (.int ga), .val (.int gb), .val (.int gc)] [(.int (((ga &&& (3 : Int32)) <<< ((4 : Int32) &&& 31)) ||| (gb >>> ((4 : Int32) &&& 31)))), (.int ((Int32.ofNat (own_b64 qs).length) + (1 : Int32))), (.ref ob)] rfl ?_
    have f1659 : n0 ≤ h1655.size := (by rw [W1656.size]; exact z0)
    refine own_callS C S1654 (own_wd hw 44 rfl) (own_wd hw 45 rfl) (own_wd hw 2 rfl) (own_wd hw 46 rfl) (by decide) (own_Met.pay (own_alpha l Z a0 hw (((ga &&& (3 : Int32)) <<< ((4 : Int32) &&& 31)) ||| (gb >>> ((4 : Int32) &&& 31))) h1655 n0 f1659 (own_w1 hga hgb)) C 2 (own_wd hw 46 rfl) (own_wd hw 2 rfl) (by decide) (by decide)) (fun _ _ _ q => q.2) [(.int (((ga &&& (3 : Int32)) <<< ((4 : Int32) &&& 31)) ||| (gb >>> ((4 : Int32) &&& 31))))] [(.int ((Int32.ofNat (own_b64 qs).length) + (1 : Int32))), (.ref ob)] rfl own_pd43 rfl rfl rfl (Nat.le_of_ble_eq_true rfl) (by decide) (by decide) (by decide +kernel) ?_
    rintro T1661 h1662 v1663 L1664 S1665 ⟨⟨rfl, e1660⟩, -⟩
    rw [e1660] at S1665; clear e1660
    show own_Go p e below _ T1661 (mkF m 82 #[.val (.ref ba), .val (.int (Int32.ofNat (qs ++ (ga :: gb :: gc :: R)).length)), .val (.int (Int32.ofNat qs.length)), .val (.ref ob), .val (.int (Int32.ofNat (own_b64 qs).length)), .val (.int (Int32.ofNat (ga :: gb :: gc :: R).length)), .val (.int ga), .val (.int gb), .val (.int gc)] [(.int (own_T (((ga &&& (3 : Int32)) <<< ((4 : Int32) &&& 31)) ||| (gb >>> ((4 : Int32) &&& 31))))), (.int ((Int32.ofNat (own_b64 qs).length) + (1 : Int32))), (.ref ob)])
    rw [show ((Int32.ofNat (own_b64 qs).length) + (1 : Int32)) = (Int32.ofNat (own_b64 qs ++ [(own_g0 ga)]).length) from own_addk _ _ (n := 1) rfl m1]
    refine own_castore C S1665 f1658 ⟨(own_ofNat_nn (by omega)).1, own_ofs (n := 12) (by omega) (by omega)⟩ (own_b64 qs ++ [(own_g0 ga)]).length (own_ofNat_nn (by omega)).2 (by rw [own_pd_len (by omega)]; omega) (own_g1 ga gb) (own_c16 (own_TB _)) ge_ob (by decide +kernel) ?_
    intro T1666 h1668 S1667 W1669 f1670
    have f1671 : Arv Z h1668 ob ok .char (12 : Int32) (own_pd 12 (own_b64 qs ++ [(own_g0 ga), (own_g1 ga gb)])) (.int 0) := by rw [← (own_pdq (n := 12) (A := (own_b64 qs ++ [(own_g0 ga)])) (B := (own_b64 qs ++ [(own_g0 ga), (own_g1 ga gb)])) (v := (own_g1 ga gb)) (by omega) (by simp))]; exact f1670
    refine own_seg C S1667 [(83, .iload 5, 2), (85, .iconst 1, 1)] (by decide +kernel) 86 #[.val (.ref ba), .val (.int (Int32.ofNat (qs ++ (ga :: gb :: gc :: R)).length)), .val (.int (Int32.ofNat qs.length)), .val (.ref ob), .val (.int (Int32.ofNat (own_b64 qs).length)), .val (.int (Int32.ofNat (ga :: gb :: gc :: R).length)), .val (.int ga), .val (.int gb), .val (.int gc)] [(.int 1), (.int (Int32.ofNat (ga :: gb :: gc :: R).length))] rfl ?_
    refine own_icmp C S1667 (q := .le) (o := 25) (by decide +kernel) 111 (by decide) (by decide) (fun (hq : ¬ (1 : Int32) < (Int32.ofNat (ga :: gb :: gc :: R).length)) => False.elim (hq (own_ofs (i := 1) (by simp only [List.length_cons]; omega) (by simp only [List.length_cons]; omega)))) (fun (q1672 : (1 : Int32) < (Int32.ofNat (ga :: gb :: gc :: R).length)) => ?_)
    refine own_seg C S1667 [(89, .aload_n 3, 1), (90, .iload 4, 2), (92, .iconst 2, 1), (93, .iadd, 1), (94, .iload 7, 2), (96, .bipush 15, 2), (98, .iand, 1), (99, .iconst 2, 1), (100, .ishl, 1), (101, .iload 8, 2), (103, .bipush 6, 2), (105, .ishr, 1), (106, .ior, 1)] (by decide +kernel) 107 #[.val (.ref ba), .val (.int (Int32.ofNat (qs ++ (ga :: gb :: gc :: R)).length)), .val (.int (Int32.ofNat qs.length)), .val (.ref ob), .val (.int (Int32.ofNat (own_b64 qs).length)), .val (.int (Int32.ofNat (ga :: gb :: gc :: R).length)), .val (.int ga), .val (.int gb), .val (.int gc)] [(.int (((gb &&& (15 : Int32)) <<< ((2 : Int32) &&& 31)) ||| (gc >>> ((6 : Int32) &&& 31)))), (.int ((Int32.ofNat (own_b64 qs).length) + (2 : Int32))), (.ref ob)] rfl ?_
    have f1673 : n0 ≤ h1668.size := (by rw [W1669.size]; exact f1659)
    refine own_callS C S1667 (own_wd hw 44 rfl) (own_wd hw 45 rfl) (own_wd hw 2 rfl) (own_wd hw 46 rfl) (by decide) (own_Met.pay (own_alpha l Z a0 hw (((gb &&& (15 : Int32)) <<< ((2 : Int32) &&& 31)) ||| (gc >>> ((6 : Int32) &&& 31))) h1668 n0 f1673 (own_w2 hgb hgc)) C 2 (own_wd hw 46 rfl) (own_wd hw 2 rfl) (by decide) (by decide)) (fun _ _ _ q => q.2) [(.int (((gb &&& (15 : Int32)) <<< ((2 : Int32) &&& 31)) ||| (gc >>> ((6 : Int32) &&& 31))))] [(.int ((Int32.ofNat (own_b64 qs).length) + (2 : Int32))), (.ref ob)] rfl own_pd43 rfl rfl rfl (Nat.le_of_ble_eq_true rfl) (by decide) (by decide) (by decide +kernel) ?_
    rintro T1675 h1676 v1677 L1678 S1679 ⟨⟨rfl, e1674⟩, -⟩
    rw [e1674] at S1679; clear e1674
    show own_Go p e below _ T1675 (mkF m 110 #[.val (.ref ba), .val (.int (Int32.ofNat (qs ++ (ga :: gb :: gc :: R)).length)), .val (.int (Int32.ofNat qs.length)), .val (.ref ob), .val (.int (Int32.ofNat (own_b64 qs).length)), .val (.int (Int32.ofNat (ga :: gb :: gc :: R).length)), .val (.int ga), .val (.int gb), .val (.int gc)] [(.int (own_T (((gb &&& (15 : Int32)) <<< ((2 : Int32) &&& 31)) ||| (gc >>> ((6 : Int32) &&& 31))))), (.int ((Int32.ofNat (own_b64 qs).length) + (2 : Int32))), (.ref ob)])
    rw [show ((Int32.ofNat (own_b64 qs).length) + (2 : Int32)) = (Int32.ofNat (own_b64 qs ++ [(own_g0 ga), (own_g1 ga gb)]).length) from own_addk _ _ (n := 2) rfl m2]
    refine own_castore C S1679 f1671 ⟨(own_ofNat_nn (by omega)).1, own_ofs (n := 12) (by omega) (by omega)⟩ (own_b64 qs ++ [(own_g0 ga), (own_g1 ga gb)]).length (own_ofNat_nn (by omega)).2 (by rw [own_pd_len (by omega)]; omega) (own_g2 gb gc) (own_c16 (own_TB _)) ge_ob (by decide +kernel) ?_
    intro T1680 h1682 S1681 W1683 f1684
    have f1685 : Arv Z h1682 ob ok .char (12 : Int32) (own_pd 12 (own_b64 qs ++ [(own_g0 ga), (own_g1 ga gb), (own_g2 gb gc)])) (.int 0) := by rw [← (own_pdq (n := 12) (A := (own_b64 qs ++ [(own_g0 ga), (own_g1 ga gb)])) (B := (own_b64 qs ++ [(own_g0 ga), (own_g1 ga gb), (own_g2 gb gc)])) (v := (own_g2 gb gc)) (by omega) (by simp))]; exact f1684
    refine own_seg C S1681 [(111, .iload 5, 2), (113, .iconst 2, 1)] (by decide +kernel) 114 #[.val (.ref ba), .val (.int (Int32.ofNat (qs ++ (ga :: gb :: gc :: R)).length)), .val (.int (Int32.ofNat qs.length)), .val (.ref ob), .val (.int (Int32.ofNat (own_b64 qs).length)), .val (.int (Int32.ofNat (ga :: gb :: gc :: R).length)), .val (.int ga), .val (.int gb), .val (.int gc)] [(.int 2), (.int (Int32.ofNat (ga :: gb :: gc :: R).length))] rfl ?_
    refine own_icmp C S1681 (q := .le) (o := 22) (by decide +kernel) 136 (by decide) (by decide) (fun (hq : ¬ (2 : Int32) < (Int32.ofNat (ga :: gb :: gc :: R).length)) => False.elim (hq (own_ofs (i := 2) (by simp only [List.length_cons]; omega) (by simp only [List.length_cons]; omega)))) (fun (q1686 : (2 : Int32) < (Int32.ofNat (ga :: gb :: gc :: R).length)) => ?_)
    refine own_seg C S1681 [(117, .aload_n 3, 1), (118, .iload 4, 2), (120, .iconst 3, 1), (121, .iadd, 1), (122, .iload 8, 2), (124, .bipush 63, 2), (126, .iand, 1)] (by decide +kernel) 127 #[.val (.ref ba), .val (.int (Int32.ofNat (qs ++ (ga :: gb :: gc :: R)).length)), .val (.int (Int32.ofNat qs.length)), .val (.ref ob), .val (.int (Int32.ofNat (own_b64 qs).length)), .val (.int (Int32.ofNat (ga :: gb :: gc :: R).length)), .val (.int ga), .val (.int gb), .val (.int gc)] [(.int (gc &&& (63 : Int32))), (.int ((Int32.ofNat (own_b64 qs).length) + (3 : Int32))), (.ref ob)] rfl ?_
    have f1687 : n0 ≤ h1682.size := (by rw [W1683.size]; exact f1673)
    refine own_callS C S1681 (own_wd hw 44 rfl) (own_wd hw 45 rfl) (own_wd hw 2 rfl) (own_wd hw 46 rfl) (by decide) (own_Met.pay (own_alpha l Z a0 hw (gc &&& (63 : Int32)) h1682 n0 f1687 (own_w3 _)) C 2 (own_wd hw 46 rfl) (own_wd hw 2 rfl) (by decide) (by decide)) (fun _ _ _ q => q.2) [(.int (gc &&& (63 : Int32)))] [(.int ((Int32.ofNat (own_b64 qs).length) + (3 : Int32))), (.ref ob)] rfl own_pd43 rfl rfl rfl (Nat.le_of_ble_eq_true rfl) (by decide) (by decide) (by decide +kernel) ?_
    rintro T1689 h1690 v1691 L1692 S1693 ⟨⟨rfl, e1688⟩, -⟩
    rw [e1688] at S1693; clear e1688
    show own_Go p e below _ T1689 (mkF m 130 #[.val (.ref ba), .val (.int (Int32.ofNat (qs ++ (ga :: gb :: gc :: R)).length)), .val (.int (Int32.ofNat qs.length)), .val (.ref ob), .val (.int (Int32.ofNat (own_b64 qs).length)), .val (.int (Int32.ofNat (ga :: gb :: gc :: R).length)), .val (.int ga), .val (.int gb), .val (.int gc)] [(.int (own_T (gc &&& (63 : Int32)))), (.int ((Int32.ofNat (own_b64 qs).length) + (3 : Int32))), (.ref ob)])
    rw [show ((Int32.ofNat (own_b64 qs).length) + (3 : Int32)) = (Int32.ofNat (own_b64 qs ++ [(own_g0 ga), (own_g1 ga gb), (own_g2 gb gc)]).length) from own_addk _ _ (n := 3) rfl m3]
    refine own_castore C S1693 f1685 ⟨(own_ofNat_nn (by omega)).1, own_ofs (n := 12) (by omega) (by omega)⟩ (own_b64 qs ++ [(own_g0 ga), (own_g1 ga gb), (own_g2 gb gc)]).length (own_ofNat_nn (by omega)).2 (by rw [own_pd_len (by omega)]; omega) (own_g3 gc) (own_c16 (own_TB _)) ge_ob (by decide +kernel) ?_
    intro T1694 h1696 S1695 W1697 f1698
    have f1699 : Arv Z h1696 ob ok .char (12 : Int32) (own_pd 12 (own_b64 qs ++ [(own_g0 ga), (own_g1 ga gb), (own_g2 gb gc), (own_g3 gc)])) (.int 0) := by rw [← (own_pdq (n := 12) (A := (own_b64 qs ++ [(own_g0 ga), (own_g1 ga gb), (own_g2 gb gc)])) (B := (own_b64 qs ++ [(own_g0 ga), (own_g1 ga gb), (own_g2 gb gc), (own_g3 gc)])) (v := (own_g3 gc)) (by omega) (by simp))]; exact f1698
    refine own_seg C S1695 [(131, .iload 4, 2), (133, .iconst 4, 1), (134, .iadd, 1)] (by decide +kernel) 135 #[.val (.ref ba), .val (.int (Int32.ofNat (qs ++ (ga :: gb :: gc :: R)).length)), .val (.int (Int32.ofNat qs.length)), .val (.ref ob), .val (.int (Int32.ofNat (own_b64 qs).length)), .val (.int (Int32.ofNat (ga :: gb :: gc :: R).length)), .val (.int ga), .val (.int gb), .val (.int gc)] [(.int ((Int32.ofNat (own_b64 qs).length) + (4 : Int32)))] rfl ?_
    refine own_retI C S1695 (by decide +kernel) (by decide) (by decide) ?_
    have e8 : own_b64 (qs ++ (ga :: gb :: gc :: R).take 3) = (own_b64 qs ++ [(own_g0 ga), (own_g1 ga gb), (own_g2 gb gc), (own_g3 gc)]) := by
      have q := own_b64_app (L := qs) (R := [ga, gb, gc]) hq3
      rw [show (ga :: gb :: gc :: R).take 3 = [ga, gb, gc] from by simp, q]; rfl
    rw [← e8] at f1699
    exact ⟨(by rw [own_addk (own_b64 qs) 4 (n := 4) rfl m4, ← e8]), (((((Keep.refl _ _).wr W1656 (Or.inl (List.mem_of_getElem? (i := 0) rfl))).wr W1669 (Or.inl (List.mem_of_getElem? (i := 0) rfl))).wr W1683 (Or.inl (List.mem_of_getElem? (i := 0) rfl))).wr W1697 (Or.inl (List.mem_of_getElem? (i := 0) rfl))), f1699⟩
theorem own_gr0 (l : Launch) (Z : State) (a0 : Array Value) (hw : ∀ d ∈ tables_1, d.before a0 Z = true) (ba : Addr) (n : Int32) (i : Int32) (ob : Addr) (o : Int32) (h0 : Heap) (n0 : Nat) (z0 : n0 ≤ h0.size) (hi : ¬ i < n) :
    own_Met l Z (⟨"com/example/exact_rest/exactrest/NodeIdsOfPinLaw", "group", "([III[CI)I"⟩ : MethodName) method_6_code 9 (some .int) ({ frames := 0, cells := 0, slots := 0, locals := 0 } : Room) n0 #[(.ref ba), (.int n), (.int i), (.ref ob), (.int o)] h0 (fun v h => v = some (.int o) ∧ h = h0) := by
  refine own_met (by decide +kernel) #[.val (.ref ba), .val (.int n), .val (.int i), .val (.ref ob), .val (.int o), .unset, .unset, .unset, .unset] (fun m => by first | (simp [entryFrame, mkF, argsToLocals, Value.category]; done) | rfl) ?_
  intro p e s m below meth c T0 C S0
  refine own_seg C S0 [(0, .iload_n 2, 1), (1, .iload_n 1, 1)] (by decide +kernel) 2 #[.val (.ref ba), .val (.int n), .val (.int i), .val (.ref ob), .val (.int o), .unset, .unset, .unset, .unset] [(.int n), (.int i)] rfl ?_
  refine own_icmp C S0 (q := .lt) (o := 6) (by decide +kernel) 8 (by decide) (by decide) (fun (hq : i < n) => False.elim (hi hq)) (fun (q1700 : ¬ i < n) => ?_)
  refine own_seg C S0 [(5, .iload 4, 2)] (by decide +kernel) 7 #[.val (.ref ba), .val (.int n), .val (.int i), .val (.ref ob), .val (.int o), .unset, .unset, .unset, .unset] [(.int o)] rfl ?_
  refine own_retI C S0 (by decide +kernel) (by decide) (by decide) ?_
  exact ⟨rfl, rfl⟩
theorem own_at (l : Launch) (Z : State) (a0 : Array Value) (hw : ∀ d ∈ tables_1, d.before a0 Z = true) (G1 : Int32) (G3 : Value) (x : Addr) (t : Addr) (tk : ClassId) (ob : Addr) (ok : ClassId) (nx : Int32) (j : Int32) (L : List Int32) (jn : Nat) (h0 : Heap) (n0 : Nat) (z0 : n0 ≤ h0.size) (X00 : Old Z n0 h0) (xE : Exa Z h0 x "java/lang/String") (xV : Fld Z h0 x "java/lang/String" "value" "[B" (.ref t)) (xC : Fld Z h0 x "java/lang/String" "coder" "B" (.int 0)) (tK : Arv Z h0 t tk .byte (Int32.ofNat L.length) (own_sv L) (.int 0)) (oK : Arv Z h0 ob ok .char (12 : Int32) (own_pd 12 L) (.int 0)) (O2 : Sta Z Z.heap "java/lang/String" "COMPACT_STRINGS" "Z" (.int G1)) (O4 : Sta Z Z.heap "jdk/internal/util/Preconditions" "SIOOBE_FORMATTER" "Ljava/util/function/BiFunction;" G3) (P5 : ¬ G1 = (0 : Int32)) (rG3 : G3.isRef = true) (hn : nx = Int32.ofNat L.length) (hj : j = Int32.ofNat jn) (hjl : jn ≤ 11) (hl : L.length ≤ 12) (hL : ∀ x ∈ L, own_R x) :
    own_Met l Z (⟨"com/example/exact_rest/exactrest/NodeIdsOfPinLaw", "at", "(Ljava/lang/String;[CII)Z"⟩ : MethodName) method_7_code 4 (some .boolean) ({ frames := 4, cells := 0, slots := 0, locals := 53 } : Room) n0 #[(.ref x), (.ref ob), (.int nx), (.int j)] h0 (fun v h => v = some (.int 1) ∧ h = h0) := by
  refine own_met (by decide +kernel) #[.val (.ref x), .val (.ref ob), .val (.int nx), .val (.int j)] (fun m => by first | (simp [entryFrame, mkF, argsToLocals, Value.category]; done) | rfl) ?_
  intro p e s m below meth c T0 C S0
  subst hn
  subst hj
  show own_Go p e below _ T0 (mkF m 0 #[.val (.ref x), .val (.ref ob), .val (.int (Int32.ofNat L.length)), .val (.int (Int32.ofNat jn))] [])
  refine own_seg C S0 [(0, .iload_n 3, 1), (1, .iload_n 2, 1)] (by decide +kernel) 2 #[.val (.ref x), .val (.ref ob), .val (.int (Int32.ofNat L.length)), .val (.int (Int32.ofNat jn))] [(.int (Int32.ofNat L.length)), (.int (Int32.ofNat jn))] rfl ?_
  refine own_icmp C S0 (q := .ge) (o := 14) (by decide +kernel) 16 (by decide) (by decide) (fun (q1701 : ¬ (Int32.ofNat jn) < (Int32.ofNat L.length)) => ?_) (fun (q1702 : (Int32.ofNat jn) < (Int32.ofNat L.length)) => ?_)
  · refine own_seg C S0 [(16, .iconst 1, 1), (17, .goto 4, 3)] (by decide +kernel) 21 #[.val (.ref x), .val (.ref ob), .val (.int (Int32.ofNat L.length)), .val (.int (Int32.ofNat jn))] [(.int 1)] rfl ?_
    refine own_retZ C S0 (by decide +kernel) (by decide) (by decide) (by decide) ?_
    exact ⟨rfl, rfl⟩
  · have hlt : jn < L.length := (own_ofNat_lt (by omega) (by omega)).mp q1702
    have hcr := hL _ (own_getD_mem hlt)
    refine own_seg C S0 [(5, .aload_n 0, 1), (6, .iload_n 3, 1)] (by decide +kernel) 7 #[.val (.ref x), .val (.ref ob), .val (.int (Int32.ofNat L.length)), .val (.int (Int32.ofNat jn))] [(.int (Int32.ofNat jn)), (.ref x)] rfl ?_
    refine own_callV C S0 (own_wd hw 270 rfl) (own_wd hw 271 rfl) (own_wd hw 273 rfl) (own_wd hw 273 rfl) rfl (own_wd hw 272 rfl) (by decide) (own_Met.pay (own_sch l Z a0 hw G1 G3 x _ _ _ _ (Int32.ofNat jn) ((L.getD jn 0).toInt8.toInt32) (L.getD jn 0) h0 n0 z0 X00 xE xV xC tK O2 O4 P5 rG3 (⟨(own_ofNat_nn (by omega)).1, q1702⟩) (own_getD (by omega) hlt) (own_by hcr) (own_c16 hcr)) C 0 (own_wd hw 274 rfl) (own_wd hw 6 rfl) (by decide) (by decide)) (fun _ _ _ q => q.2) xE [(.int (Int32.ofNat jn))] [] rfl own_pd43 rfl rfl rfl (Nat.le_of_ble_eq_true rfl) (by decide) (by decide) (by decide +kernel) ?_
    rintro T1704 h1705 v1706 L1707 S1708 ⟨⟨rfl, e1703⟩, -⟩
    rw [e1703] at S1708; clear e1703
    show own_Go p e below _ T1704 (mkF m 10 #[.val (.ref x), .val (.ref ob), .val (.int (Int32.ofNat L.length)), .val (.int (Int32.ofNat jn))] [(.int (L.getD jn 0))])
    refine own_seg C S1708 [(10, .aload_n 1, 1), (11, .iload_n 3, 1)] (by decide +kernel) 12 #[.val (.ref x), .val (.ref ob), .val (.int (Int32.ofNat L.length)), .val (.int (Int32.ofNat jn))] [(.int (Int32.ofNat jn)), (.ref ob), (.int (L.getD jn 0))] rfl ?_
    refine own_caload C S1708 oK ⟨(own_ofNat_nn (by omega)).1, own_ofs (n := 12) (by omega) (by omega)⟩ (.int (L.getD jn 0)) (own_pdgetD (by omega) hlt) (by decide +kernel) ?_
    refine own_icmp C S1708 (q := .ne) (o := 7) (by decide +kernel) 20 (by decide) (by decide) (fun (hq : ¬ (L.getD jn 0) = (L.getD jn 0)) => False.elim (hq rfl)) (fun (q1709 : (L.getD jn 0) = (L.getD jn 0)) => ?_)
    refine own_seg C S1708 [(16, .iconst 1, 1), (17, .goto 4, 3)] (by decide +kernel) 21 #[.val (.ref x), .val (.ref ob), .val (.int (Int32.ofNat L.length)), .val (.int (Int32.ofNat jn))] [(.int 1)] rfl ?_
    refine own_retZ C S1708 (by decide +kernel) (by decide) (by decide) (by decide) ?_
    exact ⟨rfl, rfl⟩
theorem own_pd44 : parseMethodDescriptor "(CCI)Ljava/lang/String;" = some ⟨[.char, .char, .int], (some (.object "java/lang/String"))⟩ := by decide +kernel
theorem own_pd45 : parseMethodDescriptor "(Ljava/lang/String;Ljava/lang/String;)Ljava/lang/String;" = some ⟨[(.object "java/lang/String"), (.object "java/lang/String")], (some (.object "java/lang/String"))⟩ := by decide +kernel
theorem own_pd46 : parseMethodDescriptor "(Ljava/lang/String;[CII)Z" = some ⟨[(.object "java/lang/String"), (.array .char), .int, .int], (some .boolean)⟩ := by decide +kernel
theorem own_pd47 : parseMethodDescriptor "([III[CI)I" = some ⟨[(.array .int), .int, .int, (.array .char), .int], (some .int)⟩ := by decide +kernel
theorem own_pd48 : parseMethodDescriptor "([IIC)I" = some ⟨[(.array .int), .int, .char], (some .int)⟩ := by decide +kernel
theorem own_law (l : Launch) (Z : State) (a0 : Array Value) (hw : ∀ d ∈ tables_1, d.before a0 Z = true) (hEL : EW Z a0 own_EL) (wS : ∀ a ∈ Bundle.stringAtoms, a.before a0 Z = true) (G1 : Int32) (G3 : Value) (U8 : Addr) (TB : Addr) (TBk : ClassId) (EN : Addr) (i0 : Int32) (i1 : Int32) (i2 : Int32) (h0 : Heap) (n0 : Nat) (z0 : n0 ≤ h0.size) (X00 : Old Z n0 h0) (TK : Arv Z h0 TB TBk .char (64 : Int32) own_T64v (.int 0)) (q0 : Exa Z h0 EN "java/util/Base64$Encoder") (q1 : Fld Z h0 EN "java/util/Base64$Encoder" "isURL" "Z" (.int 0)) (q2 : Fld Z h0 EN "java/util/Base64$Encoder" "newline" "[B" .null) (q3 : Fld Z h0 EN "java/util/Base64$Encoder" "linemax" "I" (.int (-1 : Int32))) (q4 : Fld Z h0 EN "java/util/Base64$Encoder" "doPadding" "Z" (.int 1)) (O2 : Sta Z Z.heap "java/lang/String" "COMPACT_STRINGS" "Z" (.int G1)) (O4 : Sta Z Z.heap "jdk/internal/util/Preconditions" "SIOOBE_FORMATTER" "Ljava/util/function/BiFunction;" G3) (P5 : ¬ G1 = (0 : Int32)) (rG3 : G3.isRef = true) (OU1 : Sta Z Z.heap "java/nio/charset/StandardCharsets" "UTF_8" "Ljava/nio/charset/Charset;" (.ref U8)) (OU2 : Sta Z Z.heap "sun/nio/cs/UTF_8" "INSTANCE" "Lsun/nio/cs/UTF_8;" (.ref U8)) (OT : Sta Z Z.heap "java/util/Base64$Encoder" "toBase64" "[C" (.ref TB)) (TBlt : TB < n0) (OE : Sta Z Z.heap "java/util/Base64$Encoder" "RFC4648" "Ljava/util/Base64$Encoder;" (.ref EN)) (ENlt : EN < n0) :
    own_MetW l Z own_EL x code maxLocals ret room_1 n0 #[(.int i0), (.int i1), (.int i2)] h0 [] (fun v h => v = some (.int 1)) := by
  refine own_metW hEL wS (by decide +kernel) #[.val (.int i0), .val (.int i1), .val (.int i2), .unset, .unset, .unset, .unset, .unset, .unset, .unset, .unset, .unset, .unset, .unset, .unset, .unset] (fun m => by first | (simp [entryFrame, mkF, argsToLocals, Value.category, maxLocals]; done) | rfl) ?_
  intro p e s m below meth c T0 CW SW0
  refine own_lift CW SW0 ?_
  intro vm1710 C S1711 rb1712
  refine own_seg C S1711 [(0, .iload_n 0, 1), (1, .sipush 255, 3), (4, .iand, 1), (5, .i2c, 1), (6, .istore_n 3, 1)] (by decide +kernel) 7 #[.val (.int i0), .val (.int i1), .val (.int i2), .val (.int ((i0 &&& (255 : Int32)).toUInt32.toUInt16.toUInt32.toInt32)), .unset, .unset, .unset, .unset, .unset, .unset, .unset, .unset, .unset, .unset, .unset, .unset] [] rfl ?_
  rw [show (i0 &&& (255 : Int32)).toUInt32.toUInt16.toUInt32.toInt32 = (i0 &&& (255 : Int32)) from i2c_mask i0]
  obtain ⟨z1713, hz1713⟩ : ∃ y, y = (i0 &&& (255 : Int32)) := ⟨_, rfl⟩
  rw [← hz1713]
  have rz1713 : own_R z1713 := by rw [hz1713]; exact own_and255 _
  refine own_seg C S1711 [(7, .iload_n 0, 1), (8, .bipush 8, 2), (10, .iushr, 1), (11, .sipush 255, 3), (14, .iand, 1), (15, .i2c, 1), (16, .istore 4, 2)] (by decide +kernel) 18 #[.val (.int i0), .val (.int i1), .val (.int i2), .val (.int z1713), .val (.int (((Jvm.Free.XT.ushr i0 (8 : Int32)) &&& (255 : Int32)).toUInt32.toUInt16.toUInt32.toInt32)), .unset, .unset, .unset, .unset, .unset, .unset, .unset, .unset, .unset, .unset, .unset] [] rfl ?_
  rw [show ((Jvm.Free.XT.ushr i0 (8 : Int32)) &&& (255 : Int32)).toUInt32.toUInt16.toUInt32.toInt32 = ((Jvm.Free.XT.ushr i0 (8 : Int32)) &&& (255 : Int32)) from i2c_mask (Jvm.Free.XT.ushr i0 (8 : Int32))]
  obtain ⟨z1714, hz1714⟩ : ∃ y, y = ((Jvm.Free.XT.ushr i0 (8 : Int32)) &&& (255 : Int32)) := ⟨_, rfl⟩
  rw [← hz1714]
  have rz1714 : own_R z1714 := by rw [hz1714]; exact own_and255 _
  refine own_seg C S1711 [(18, .iload_n 1, 1), (19, .sipush 255, 3), (22, .iand, 1), (23, .i2c, 1), (24, .istore 5, 2)] (by decide +kernel) 26 #[.val (.int i0), .val (.int i1), .val (.int i2), .val (.int z1713), .val (.int z1714), .val (.int ((i1 &&& (255 : Int32)).toUInt32.toUInt16.toUInt32.toInt32)), .unset, .unset, .unset, .unset, .unset, .unset, .unset, .unset, .unset, .unset] [] rfl ?_
  rw [show (i1 &&& (255 : Int32)).toUInt32.toUInt16.toUInt32.toInt32 = (i1 &&& (255 : Int32)) from i2c_mask i1]
  obtain ⟨z1715, hz1715⟩ : ∃ y, y = (i1 &&& (255 : Int32)) := ⟨_, rfl⟩
  rw [← hz1715]
  have rz1715 : own_R z1715 := by rw [hz1715]; exact own_and255 _
  refine own_seg C S1711 [(26, .iload_n 1, 1), (27, .bipush 8, 2), (29, .iushr, 1), (30, .sipush 255, 3), (33, .iand, 1), (34, .i2c, 1), (35, .istore 6, 2)] (by decide +kernel) 37 #[.val (.int i0), .val (.int i1), .val (.int i2), .val (.int z1713), .val (.int z1714), .val (.int z1715), .val (.int (((Jvm.Free.XT.ushr i1 (8 : Int32)) &&& (255 : Int32)).toUInt32.toUInt16.toUInt32.toInt32)), .unset, .unset, .unset, .unset, .unset, .unset, .unset, .unset, .unset] [] rfl ?_
  rw [show ((Jvm.Free.XT.ushr i1 (8 : Int32)) &&& (255 : Int32)).toUInt32.toUInt16.toUInt32.toInt32 = ((Jvm.Free.XT.ushr i1 (8 : Int32)) &&& (255 : Int32)) from i2c_mask (Jvm.Free.XT.ushr i1 (8 : Int32))]
  obtain ⟨z1716, hz1716⟩ : ∃ y, y = ((Jvm.Free.XT.ushr i1 (8 : Int32)) &&& (255 : Int32)) := ⟨_, rfl⟩
  rw [← hz1716]
  have rz1716 : own_R z1716 := by rw [hz1716]; exact own_and255 _
  refine own_seg C S1711 [(37, .iload_n 2, 1), (38, .sipush 255, 3), (41, .iand, 1), (42, .iconst 3, 1)] (by decide +kernel) 43 #[.val (.int i0), .val (.int i1), .val (.int i2), .val (.int z1713), .val (.int z1714), .val (.int z1715), .val (.int z1716), .unset, .unset, .unset, .unset, .unset, .unset, .unset, .unset, .unset] [(.int 3), (.int (i2 &&& (255 : Int32)))] rfl ?_
  refine own_irem C S1711 (by decide +kernel) (by decide) ?_
  refine own_seg C S1711 [(44, .istore 7, 2)] (by decide +kernel) 46 #[.val (.int i0), .val (.int i1), .val (.int i2), .val (.int z1713), .val (.int z1714), .val (.int z1715), .val (.int z1716), .val (.int ((i2 &&& (255 : Int32)) % (3 : Int32))), .unset, .unset, .unset, .unset, .unset, .unset, .unset, .unset] [] rfl ?_
  obtain ⟨z1717, hz1717⟩ : ∃ y, y = ((i2 &&& (255 : Int32)) % (3 : Int32)) := ⟨_, rfl⟩
  rw [← hz1717]
  have rz1717 : own_sm z1717 := by rw [hz1717]; exact own_sm3 _
  refine own_seg C S1711 [(46, .iload_n 2, 1), (47, .bipush 8, 2), (49, .iushr, 1), (50, .sipush 255, 3), (53, .iand, 1), (54, .iconst 3, 1)] (by decide +kernel) 55 #[.val (.int i0), .val (.int i1), .val (.int i2), .val (.int z1713), .val (.int z1714), .val (.int z1715), .val (.int z1716), .val (.int z1717), .unset, .unset, .unset, .unset, .unset, .unset, .unset, .unset] [(.int 3), (.int ((Jvm.Free.XT.ushr i2 (8 : Int32)) &&& (255 : Int32)))] rfl ?_
  refine own_irem C S1711 (by decide +kernel) (by decide) ?_
  refine own_seg C S1711 [(56, .istore 8, 2)] (by decide +kernel) 58 #[.val (.int i0), .val (.int i1), .val (.int i2), .val (.int z1713), .val (.int z1714), .val (.int z1715), .val (.int z1716), .val (.int z1717), .val (.int (((Jvm.Free.XT.ushr i2 (8 : Int32)) &&& (255 : Int32)) % (3 : Int32))), .unset, .unset, .unset, .unset, .unset, .unset, .unset] [] rfl ?_
  obtain ⟨z1718, hz1718⟩ : ∃ y, y = (((Jvm.Free.XT.ushr i2 (8 : Int32)) &&& (255 : Int32)) % (3 : Int32)) := ⟨_, rfl⟩
  rw [← hz1718]
  have rz1718 : own_sm z1718 := by rw [hz1718]; exact own_sm3 _
  refine own_seg C S1711 [(58, .iload_n 3, 1), (59, .iload 4, 2), (61, .iload 7, 2)] (by decide +kernel) 63 #[.val (.int i0), .val (.int i1), .val (.int i2), .val (.int z1713), .val (.int z1714), .val (.int z1715), .val (.int z1716), .val (.int z1717), .val (.int z1718), .unset, .unset, .unset, .unset, .unset, .unset, .unset] [(.int z1717), (.int z1714), (.int z1713)] rfl ?_
  have SW1735 := rb1712 _ _ _ _ [] [] S1711 (Keep.refl _ _) all0 all0
  refine own_callSW CW SW1735 (own_wd hw 0 rfl) (own_wd hw 1 rfl) (own_wd hw 2 rfl) (own_wd hw 3 rfl) (by decide) (own_str l Z a0 hw hEL wS G1 G3 z1713 z1714 z1717 h0 n0 z0 X00 O2 O4 P5 rG3 rz1713 rz1714) all0 0 (by decide) (by decide) [(.int z1713), (.int z1714), (.int z1717)] [] rfl own_pd44 rfl rfl rfl (Nat.le_of_ble_eq_true rfl) (by decide) (by decide) (by decide +kernel) ?_
  rintro T1736 h1737 v1738 SW1739 hg1740 ⟨a1719, a1720, k1721, y1722, rfl, g1723, K1724, f1725, f1726, f1727, f1728, p1729⟩
  subst p1729
  show own_Go p e below _ T1736 (mkF m 66 #[.val (.int i0), .val (.int i1), .val (.int i2), .val (.int z1713), .val (.int z1714), .val (.int z1715), .val (.int z1716), .val (.int z1717), .val (.int z1718), .unset, .unset, .unset, .unset, .unset, .unset, .unset] [(.ref a1719)])
  refine own_lift CW SW1739 ?_
  intro vm1741 C S1742 rb1743
  refine own_seg C S1742 [(66, .astore 9, 2), (68, .iload 5, 2), (70, .iload 6, 2), (72, .iload 8, 2)] (by decide +kernel) 74 #[.val (.int i0), .val (.int i1), .val (.int i2), .val (.int z1713), .val (.int z1714), .val (.int z1715), .val (.int z1716), .val (.int z1717), .val (.int z1718), .val (.ref a1719), .unset, .unset, .unset, .unset, .unset, .unset] [(.int z1718), (.int z1716), (.int z1715)] rfl ?_
  have f1744 := (X00.keep K1724 all0)
  have f1745 : n0 ≤ h1737.size := (Nat.le_trans z0 K1724.1)
  have SW1762 := rb1743 _ _ _ _ [] [] S1742 (Keep.refl _ _) all0 all0
  refine own_callSW CW SW1762 (own_wd hw 0 rfl) (own_wd hw 1 rfl) (own_wd hw 2 rfl) (own_wd hw 3 rfl) (by decide) (own_str l Z a0 hw hEL wS G1 G3 z1715 z1716 z1718 h1737 n0 f1745 f1744 O2 O4 P5 rG3 rz1715 rz1716) all0 0 (by decide) (by decide) [(.int z1715), (.int z1716), (.int z1718)] [] rfl own_pd44 rfl rfl rfl (Nat.le_of_ble_eq_true rfl) (by decide) (by decide) (by decide +kernel) ?_
  rintro T1763 h1764 v1765 SW1766 hg1767 ⟨a1746, a1747, k1748, y1749, rfl, g1750, K1751, f1752, f1753, f1754, f1755, p1756⟩
  subst p1756
  show own_Go p e below _ T1763 (mkF m 77 #[.val (.int i0), .val (.int i1), .val (.int i2), .val (.int z1713), .val (.int z1714), .val (.int z1715), .val (.int z1716), .val (.int z1717), .val (.int z1718), .val (.ref a1719), .unset, .unset, .unset, .unset, .unset, .unset] [(.ref a1746)])
  refine own_lift CW SW1766 ?_
  intro vm1768 C S1769 rb1770
  refine own_seg C S1769 [(77, .astore 10, 2), (79, .bipush 9, 2)] (by decide +kernel) 81 #[.val (.int i0), .val (.int i1), .val (.int i2), .val (.int z1713), .val (.int z1714), .val (.int z1715), .val (.int z1716), .val (.int z1717), .val (.int z1718), .val (.ref a1719), .val (.ref a1746), .unset, .unset, .unset, .unset, .unset] [(.int 9)] rfl ?_
  refine own_newP C S1769 (aty := .int) (own_wd hw 37 rfl) (by decide +kernel) (by decide) 9 (by decide) (by decide) (by decide) (by decide) ?_
  intro T1771 h1773 a1774 k1775 S1772 g1776 E1777 f1778 
  have f1779 : Arv Z h1773 a1774 k1775 .int 9 ([(.int 0), (.int 0), (.int 0), (.int 0), (.int 0), (.int 0), (.int 0), (.int 0), (.int 0)]) (.int 0) := Arv.pad f1778 (pad_rep [] (.int 0) 9)
  refine own_seg C S1772 [(83, .astore 11, 2), (85, .iconst 0, 1), (86, .istore 12, 2)] (by decide +kernel) 88 #[.val (.int i0), .val (.int i1), .val (.int i2), .val (.int z1713), .val (.int z1714), .val (.int z1715), .val (.int z1716), .val (.int z1717), .val (.int z1718), .val (.ref a1719), .val (.ref a1746), .val (.ref a1774), .val (.int 0), .unset, .unset, .unset] [] rfl ?_
  have o1784 : h1764.size ≤ a1774 := by rw [g1776]; exact (Nat.le_refl _)
  have f1785 := (f1744.keep K1751 all0)
  have f1786 := ((TK.keep K1724 nin0).keep K1751 nin0)
  have f1787 := ((q0.keep K1724).keep K1751)
  have f1788 := ((q1.keep K1724 nin0).keep K1751 nin0)
  have f1789 := ((q2.keep K1724 nin0).keep K1751 nin0)
  have f1790 := ((q3.keep K1724 nin0).keep K1751 nin0)
  have f1791 := ((q4.keep K1724 nin0).keep K1751 nin0)
  have f1792 : n0 ≤ h1764.size := (Nat.le_trans f1745 K1751.1)
  have f1793 : TB < h1764.size := (Nat.lt_of_lt_of_le (Nat.lt_of_lt_of_le TK.lt K1724.1) K1751.1)
  have f1794 : EN < h1764.size := (Nat.lt_of_lt_of_le (Nat.lt_of_lt_of_le q0.lt K1724.1) K1751.1)
  have f1795 := (f1725.keep K1751)
  have f1796 := (f1726.keep K1751 nin0)
  have f1797 := (f1727.keep K1751 nin0)
  have f1798 := (f1728.keep K1751 nin0)
  have f1799 : a1719 < h1764.size := (Nat.lt_of_lt_of_le f1725.lt K1751.1)
  have f1800 : a1720 < h1764.size := (Nat.lt_of_lt_of_le f1728.lt K1751.1)
  have J164 : ∀ (T1781 : State) (h1780 : Heap) (bs : List Int32), own_S p l e room_1 (s.setVm vm1768) m #[(.int i0), (.int i1), (.int i2)] below meth c n0 T1781 h1780 13 33 → Keep h1764 h1780 [] → Arv Z h1780 a1774 k1775 .int 9 (own_pd 9 bs) (.int 0) → (own_u8 (((([] : List Int32) ++ (own_tk z1713 z1714 z1717)) ++ ([58] : List Int32)) ++ (own_tk z1715 z1716 z1718)) = bs) → own_Go p e below (own_EnW s n0 Z own_EL (fun v h => v = some (.int 1)) room_1.cells room_1.slots) T1781 (mkF m 164 #[.val (.int i0), .val (.int i1), .val (.int i2), .val (.int z1713), .val (.int z1714), .val (.int z1715), .val (.int z1716), .val (.int z1717), .val (.int z1718), .val (.ref a1719), .val (.ref a1746), .val (.ref a1774), .val (.int (Int32.ofNat bs.length)), .unset, .unset, .unset] []) := by
    intro T1781 h1780 bs S1782 K1783 bK hbs
    have hR : ∀ b ∈ bs, own_R b := by rw [← hbs]; exact own_u8_R (own_hpA (own_tk_R rz1713 rz1714) (own_tk_R rz1715 rz1716))
    have hL : 1 ≤ bs.length ∧ bs.length ≤ 9 := by
      have q1 := own_u8_58 (own_tk z1713 z1714 z1717) (own_tk z1715 z1716 z1718); have q2 := (own_u8_len (((([] : List Int32) ++ (own_tk z1713 z1714 z1717)) ++ ([58] : List Int32)) ++ (own_tk z1715 z1716 z1718))).2; have q3 := own_tk_len z1713 z1714 z1717; have q4 := own_tk_len z1715 z1716 z1718
      rw [hbs] at q1 q2; simp only [List.length_append, List.length_cons, List.length_nil] at q1 q2; omega
    refine own_seg C S1782 [(164, .bipush 12, 2)] (by decide +kernel) 166 #[.val (.int i0), .val (.int i1), .val (.int i2), .val (.int z1713), .val (.int z1714), .val (.int z1715), .val (.int z1716), .val (.int z1717), .val (.int z1718), .val (.ref a1719), .val (.ref a1746), .val (.ref a1774), .val (.int (Int32.ofNat bs.length)), .unset, .unset, .unset] [(.int 12)] rfl ?_
    refine own_newP C S1782 (aty := .char) (own_wd hw 7 rfl) (by decide +kernel) (by decide) 12 (by decide) (by decide) (by decide) (by decide) ?_
    intro T1801 h1803 a1804 k1805 S1802 g1806 E1807 f1808 
    have f1809 : Arv Z h1803 a1804 k1805 .char (12 : Int32) ([(.int 0), (.int 0), (.int 0), (.int 0), (.int 0), (.int 0), (.int 0), (.int 0), (.int 0), (.int 0), (.int 0), (.int 0)]) (.int 0) := Arv.pad f1808 (pad_rep [] (.int 0) 12)
    refine own_seg C S1802 [(168, .astore 13, 2), (170, .iconst 0, 1), (171, .istore 14, 2)] (by decide +kernel) 173 #[.val (.int i0), .val (.int i1), .val (.int i2), .val (.int z1713), .val (.int z1714), .val (.int z1715), .val (.int z1716), .val (.int z1717), .val (.int z1718), .val (.ref a1719), .val (.ref a1746), .val (.ref a1774), .val (.int (Int32.ofNat bs.length)), .val (.ref a1804), .val (.int 0), .unset] [] rfl ?_
    have f1810 : Arv Z h1803 a1804 k1805 .char (12 : Int32) (own_pd 12 (own_b64 [])) (.int 0) := f1809
    show own_Go p e below _ T1801 (mkF m 173 #[.val (.int i0), .val (.int i1), .val (.int i2), .val (.int z1713), .val (.int z1714), .val (.int z1715), .val (.int z1716), .val (.int z1717), .val (.int z1718), .val (.ref a1719), .val (.ref a1746), .val (.ref a1774), .val (.int (Int32.ofNat bs.length)), .val (.ref a1804), .val (.int (Int32.ofNat (own_b64 []).length)), .unset] [])
    have o1815 : h1764.size ≤ a1774 := Nat.le_trans (Nat.le_refl _) o1784
    have o1817 : h1764.size ≤ h1780.size := (Nat.le_trans (Nat.le_refl _) K1783.1)
    have o1816 : h1764.size ≤ a1804 := by rw [g1806]; exact o1817
    have J216 : ∀ (T1812 : State) (h1811 : Heap), own_S p l e room_1 (s.setVm vm1768) m #[(.int i0), (.int i1), (.int i2)] below meth c n0 T1812 h1811 14 45 → Keep h1764 h1811 [] → Arv Z h1811 a1774 k1775 .int 9 (own_pd 9 bs) (.int 0) → Arv Z h1811 a1804 k1805 .char (12 : Int32) (own_pd 12 (own_b64 bs)) (.int 0) → own_Go p e below (own_EnW s n0 Z own_EL (fun v h => v = some (.int 1)) room_1.cells room_1.slots) T1812 (mkF m 216 #[.val (.int i0), .val (.int i1), .val (.int i2), .val (.int z1713), .val (.int z1714), .val (.int z1715), .val (.int z1716), .val (.int z1717), .val (.int z1718), .val (.ref a1719), .val (.ref a1746), .val (.ref a1774), .val (.int (Int32.ofNat bs.length)), .val (.ref a1804), .val (.int (Int32.ofNat (own_b64 bs).length)), .unset] []) := by
      intro T1812 h1811 S1813 K1814 bK oK
      have hb12 : (own_b64 bs).length ≤ 12 := own_b12 hL.2
      refine own_seg C S1813 [(216, .aload 9, 2), (218, .aload 10, 2)] (by decide +kernel) 220 #[.val (.int i0), .val (.int i1), .val (.int i2), .val (.int z1713), .val (.int z1714), .val (.int z1715), .val (.int z1716), .val (.int z1717), .val (.int z1718), .val (.ref a1719), .val (.ref a1746), .val (.ref a1774), .val (.int (Int32.ofNat bs.length)), .val (.ref a1804), .val (.int (Int32.ofNat (own_b64 bs).length)), .unset] [(.ref a1746), (.ref a1719)] rfl ?_
      have f1818 := (f1785.keep K1814 all0)
      have f1819 := (f1795.keep K1814)
      have f1820 := (f1796.keep K1814 nin0)
      have f1821 := (f1797.keep K1814 nin0)
      have f1822 := (f1798.keep K1814 nin0)
      have f1823 := (f1752.keep K1814)
      have f1824 := (f1753.keep K1814 nin0)
      have f1825 := (f1754.keep K1814 nin0)
      have f1826 := (f1755.keep K1814 nin0)
      have f1827 := (f1786.keep K1814 nin0)
      have f1828 := (f1787.keep K1814)
      have f1829 := (f1788.keep K1814 nin0)
      have f1830 := (f1789.keep K1814 nin0)
      have f1831 := (f1790.keep K1814 nin0)
      have f1832 := (f1791.keep K1814 nin0)
      have f1833 : n0 ≤ h1811.size := (Nat.le_trans f1792 K1814.1)
      have o1849 : h1764.size ≤ a1804 := Nat.le_trans (Nat.le_refl _) o1816
      have o1850 : h1764.size ≤ a1774 := Nat.le_trans (Nat.le_refl _) o1815
      have SW1851 := rb1770 _ _ _ _ [] [a1774, a1804] S1813 ((Keep.refl _ _).trans K1814 all0) all0 (allS ⟨o1850, bK.lt⟩ (allS ⟨o1849, oK.lt⟩ all0))
      refine own_callSW CW SW1851 (own_wd hw 47 rfl) (own_wd hw 48 rfl) (own_wd hw 49 rfl) (own_wd hw 50 rfl) (by decide) (own_of l Z a0 hw hEL wS G1 G3 U8 TB TBk EN a1719 _ _ (own_tk z1713 z1714 z1717) a1746 _ _ (own_tk z1715 z1716 z1718) h1811 n0 f1833 f1818 f1819 f1820 f1821 f1822 f1823 f1824 f1825 f1826 f1827 f1828 f1829 f1830 f1831 f1832 O2 O4 P5 rG3 (own_tk_R (n := z1717) rz1713 rz1714) (own_tk_len _ _ _) (own_tk_R (n := z1718) rz1715 rz1716) (own_tk_len _ _ _) OU1 OU2 OT TBlt OE ENlt) all0 0 (by decide) (by decide) [(.ref a1719), (.ref a1746)] [] rfl own_pd45 rfl rfl rfl (Nat.le_of_ble_eq_true rfl) (by decide) (by decide) (by decide +kernel) ?_
      rintro T1852 h1853 v1854 SW1855 hg1856 ⟨a1834, a1835, k1836, rfl, g1837, g1838, K1839, f1840, f1841, f1842, f1843⟩
      show own_Go p e below _ T1852 (mkF m 223 #[.val (.int i0), .val (.int i1), .val (.int i2), .val (.int z1713), .val (.int z1714), .val (.int z1715), .val (.int z1716), .val (.int z1717), .val (.int z1718), .val (.ref a1719), .val (.ref a1746), .val (.ref a1774), .val (.int (Int32.ofNat bs.length)), .val (.ref a1804), .val (.int (Int32.ofNat (own_b64 bs).length)), .unset] [(.ref a1834)])
      rw [hbs] at f1843
      refine own_lift CW SW1855 ?_
      intro vm1857 C S1858 rb1859
      refine own_seg C S1858 [(223, .astore 15, 2), (225, .aload 15, 2), (227, .ifnull 13, 3), (230, .aload 15, 2)] (by decide +kernel) 232 #[.val (.int i0), .val (.int i1), .val (.int i2), .val (.int z1713), .val (.int z1714), .val (.int z1715), .val (.int z1716), .val (.int z1717), .val (.int z1718), .val (.ref a1719), .val (.ref a1746), .val (.ref a1774), .val (.int (Int32.ofNat bs.length)), .val (.ref a1804), .val (.int (Int32.ofNat (own_b64 bs).length)), .val (.ref a1834)] [(.ref a1834)] rfl ?_
      have f1860 := (f1818.keep K1839 all0)
      have f1861 : n0 ≤ h1853.size := (Nat.le_trans f1833 K1839.1)
      refine own_callV C S1858 (own_wd hw 266 rfl) (own_wd hw 106 rfl) (own_wd hw 108 rfl) (own_wd hw 108 rfl) rfl (own_wd hw 107 rfl) (by decide) (own_Met.pay (own_len l Z a0 hw G1 G3 a1834 _ _ _ _ h1853 n0 f1861 f1860 f1840 f1842 f1841 f1843 O2 O4 P5 rG3) C 0 (own_wd hw 109 rfl) (own_wd hw 6 rfl) (by decide) (by decide)) (fun _ _ _ q => q.2) f1840 [] [] rfl own_pd8 rfl rfl rfl (Nat.le_of_ble_eq_true rfl) (by decide) (by decide) (by decide +kernel) ?_
      rintro T1863 h1864 v1865 L1866 S1867 ⟨⟨rfl, e1862⟩, -⟩
      rw [e1862] at S1867; clear e1862
      show own_Go p e below _ T1863 (mkF m 235 #[.val (.int i0), .val (.int i1), .val (.int i2), .val (.int z1713), .val (.int z1714), .val (.int z1715), .val (.int z1716), .val (.int z1717), .val (.int z1718), .val (.ref a1719), .val (.ref a1746), .val (.ref a1774), .val (.int (Int32.ofNat bs.length)), .val (.ref a1804), .val (.int (Int32.ofNat (own_b64 bs).length)), .val (.ref a1834)] [(.int ((Int32.ofNat (own_b64 bs).length) >>> ((0 : Int32) &&& 31)))])
      rw [show ((Int32.ofNat (own_b64 bs).length) >>> ((0 : Int32) &&& 31)) = (Int32.ofNat (own_b64 bs).length) from own_shr0 _]
      refine own_seg C S1867 [(235, .iload 14, 2)] (by decide +kernel) 237 #[.val (.int i0), .val (.int i1), .val (.int i2), .val (.int z1713), .val (.int z1714), .val (.int z1715), .val (.int z1716), .val (.int z1717), .val (.int z1718), .val (.ref a1719), .val (.ref a1746), .val (.ref a1774), .val (.int (Int32.ofNat bs.length)), .val (.ref a1804), .val (.int (Int32.ofNat (own_b64 bs).length)), .val (.ref a1834)] [(.int (Int32.ofNat (own_b64 bs).length)), (.int (Int32.ofNat (own_b64 bs).length))] rfl ?_
      refine own_icmp C S1867 (q := .eq) (o := 5) (by decide +kernel) 242 (by decide) (by decide) (fun (q1868 : (Int32.ofNat (own_b64 bs).length) = (Int32.ofNat (own_b64 bs).length)) => ?_) (fun (hq : ¬ (Int32.ofNat (own_b64 bs).length) = (Int32.ofNat (own_b64 bs).length)) => False.elim (hq rfl))
      refine own_seg C S1867 [(242, .aload 15, 2), (244, .aload 13, 2), (246, .iload 14, 2), (248, .iconst 0, 1)] (by decide +kernel) 249 #[.val (.int i0), .val (.int i1), .val (.int i2), .val (.int z1713), .val (.int z1714), .val (.int z1715), .val (.int z1716), .val (.int z1717), .val (.int z1718), .val (.ref a1719), .val (.ref a1746), .val (.ref a1774), .val (.int (Int32.ofNat bs.length)), .val (.ref a1804), .val (.int (Int32.ofNat (own_b64 bs).length)), .val (.ref a1834)] [(.int 0), (.int (Int32.ofNat (own_b64 bs).length)), (.ref a1804), (.ref a1834)] rfl ?_
      have f1869 := (oK.keep K1839 nin0)
      refine own_callS C S1867 (own_wd hw 267 rfl) (own_wd hw 268 rfl) (own_wd hw 2 rfl) (own_wd hw 269 rfl) (by decide) (own_Met.pay (own_at l Z a0 hw G1 G3 a1834 _ _ a1804 _ (Int32.ofNat (own_b64 bs).length) (0 : Int32) (own_b64 bs) 0 h1853 n0 f1861 f1860 f1840 f1842 f1841 f1843 f1869 O2 O4 P5 rG3 rfl rfl (by decide) hb12 (own_b64_R _)) C 0 (own_wd hw 269 rfl) (own_wd hw 2 rfl) (by decide) (by decide)) (fun _ _ _ q => q.2) [(.ref a1834), (.ref a1804), (.int (Int32.ofNat (own_b64 bs).length)), (.int 0)] [] rfl own_pd46 rfl rfl rfl (Nat.le_of_ble_eq_true rfl) (by decide) (by decide) (by decide +kernel) ?_
      rintro T1871 h1872 v1873 L1874 S1875 ⟨⟨rfl, e1870⟩, -⟩
      rw [e1870] at S1875; clear e1870
      show own_Go p e below _ T1871 (mkF m 252 #[.val (.int i0), .val (.int i1), .val (.int i2), .val (.int z1713), .val (.int z1714), .val (.int z1715), .val (.int z1716), .val (.int z1717), .val (.int z1718), .val (.ref a1719), .val (.ref a1746), .val (.ref a1774), .val (.int (Int32.ofNat bs.length)), .val (.ref a1804), .val (.int (Int32.ofNat (own_b64 bs).length)), .val (.ref a1834)] [(.int 1)])
      refine own_if C S1875 (q := .eq) (o := 156) (by decide +kernel) 408 (by decide) (by decide) (fun (hq : (1 : Int32) = (0 : Int32)) => False.elim (absurd hq (by decide))) (fun (q1876 : ¬ (1 : Int32) = (0 : Int32)) => ?_)
      refine own_seg C S1875 [(255, .aload 15, 2), (257, .aload 13, 2), (259, .iload 14, 2), (261, .iconst 1, 1)] (by decide +kernel) 262 #[.val (.int i0), .val (.int i1), .val (.int i2), .val (.int z1713), .val (.int z1714), .val (.int z1715), .val (.int z1716), .val (.int z1717), .val (.int z1718), .val (.ref a1719), .val (.ref a1746), .val (.ref a1774), .val (.int (Int32.ofNat bs.length)), .val (.ref a1804), .val (.int (Int32.ofNat (own_b64 bs).length)), .val (.ref a1834)] [(.int 1), (.int (Int32.ofNat (own_b64 bs).length)), (.ref a1804), (.ref a1834)] rfl ?_
      refine own_callS C S1875 (own_wd hw 267 rfl) (own_wd hw 268 rfl) (own_wd hw 2 rfl) (own_wd hw 269 rfl) (by decide) (own_Met.pay (own_at l Z a0 hw G1 G3 a1834 _ _ a1804 _ (Int32.ofNat (own_b64 bs).length) (1 : Int32) (own_b64 bs) 1 h1853 n0 f1861 f1860 f1840 f1842 f1841 f1843 f1869 O2 O4 P5 rG3 rfl rfl (by decide) hb12 (own_b64_R _)) C 0 (own_wd hw 269 rfl) (own_wd hw 2 rfl) (by decide) (by decide)) (fun _ _ _ q => q.2) [(.ref a1834), (.ref a1804), (.int (Int32.ofNat (own_b64 bs).length)), (.int 1)] [] rfl own_pd46 rfl rfl rfl (Nat.le_of_ble_eq_true rfl) (by decide) (by decide) (by decide +kernel) ?_
      rintro T1878 h1879 v1880 L1881 S1882 ⟨⟨rfl, e1877⟩, -⟩
      rw [e1877] at S1882; clear e1877
      show own_Go p e below _ T1878 (mkF m 265 #[.val (.int i0), .val (.int i1), .val (.int i2), .val (.int z1713), .val (.int z1714), .val (.int z1715), .val (.int z1716), .val (.int z1717), .val (.int z1718), .val (.ref a1719), .val (.ref a1746), .val (.ref a1774), .val (.int (Int32.ofNat bs.length)), .val (.ref a1804), .val (.int (Int32.ofNat (own_b64 bs).length)), .val (.ref a1834)] [(.int 1)])
      refine own_if C S1882 (q := .eq) (o := 143) (by decide +kernel) 408 (by decide) (by decide) (fun (hq : (1 : Int32) = (0 : Int32)) => False.elim (absurd hq (by decide))) (fun (q1883 : ¬ (1 : Int32) = (0 : Int32)) => ?_)
      refine own_seg C S1882 [(268, .aload 15, 2), (270, .aload 13, 2), (272, .iload 14, 2), (274, .iconst 2, 1)] (by decide +kernel) 275 #[.val (.int i0), .val (.int i1), .val (.int i2), .val (.int z1713), .val (.int z1714), .val (.int z1715), .val (.int z1716), .val (.int z1717), .val (.int z1718), .val (.ref a1719), .val (.ref a1746), .val (.ref a1774), .val (.int (Int32.ofNat bs.length)), .val (.ref a1804), .val (.int (Int32.ofNat (own_b64 bs).length)), .val (.ref a1834)] [(.int 2), (.int (Int32.ofNat (own_b64 bs).length)), (.ref a1804), (.ref a1834)] rfl ?_
      refine own_callS C S1882 (own_wd hw 267 rfl) (own_wd hw 268 rfl) (own_wd hw 2 rfl) (own_wd hw 269 rfl) (by decide) (own_Met.pay (own_at l Z a0 hw G1 G3 a1834 _ _ a1804 _ (Int32.ofNat (own_b64 bs).length) (2 : Int32) (own_b64 bs) 2 h1853 n0 f1861 f1860 f1840 f1842 f1841 f1843 f1869 O2 O4 P5 rG3 rfl rfl (by decide) hb12 (own_b64_R _)) C 0 (own_wd hw 269 rfl) (own_wd hw 2 rfl) (by decide) (by decide)) (fun _ _ _ q => q.2) [(.ref a1834), (.ref a1804), (.int (Int32.ofNat (own_b64 bs).length)), (.int 2)] [] rfl own_pd46 rfl rfl rfl (Nat.le_of_ble_eq_true rfl) (by decide) (by decide) (by decide +kernel) ?_
      rintro T1885 h1886 v1887 L1888 S1889 ⟨⟨rfl, e1884⟩, -⟩
      rw [e1884] at S1889; clear e1884
      show own_Go p e below _ T1885 (mkF m 278 #[.val (.int i0), .val (.int i1), .val (.int i2), .val (.int z1713), .val (.int z1714), .val (.int z1715), .val (.int z1716), .val (.int z1717), .val (.int z1718), .val (.ref a1719), .val (.ref a1746), .val (.ref a1774), .val (.int (Int32.ofNat bs.length)), .val (.ref a1804), .val (.int (Int32.ofNat (own_b64 bs).length)), .val (.ref a1834)] [(.int 1)])
      refine own_if C S1889 (q := .eq) (o := 130) (by decide +kernel) 408 (by decide) (by decide) (fun (hq : (1 : Int32) = (0 : Int32)) => False.elim (absurd hq (by decide))) (fun (q1890 : ¬ (1 : Int32) = (0 : Int32)) => ?_)
      refine own_seg C S1889 [(281, .aload 15, 2), (283, .aload 13, 2), (285, .iload 14, 2), (287, .iconst 3, 1)] (by decide +kernel) 288 #[.val (.int i0), .val (.int i1), .val (.int i2), .val (.int z1713), .val (.int z1714), .val (.int z1715), .val (.int z1716), .val (.int z1717), .val (.int z1718), .val (.ref a1719), .val (.ref a1746), .val (.ref a1774), .val (.int (Int32.ofNat bs.length)), .val (.ref a1804), .val (.int (Int32.ofNat (own_b64 bs).length)), .val (.ref a1834)] [(.int 3), (.int (Int32.ofNat (own_b64 bs).length)), (.ref a1804), (.ref a1834)] rfl ?_
      refine own_callS C S1889 (own_wd hw 267 rfl) (own_wd hw 268 rfl) (own_wd hw 2 rfl) (own_wd hw 269 rfl) (by decide) (own_Met.pay (own_at l Z a0 hw G1 G3 a1834 _ _ a1804 _ (Int32.ofNat (own_b64 bs).length) (3 : Int32) (own_b64 bs) 3 h1853 n0 f1861 f1860 f1840 f1842 f1841 f1843 f1869 O2 O4 P5 rG3 rfl rfl (by decide) hb12 (own_b64_R _)) C 0 (own_wd hw 269 rfl) (own_wd hw 2 rfl) (by decide) (by decide)) (fun _ _ _ q => q.2) [(.ref a1834), (.ref a1804), (.int (Int32.ofNat (own_b64 bs).length)), (.int 3)] [] rfl own_pd46 rfl rfl rfl (Nat.le_of_ble_eq_true rfl) (by decide) (by decide) (by decide +kernel) ?_
      rintro T1892 h1893 v1894 L1895 S1896 ⟨⟨rfl, e1891⟩, -⟩
      rw [e1891] at S1896; clear e1891
      show own_Go p e below _ T1892 (mkF m 291 #[.val (.int i0), .val (.int i1), .val (.int i2), .val (.int z1713), .val (.int z1714), .val (.int z1715), .val (.int z1716), .val (.int z1717), .val (.int z1718), .val (.ref a1719), .val (.ref a1746), .val (.ref a1774), .val (.int (Int32.ofNat bs.length)), .val (.ref a1804), .val (.int (Int32.ofNat (own_b64 bs).length)), .val (.ref a1834)] [(.int 1)])
      refine own_if C S1896 (q := .eq) (o := 117) (by decide +kernel) 408 (by decide) (by decide) (fun (hq : (1 : Int32) = (0 : Int32)) => False.elim (absurd hq (by decide))) (fun (q1897 : ¬ (1 : Int32) = (0 : Int32)) => ?_)
      refine own_seg C S1896 [(294, .aload 15, 2), (296, .aload 13, 2), (298, .iload 14, 2), (300, .iconst 4, 1)] (by decide +kernel) 301 #[.val (.int i0), .val (.int i1), .val (.int i2), .val (.int z1713), .val (.int z1714), .val (.int z1715), .val (.int z1716), .val (.int z1717), .val (.int z1718), .val (.ref a1719), .val (.ref a1746), .val (.ref a1774), .val (.int (Int32.ofNat bs.length)), .val (.ref a1804), .val (.int (Int32.ofNat (own_b64 bs).length)), .val (.ref a1834)] [(.int 4), (.int (Int32.ofNat (own_b64 bs).length)), (.ref a1804), (.ref a1834)] rfl ?_
      refine own_callS C S1896 (own_wd hw 267 rfl) (own_wd hw 268 rfl) (own_wd hw 2 rfl) (own_wd hw 269 rfl) (by decide) (own_Met.pay (own_at l Z a0 hw G1 G3 a1834 _ _ a1804 _ (Int32.ofNat (own_b64 bs).length) (4 : Int32) (own_b64 bs) 4 h1853 n0 f1861 f1860 f1840 f1842 f1841 f1843 f1869 O2 O4 P5 rG3 rfl rfl (by decide) hb12 (own_b64_R _)) C 0 (own_wd hw 269 rfl) (own_wd hw 2 rfl) (by decide) (by decide)) (fun _ _ _ q => q.2) [(.ref a1834), (.ref a1804), (.int (Int32.ofNat (own_b64 bs).length)), (.int 4)] [] rfl own_pd46 rfl rfl rfl (Nat.le_of_ble_eq_true rfl) (by decide) (by decide) (by decide +kernel) ?_
      rintro T1899 h1900 v1901 L1902 S1903 ⟨⟨rfl, e1898⟩, -⟩
      rw [e1898] at S1903; clear e1898
      show own_Go p e below _ T1899 (mkF m 304 #[.val (.int i0), .val (.int i1), .val (.int i2), .val (.int z1713), .val (.int z1714), .val (.int z1715), .val (.int z1716), .val (.int z1717), .val (.int z1718), .val (.ref a1719), .val (.ref a1746), .val (.ref a1774), .val (.int (Int32.ofNat bs.length)), .val (.ref a1804), .val (.int (Int32.ofNat (own_b64 bs).length)), .val (.ref a1834)] [(.int 1)])
      refine own_if C S1903 (q := .eq) (o := 104) (by decide +kernel) 408 (by decide) (by decide) (fun (hq : (1 : Int32) = (0 : Int32)) => False.elim (absurd hq (by decide))) (fun (q1904 : ¬ (1 : Int32) = (0 : Int32)) => ?_)
      refine own_seg C S1903 [(307, .aload 15, 2), (309, .aload 13, 2), (311, .iload 14, 2), (313, .iconst 5, 1)] (by decide +kernel) 314 #[.val (.int i0), .val (.int i1), .val (.int i2), .val (.int z1713), .val (.int z1714), .val (.int z1715), .val (.int z1716), .val (.int z1717), .val (.int z1718), .val (.ref a1719), .val (.ref a1746), .val (.ref a1774), .val (.int (Int32.ofNat bs.length)), .val (.ref a1804), .val (.int (Int32.ofNat (own_b64 bs).length)), .val (.ref a1834)] [(.int 5), (.int (Int32.ofNat (own_b64 bs).length)), (.ref a1804), (.ref a1834)] rfl ?_
      refine own_callS C S1903 (own_wd hw 267 rfl) (own_wd hw 268 rfl) (own_wd hw 2 rfl) (own_wd hw 269 rfl) (by decide) (own_Met.pay (own_at l Z a0 hw G1 G3 a1834 _ _ a1804 _ (Int32.ofNat (own_b64 bs).length) (5 : Int32) (own_b64 bs) 5 h1853 n0 f1861 f1860 f1840 f1842 f1841 f1843 f1869 O2 O4 P5 rG3 rfl rfl (by decide) hb12 (own_b64_R _)) C 0 (own_wd hw 269 rfl) (own_wd hw 2 rfl) (by decide) (by decide)) (fun _ _ _ q => q.2) [(.ref a1834), (.ref a1804), (.int (Int32.ofNat (own_b64 bs).length)), (.int 5)] [] rfl own_pd46 rfl rfl rfl (Nat.le_of_ble_eq_true rfl) (by decide) (by decide) (by decide +kernel) ?_
      rintro T1906 h1907 v1908 L1909 S1910 ⟨⟨rfl, e1905⟩, -⟩
      rw [e1905] at S1910; clear e1905
      show own_Go p e below _ T1906 (mkF m 317 #[.val (.int i0), .val (.int i1), .val (.int i2), .val (.int z1713), .val (.int z1714), .val (.int z1715), .val (.int z1716), .val (.int z1717), .val (.int z1718), .val (.ref a1719), .val (.ref a1746), .val (.ref a1774), .val (.int (Int32.ofNat bs.length)), .val (.ref a1804), .val (.int (Int32.ofNat (own_b64 bs).length)), .val (.ref a1834)] [(.int 1)])
      refine own_if C S1910 (q := .eq) (o := 91) (by decide +kernel) 408 (by decide) (by decide) (fun (hq : (1 : Int32) = (0 : Int32)) => False.elim (absurd hq (by decide))) (fun (q1911 : ¬ (1 : Int32) = (0 : Int32)) => ?_)
      refine own_seg C S1910 [(320, .aload 15, 2), (322, .aload 13, 2), (324, .iload 14, 2), (326, .bipush 6, 2)] (by decide +kernel) 328 #[.val (.int i0), .val (.int i1), .val (.int i2), .val (.int z1713), .val (.int z1714), .val (.int z1715), .val (.int z1716), .val (.int z1717), .val (.int z1718), .val (.ref a1719), .val (.ref a1746), .val (.ref a1774), .val (.int (Int32.ofNat bs.length)), .val (.ref a1804), .val (.int (Int32.ofNat (own_b64 bs).length)), .val (.ref a1834)] [(.int 6), (.int (Int32.ofNat (own_b64 bs).length)), (.ref a1804), (.ref a1834)] rfl ?_
      refine own_callS C S1910 (own_wd hw 267 rfl) (own_wd hw 268 rfl) (own_wd hw 2 rfl) (own_wd hw 269 rfl) (by decide) (own_Met.pay (own_at l Z a0 hw G1 G3 a1834 _ _ a1804 _ (Int32.ofNat (own_b64 bs).length) (6 : Int32) (own_b64 bs) 6 h1853 n0 f1861 f1860 f1840 f1842 f1841 f1843 f1869 O2 O4 P5 rG3 rfl rfl (by decide) hb12 (own_b64_R _)) C 0 (own_wd hw 269 rfl) (own_wd hw 2 rfl) (by decide) (by decide)) (fun _ _ _ q => q.2) [(.ref a1834), (.ref a1804), (.int (Int32.ofNat (own_b64 bs).length)), (.int 6)] [] rfl own_pd46 rfl rfl rfl (Nat.le_of_ble_eq_true rfl) (by decide) (by decide) (by decide +kernel) ?_
      rintro T1913 h1914 v1915 L1916 S1917 ⟨⟨rfl, e1912⟩, -⟩
      rw [e1912] at S1917; clear e1912
      show own_Go p e below _ T1913 (mkF m 331 #[.val (.int i0), .val (.int i1), .val (.int i2), .val (.int z1713), .val (.int z1714), .val (.int z1715), .val (.int z1716), .val (.int z1717), .val (.int z1718), .val (.ref a1719), .val (.ref a1746), .val (.ref a1774), .val (.int (Int32.ofNat bs.length)), .val (.ref a1804), .val (.int (Int32.ofNat (own_b64 bs).length)), .val (.ref a1834)] [(.int 1)])
      refine own_if C S1917 (q := .eq) (o := 77) (by decide +kernel) 408 (by decide) (by decide) (fun (hq : (1 : Int32) = (0 : Int32)) => False.elim (absurd hq (by decide))) (fun (q1918 : ¬ (1 : Int32) = (0 : Int32)) => ?_)
      refine own_seg C S1917 [(334, .aload 15, 2), (336, .aload 13, 2), (338, .iload 14, 2), (340, .bipush 7, 2)] (by decide +kernel) 342 #[.val (.int i0), .val (.int i1), .val (.int i2), .val (.int z1713), .val (.int z1714), .val (.int z1715), .val (.int z1716), .val (.int z1717), .val (.int z1718), .val (.ref a1719), .val (.ref a1746), .val (.ref a1774), .val (.int (Int32.ofNat bs.length)), .val (.ref a1804), .val (.int (Int32.ofNat (own_b64 bs).length)), .val (.ref a1834)] [(.int 7), (.int (Int32.ofNat (own_b64 bs).length)), (.ref a1804), (.ref a1834)] rfl ?_
      refine own_callS C S1917 (own_wd hw 267 rfl) (own_wd hw 268 rfl) (own_wd hw 2 rfl) (own_wd hw 269 rfl) (by decide) (own_Met.pay (own_at l Z a0 hw G1 G3 a1834 _ _ a1804 _ (Int32.ofNat (own_b64 bs).length) (7 : Int32) (own_b64 bs) 7 h1853 n0 f1861 f1860 f1840 f1842 f1841 f1843 f1869 O2 O4 P5 rG3 rfl rfl (by decide) hb12 (own_b64_R _)) C 0 (own_wd hw 269 rfl) (own_wd hw 2 rfl) (by decide) (by decide)) (fun _ _ _ q => q.2) [(.ref a1834), (.ref a1804), (.int (Int32.ofNat (own_b64 bs).length)), (.int 7)] [] rfl own_pd46 rfl rfl rfl (Nat.le_of_ble_eq_true rfl) (by decide) (by decide) (by decide +kernel) ?_
      rintro T1920 h1921 v1922 L1923 S1924 ⟨⟨rfl, e1919⟩, -⟩
      rw [e1919] at S1924; clear e1919
      show own_Go p e below _ T1920 (mkF m 345 #[.val (.int i0), .val (.int i1), .val (.int i2), .val (.int z1713), .val (.int z1714), .val (.int z1715), .val (.int z1716), .val (.int z1717), .val (.int z1718), .val (.ref a1719), .val (.ref a1746), .val (.ref a1774), .val (.int (Int32.ofNat bs.length)), .val (.ref a1804), .val (.int (Int32.ofNat (own_b64 bs).length)), .val (.ref a1834)] [(.int 1)])
      refine own_if C S1924 (q := .eq) (o := 63) (by decide +kernel) 408 (by decide) (by decide) (fun (hq : (1 : Int32) = (0 : Int32)) => False.elim (absurd hq (by decide))) (fun (q1925 : ¬ (1 : Int32) = (0 : Int32)) => ?_)
      refine own_seg C S1924 [(348, .aload 15, 2), (350, .aload 13, 2), (352, .iload 14, 2), (354, .bipush 8, 2)] (by decide +kernel) 356 #[.val (.int i0), .val (.int i1), .val (.int i2), .val (.int z1713), .val (.int z1714), .val (.int z1715), .val (.int z1716), .val (.int z1717), .val (.int z1718), .val (.ref a1719), .val (.ref a1746), .val (.ref a1774), .val (.int (Int32.ofNat bs.length)), .val (.ref a1804), .val (.int (Int32.ofNat (own_b64 bs).length)), .val (.ref a1834)] [(.int 8), (.int (Int32.ofNat (own_b64 bs).length)), (.ref a1804), (.ref a1834)] rfl ?_
      refine own_callS C S1924 (own_wd hw 267 rfl) (own_wd hw 268 rfl) (own_wd hw 2 rfl) (own_wd hw 269 rfl) (by decide) (own_Met.pay (own_at l Z a0 hw G1 G3 a1834 _ _ a1804 _ (Int32.ofNat (own_b64 bs).length) (8 : Int32) (own_b64 bs) 8 h1853 n0 f1861 f1860 f1840 f1842 f1841 f1843 f1869 O2 O4 P5 rG3 rfl rfl (by decide) hb12 (own_b64_R _)) C 0 (own_wd hw 269 rfl) (own_wd hw 2 rfl) (by decide) (by decide)) (fun _ _ _ q => q.2) [(.ref a1834), (.ref a1804), (.int (Int32.ofNat (own_b64 bs).length)), (.int 8)] [] rfl own_pd46 rfl rfl rfl (Nat.le_of_ble_eq_true rfl) (by decide) (by decide) (by decide +kernel) ?_
      rintro T1927 h1928 v1929 L1930 S1931 ⟨⟨rfl, e1926⟩, -⟩
      rw [e1926] at S1931; clear e1926
      show own_Go p e below _ T1927 (mkF m 359 #[.val (.int i0), .val (.int i1), .val (.int i2), .val (.int z1713), .val (.int z1714), .val (.int z1715), .val (.int z1716), .val (.int z1717), .val (.int z1718), .val (.ref a1719), .val (.ref a1746), .val (.ref a1774), .val (.int (Int32.ofNat bs.length)), .val (.ref a1804), .val (.int (Int32.ofNat (own_b64 bs).length)), .val (.ref a1834)] [(.int 1)])
      refine own_if C S1931 (q := .eq) (o := 49) (by decide +kernel) 408 (by decide) (by decide) (fun (hq : (1 : Int32) = (0 : Int32)) => False.elim (absurd hq (by decide))) (fun (q1932 : ¬ (1 : Int32) = (0 : Int32)) => ?_)
      refine own_seg C S1931 [(362, .aload 15, 2), (364, .aload 13, 2), (366, .iload 14, 2), (368, .bipush 9, 2)] (by decide +kernel) 370 #[.val (.int i0), .val (.int i1), .val (.int i2), .val (.int z1713), .val (.int z1714), .val (.int z1715), .val (.int z1716), .val (.int z1717), .val (.int z1718), .val (.ref a1719), .val (.ref a1746), .val (.ref a1774), .val (.int (Int32.ofNat bs.length)), .val (.ref a1804), .val (.int (Int32.ofNat (own_b64 bs).length)), .val (.ref a1834)] [(.int 9), (.int (Int32.ofNat (own_b64 bs).length)), (.ref a1804), (.ref a1834)] rfl ?_
      refine own_callS C S1931 (own_wd hw 267 rfl) (own_wd hw 268 rfl) (own_wd hw 2 rfl) (own_wd hw 269 rfl) (by decide) (own_Met.pay (own_at l Z a0 hw G1 G3 a1834 _ _ a1804 _ (Int32.ofNat (own_b64 bs).length) (9 : Int32) (own_b64 bs) 9 h1853 n0 f1861 f1860 f1840 f1842 f1841 f1843 f1869 O2 O4 P5 rG3 rfl rfl (by decide) hb12 (own_b64_R _)) C 0 (own_wd hw 269 rfl) (own_wd hw 2 rfl) (by decide) (by decide)) (fun _ _ _ q => q.2) [(.ref a1834), (.ref a1804), (.int (Int32.ofNat (own_b64 bs).length)), (.int 9)] [] rfl own_pd46 rfl rfl rfl (Nat.le_of_ble_eq_true rfl) (by decide) (by decide) (by decide +kernel) ?_
      rintro T1934 h1935 v1936 L1937 S1938 ⟨⟨rfl, e1933⟩, -⟩
      rw [e1933] at S1938; clear e1933
      show own_Go p e below _ T1934 (mkF m 373 #[.val (.int i0), .val (.int i1), .val (.int i2), .val (.int z1713), .val (.int z1714), .val (.int z1715), .val (.int z1716), .val (.int z1717), .val (.int z1718), .val (.ref a1719), .val (.ref a1746), .val (.ref a1774), .val (.int (Int32.ofNat bs.length)), .val (.ref a1804), .val (.int (Int32.ofNat (own_b64 bs).length)), .val (.ref a1834)] [(.int 1)])
      refine own_if C S1938 (q := .eq) (o := 35) (by decide +kernel) 408 (by decide) (by decide) (fun (hq : (1 : Int32) = (0 : Int32)) => False.elim (absurd hq (by decide))) (fun (q1939 : ¬ (1 : Int32) = (0 : Int32)) => ?_)
      refine own_seg C S1938 [(376, .aload 15, 2), (378, .aload 13, 2), (380, .iload 14, 2), (382, .bipush 10, 2)] (by decide +kernel) 384 #[.val (.int i0), .val (.int i1), .val (.int i2), .val (.int z1713), .val (.int z1714), .val (.int z1715), .val (.int z1716), .val (.int z1717), .val (.int z1718), .val (.ref a1719), .val (.ref a1746), .val (.ref a1774), .val (.int (Int32.ofNat bs.length)), .val (.ref a1804), .val (.int (Int32.ofNat (own_b64 bs).length)), .val (.ref a1834)] [(.int 10), (.int (Int32.ofNat (own_b64 bs).length)), (.ref a1804), (.ref a1834)] rfl ?_
      refine own_callS C S1938 (own_wd hw 267 rfl) (own_wd hw 268 rfl) (own_wd hw 2 rfl) (own_wd hw 269 rfl) (by decide) (own_Met.pay (own_at l Z a0 hw G1 G3 a1834 _ _ a1804 _ (Int32.ofNat (own_b64 bs).length) (10 : Int32) (own_b64 bs) 10 h1853 n0 f1861 f1860 f1840 f1842 f1841 f1843 f1869 O2 O4 P5 rG3 rfl rfl (by decide) hb12 (own_b64_R _)) C 0 (own_wd hw 269 rfl) (own_wd hw 2 rfl) (by decide) (by decide)) (fun _ _ _ q => q.2) [(.ref a1834), (.ref a1804), (.int (Int32.ofNat (own_b64 bs).length)), (.int 10)] [] rfl own_pd46 rfl rfl rfl (Nat.le_of_ble_eq_true rfl) (by decide) (by decide) (by decide +kernel) ?_
      rintro T1941 h1942 v1943 L1944 S1945 ⟨⟨rfl, e1940⟩, -⟩
      rw [e1940] at S1945; clear e1940
      show own_Go p e below _ T1941 (mkF m 387 #[.val (.int i0), .val (.int i1), .val (.int i2), .val (.int z1713), .val (.int z1714), .val (.int z1715), .val (.int z1716), .val (.int z1717), .val (.int z1718), .val (.ref a1719), .val (.ref a1746), .val (.ref a1774), .val (.int (Int32.ofNat bs.length)), .val (.ref a1804), .val (.int (Int32.ofNat (own_b64 bs).length)), .val (.ref a1834)] [(.int 1)])
      refine own_if C S1945 (q := .eq) (o := 21) (by decide +kernel) 408 (by decide) (by decide) (fun (hq : (1 : Int32) = (0 : Int32)) => False.elim (absurd hq (by decide))) (fun (q1946 : ¬ (1 : Int32) = (0 : Int32)) => ?_)
      refine own_seg C S1945 [(390, .aload 15, 2), (392, .aload 13, 2), (394, .iload 14, 2), (396, .bipush 11, 2)] (by decide +kernel) 398 #[.val (.int i0), .val (.int i1), .val (.int i2), .val (.int z1713), .val (.int z1714), .val (.int z1715), .val (.int z1716), .val (.int z1717), .val (.int z1718), .val (.ref a1719), .val (.ref a1746), .val (.ref a1774), .val (.int (Int32.ofNat bs.length)), .val (.ref a1804), .val (.int (Int32.ofNat (own_b64 bs).length)), .val (.ref a1834)] [(.int 11), (.int (Int32.ofNat (own_b64 bs).length)), (.ref a1804), (.ref a1834)] rfl ?_
      refine own_callS C S1945 (own_wd hw 267 rfl) (own_wd hw 268 rfl) (own_wd hw 2 rfl) (own_wd hw 269 rfl) (by decide) (own_Met.pay (own_at l Z a0 hw G1 G3 a1834 _ _ a1804 _ (Int32.ofNat (own_b64 bs).length) (11 : Int32) (own_b64 bs) 11 h1853 n0 f1861 f1860 f1840 f1842 f1841 f1843 f1869 O2 O4 P5 rG3 rfl rfl (by decide) hb12 (own_b64_R _)) C 0 (own_wd hw 269 rfl) (own_wd hw 2 rfl) (by decide) (by decide)) (fun _ _ _ q => q.2) [(.ref a1834), (.ref a1804), (.int (Int32.ofNat (own_b64 bs).length)), (.int 11)] [] rfl own_pd46 rfl rfl rfl (Nat.le_of_ble_eq_true rfl) (by decide) (by decide) (by decide +kernel) ?_
      rintro T1948 h1949 v1950 L1951 S1952 ⟨⟨rfl, e1947⟩, -⟩
      rw [e1947] at S1952; clear e1947
      show own_Go p e below _ T1948 (mkF m 401 #[.val (.int i0), .val (.int i1), .val (.int i2), .val (.int z1713), .val (.int z1714), .val (.int z1715), .val (.int z1716), .val (.int z1717), .val (.int z1718), .val (.ref a1719), .val (.ref a1746), .val (.ref a1774), .val (.int (Int32.ofNat bs.length)), .val (.ref a1804), .val (.int (Int32.ofNat (own_b64 bs).length)), .val (.ref a1834)] [(.int 1)])
      refine own_if C S1952 (q := .eq) (o := 7) (by decide +kernel) 408 (by decide) (by decide) (fun (hq : (1 : Int32) = (0 : Int32)) => False.elim (absurd hq (by decide))) (fun (q1953 : ¬ (1 : Int32) = (0 : Int32)) => ?_)
      refine own_seg C S1952 [(404, .iconst 1, 1), (405, .goto 4, 3)] (by decide +kernel) 409 #[.val (.int i0), .val (.int i1), .val (.int i2), .val (.int z1713), .val (.int z1714), .val (.int z1715), .val (.int z1716), .val (.int z1717), .val (.int z1718), .val (.ref a1719), .val (.ref a1746), .val (.ref a1774), .val (.int (Int32.ofNat bs.length)), .val (.ref a1804), .val (.int (Int32.ofNat (own_b64 bs).length)), .val (.ref a1834)] [(.int 1)] rfl ?_
      have SW1954 := rb1859 _ _ _ _ [] [] S1952 (Keep.refl _ _) all0 all0
      refine own_retZW CW SW1954 (by decide +kernel) (by decide) (by decide) (by decide) ?_
      rfl
    rcases own_cut hL.1 hL.2 with hcut | ⟨LA, LB, rfl, hA, hB, hB3⟩ | ⟨LA, LB, LC, rfl, hA, hB, hC, hC3⟩
    · refine own_seg C S1802 [(173, .aload 11, 2), (175, .iload 12, 2), (177, .iconst 0, 1), (178, .aload 13, 2), (180, .iload 14, 2)] (by decide +kernel) 182 #[.val (.int i0), .val (.int i1), .val (.int i2), .val (.int z1713), .val (.int z1714), .val (.int z1715), .val (.int z1716), .val (.int z1717), .val (.int z1718), .val (.ref a1719), .val (.ref a1746), .val (.ref a1774), .val (.int (Int32.ofNat bs.length)), .val (.ref a1804), .val (.int (Int32.ofNat (own_b64 []).length)), .unset] [(.int (Int32.ofNat (own_b64 []).length)), (.ref a1804), (.int 0), (.int (Int32.ofNat bs.length)), (.ref a1774)] rfl ?_
      have f1955 := (bK.ext E1807)
      have f1956 : n0 ≤ h1803.size := (Nat.le_trans (Nat.le_trans f1792 K1783.1) E1807.1)
      have f1957 : n0 ≤ h1780.size := (Nat.le_trans f1792 K1783.1)
      have g1958 : n0 ≤ a1804 := by rw [g1806]; exact f1957
      have n1959 : a1774 ≠ a1804 := by rw [g1806]; exact Nat.ne_of_lt bK.lt
      refine own_callS C S1802 (own_wd hw 41 rfl) (own_wd hw 42 rfl) (own_wd hw 2 rfl) (own_wd hw 43 rfl) (by decide) (own_Met.pay (own_gr l Z a0 hw a1774 _ a1804 _ (Int32.ofNat bs.length) (0 : Int32) (Int32.ofNat (own_b64 []).length) ([] : List Int32) bs 0 h1803 n0 f1956 g1958 f1955 f1810 n1959 rfl rfl rfl rfl hL.2 (own_ne hL.1) hR) C 0 (own_wd hw 43 rfl) (own_wd hw 2 rfl) (by decide) (by decide)) (fun _ _ _ q => q.2) [(.ref a1774), (.int (Int32.ofNat bs.length)), (.int 0), (.ref a1804), (.int (Int32.ofNat (own_b64 []).length))] [] rfl own_pd47 rfl rfl rfl (Nat.le_of_ble_eq_true rfl) (by decide) (by decide) (by decide +kernel) ?_
      rintro T1962 h1963 v1964 L1965 S1966 ⟨⟨rfl, K1960, f1961⟩, -⟩
      show own_Go p e below _ T1962 (mkF m 185 #[.val (.int i0), .val (.int i1), .val (.int i2), .val (.int z1713), .val (.int z1714), .val (.int z1715), .val (.int z1716), .val (.int z1717), .val (.int z1718), .val (.ref a1719), .val (.ref a1746), .val (.ref a1774), .val (.int (Int32.ofNat bs.length)), .val (.ref a1804), .val (.int (Int32.ofNat (own_b64 []).length)), .unset] [(.int (Int32.ofNat (own_b64 (([] : List Int32) ++ bs.take 3)).length))])
      have e1967 : ([] : List Int32) ++ bs.take 3 = bs := (by rw [List.nil_append, own_tkB hcut])
      rw [e1967] at f1961
      rw [show (Int32.ofNat (own_b64 (([] : List Int32) ++ bs.take 3)).length) = (Int32.ofNat (own_b64 bs).length) from (by rw [e1967])]
      refine own_seg C S1966 [(185, .istore 14, 2), (187, .aload 11, 2), (189, .iload 12, 2), (191, .iconst 3, 1), (192, .aload 13, 2), (194, .iload 14, 2)] (by decide +kernel) 196 #[.val (.int i0), .val (.int i1), .val (.int i2), .val (.int z1713), .val (.int z1714), .val (.int z1715), .val (.int z1716), .val (.int z1717), .val (.int z1718), .val (.ref a1719), .val (.ref a1746), .val (.ref a1774), .val (.int (Int32.ofNat bs.length)), .val (.ref a1804), .val (.int (Int32.ofNat (own_b64 bs).length)), .unset] [(.int (Int32.ofNat (own_b64 bs).length)), (.ref a1804), (.int 3), (.int (Int32.ofNat bs.length)), (.ref a1774)] rfl ?_
      have f1968 : n0 ≤ h1963.size := (Nat.le_trans f1956 K1960.1)
      refine own_callS C S1966 (own_wd hw 41 rfl) (own_wd hw 42 rfl) (own_wd hw 2 rfl) (own_wd hw 43 rfl) (by decide) (own_Met.pay (own_gr0 l Z a0 hw a1774 (Int32.ofNat bs.length) (3 : Int32) a1804 (Int32.ofNat (own_b64 bs).length) h1963 n0 f1968 (own_nofs (i := 3) (by omega) (by omega) (by omega))) C 0 (own_wd hw 43 rfl) (own_wd hw 2 rfl) (by decide) (by decide)) (fun _ _ _ q => q.2) [(.ref a1774), (.int (Int32.ofNat bs.length)), (.int 3), (.ref a1804), (.int (Int32.ofNat (own_b64 bs).length))] [] rfl own_pd47 rfl rfl rfl (Nat.le_of_ble_eq_true rfl) (by decide) (by decide) (by decide +kernel) ?_
      rintro T1970 h1971 v1972 L1973 S1974 ⟨⟨rfl, e1969⟩, -⟩
      rw [e1969] at S1974; clear e1969
      show own_Go p e below _ T1970 (mkF m 199 #[.val (.int i0), .val (.int i1), .val (.int i2), .val (.int z1713), .val (.int z1714), .val (.int z1715), .val (.int z1716), .val (.int z1717), .val (.int z1718), .val (.ref a1719), .val (.ref a1746), .val (.ref a1774), .val (.int (Int32.ofNat bs.length)), .val (.ref a1804), .val (.int (Int32.ofNat (own_b64 bs).length)), .unset] [(.int (Int32.ofNat (own_b64 bs).length))])
      refine own_seg C S1974 [(199, .istore 14, 2), (201, .aload 11, 2), (203, .iload 12, 2), (205, .bipush 6, 2), (207, .aload 13, 2), (209, .iload 14, 2)] (by decide +kernel) 211 #[.val (.int i0), .val (.int i1), .val (.int i2), .val (.int z1713), .val (.int z1714), .val (.int z1715), .val (.int z1716), .val (.int z1717), .val (.int z1718), .val (.ref a1719), .val (.ref a1746), .val (.ref a1774), .val (.int (Int32.ofNat bs.length)), .val (.ref a1804), .val (.int (Int32.ofNat (own_b64 bs).length)), .unset] [(.int (Int32.ofNat (own_b64 bs).length)), (.ref a1804), (.int 6), (.int (Int32.ofNat bs.length)), (.ref a1774)] rfl ?_
      refine own_callS C S1974 (own_wd hw 41 rfl) (own_wd hw 42 rfl) (own_wd hw 2 rfl) (own_wd hw 43 rfl) (by decide) (own_Met.pay (own_gr0 l Z a0 hw a1774 (Int32.ofNat bs.length) (6 : Int32) a1804 (Int32.ofNat (own_b64 bs).length) h1963 n0 f1968 (own_nofs (i := 6) (by omega) (by omega) (by omega))) C 0 (own_wd hw 43 rfl) (own_wd hw 2 rfl) (by decide) (by decide)) (fun _ _ _ q => q.2) [(.ref a1774), (.int (Int32.ofNat bs.length)), (.int 6), (.ref a1804), (.int (Int32.ofNat (own_b64 bs).length))] [] rfl own_pd47 rfl rfl rfl (Nat.le_of_ble_eq_true rfl) (by decide) (by decide) (by decide +kernel) ?_
      rintro T1976 h1977 v1978 L1979 S1980 ⟨⟨rfl, e1975⟩, -⟩
      rw [e1975] at S1980; clear e1975
      show own_Go p e below _ T1976 (mkF m 214 #[.val (.int i0), .val (.int i1), .val (.int i2), .val (.int z1713), .val (.int z1714), .val (.int z1715), .val (.int z1716), .val (.int z1717), .val (.int z1718), .val (.ref a1719), .val (.ref a1746), .val (.ref a1774), .val (.int (Int32.ofNat bs.length)), .val (.ref a1804), .val (.int (Int32.ofNat (own_b64 bs).length)), .unset] [(.int (Int32.ofNat (own_b64 bs).length))])
      refine own_seg C S1980 [(214, .istore 14, 2)] (by decide +kernel) 216 #[.val (.int i0), .val (.int i1), .val (.int i2), .val (.int z1713), .val (.int z1714), .val (.int z1715), .val (.int z1716), .val (.int z1717), .val (.int z1718), .val (.ref a1719), .val (.ref a1746), .val (.ref a1774), .val (.int (Int32.ofNat bs.length)), .val (.ref a1804), .val (.int (Int32.ofNat (own_b64 bs).length)), .unset] [] rfl ?_
      have f1981 := (f1955.keep K1960 (ninS n1959 nin0))
      exact J216 T1976 h1963  S1980 ((((Keep.refl _ _).trans K1783 all0).ext E1807).trans K1960 (allS (Or.inr o1816) all0)) f1981 f1961 
    · have hsz : (LA ++ LB).length = LA.length + LB.length := List.length_append
      refine own_seg C S1802 [(173, .aload 11, 2), (175, .iload 12, 2), (177, .iconst 0, 1), (178, .aload 13, 2), (180, .iload 14, 2)] (by decide +kernel) 182 #[.val (.int i0), .val (.int i1), .val (.int i2), .val (.int z1713), .val (.int z1714), .val (.int z1715), .val (.int z1716), .val (.int z1717), .val (.int z1718), .val (.ref a1719), .val (.ref a1746), .val (.ref a1774), .val (.int (Int32.ofNat (LA ++ LB).length)), .val (.ref a1804), .val (.int (Int32.ofNat (own_b64 []).length)), .unset] [(.int (Int32.ofNat (own_b64 []).length)), (.ref a1804), (.int 0), (.int (Int32.ofNat (LA ++ LB).length)), (.ref a1774)] rfl ?_
      have f1982 := (bK.ext E1807)
      have f1983 : n0 ≤ h1803.size := (Nat.le_trans (Nat.le_trans f1792 K1783.1) E1807.1)
      have f1984 : n0 ≤ h1780.size := (Nat.le_trans f1792 K1783.1)
      have g1985 : n0 ≤ a1804 := by rw [g1806]; exact f1984
      have n1986 : a1774 ≠ a1804 := by rw [g1806]; exact Nat.ne_of_lt bK.lt
      refine own_callS C S1802 (own_wd hw 41 rfl) (own_wd hw 42 rfl) (own_wd hw 2 rfl) (own_wd hw 43 rfl) (by decide) (own_Met.pay (own_gr l Z a0 hw a1774 _ a1804 _ (Int32.ofNat (LA ++ LB).length) (0 : Int32) (Int32.ofNat (own_b64 []).length) ([] : List Int32) (LA ++ LB) 0 h1803 n0 f1983 g1985 f1982 f1810 n1986 rfl rfl rfl rfl hL.2 (own_ne hL.1) hR) C 0 (own_wd hw 43 rfl) (own_wd hw 2 rfl) (by decide) (by decide)) (fun _ _ _ q => q.2) [(.ref a1774), (.int (Int32.ofNat (LA ++ LB).length)), (.int 0), (.ref a1804), (.int (Int32.ofNat (own_b64 []).length))] [] rfl own_pd47 rfl rfl rfl (Nat.le_of_ble_eq_true rfl) (by decide) (by decide) (by decide +kernel) ?_
      rintro T1989 h1990 v1991 L1992 S1993 ⟨⟨rfl, K1987, f1988⟩, -⟩
      show own_Go p e below _ T1989 (mkF m 185 #[.val (.int i0), .val (.int i1), .val (.int i2), .val (.int z1713), .val (.int z1714), .val (.int z1715), .val (.int z1716), .val (.int z1717), .val (.int z1718), .val (.ref a1719), .val (.ref a1746), .val (.ref a1774), .val (.int (Int32.ofNat (LA ++ LB).length)), .val (.ref a1804), .val (.int (Int32.ofNat (own_b64 []).length)), .unset] [(.int (Int32.ofNat (own_b64 (([] : List Int32) ++ (LA ++ LB).take 3)).length))])
      have e1994 : ([] : List Int32) ++ (LA ++ LB).take 3 = LA := (by rw [List.nil_append, own_tkA hA])
      rw [e1994] at f1988
      rw [show (Int32.ofNat (own_b64 (([] : List Int32) ++ (LA ++ LB).take 3)).length) = (Int32.ofNat (own_b64 LA).length) from (by rw [e1994])]
      refine own_seg C S1993 [(185, .istore 14, 2), (187, .aload 11, 2), (189, .iload 12, 2), (191, .iconst 3, 1), (192, .aload 13, 2), (194, .iload 14, 2)] (by decide +kernel) 196 #[.val (.int i0), .val (.int i1), .val (.int i2), .val (.int z1713), .val (.int z1714), .val (.int z1715), .val (.int z1716), .val (.int z1717), .val (.int z1718), .val (.ref a1719), .val (.ref a1746), .val (.ref a1774), .val (.int (Int32.ofNat (LA ++ LB).length)), .val (.ref a1804), .val (.int (Int32.ofNat (own_b64 LA).length)), .unset] [(.int (Int32.ofNat (own_b64 LA).length)), (.ref a1804), (.int 3), (.int (Int32.ofNat (LA ++ LB).length)), (.ref a1774)] rfl ?_
      have f1995 := (f1982.keep K1987 (ninS n1986 nin0))
      have f1996 : n0 ≤ h1990.size := (Nat.le_trans f1983 K1987.1)
      refine own_callS C S1993 (own_wd hw 41 rfl) (own_wd hw 42 rfl) (own_wd hw 2 rfl) (own_wd hw 43 rfl) (by decide) (own_Met.pay (own_gr l Z a0 hw a1774 _ a1804 _ (Int32.ofNat (LA ++ LB).length) (3 : Int32) (Int32.ofNat (own_b64 LA).length) LA LB 1 h1990 n0 f1996 g1985 f1995 f1988 n1986 rfl (by rw [hA]; rfl) rfl (by omega) hL.2 (own_ne hB) hR) C 0 (own_wd hw 43 rfl) (own_wd hw 2 rfl) (by decide) (by decide)) (fun _ _ _ q => q.2) [(.ref a1774), (.int (Int32.ofNat (LA ++ LB).length)), (.int 3), (.ref a1804), (.int (Int32.ofNat (own_b64 LA).length))] [] rfl own_pd47 rfl rfl rfl (Nat.le_of_ble_eq_true rfl) (by decide) (by decide) (by decide +kernel) ?_
      rintro T1999 h2000 v2001 L2002 S2003 ⟨⟨rfl, K1997, f1998⟩, -⟩
      show own_Go p e below _ T1999 (mkF m 199 #[.val (.int i0), .val (.int i1), .val (.int i2), .val (.int z1713), .val (.int z1714), .val (.int z1715), .val (.int z1716), .val (.int z1717), .val (.int z1718), .val (.ref a1719), .val (.ref a1746), .val (.ref a1774), .val (.int (Int32.ofNat (LA ++ LB).length)), .val (.ref a1804), .val (.int (Int32.ofNat (own_b64 LA).length)), .unset] [(.int (Int32.ofNat (own_b64 (LA ++ LB.take 3)).length))])
      have e2004 : LA ++ LB.take 3 = (LA ++ LB) := (by rw [own_tkB hB3])
      rw [e2004] at f1998
      rw [show (Int32.ofNat (own_b64 (LA ++ LB.take 3)).length) = (Int32.ofNat (own_b64 (LA ++ LB)).length) from (by rw [e2004])]
      refine own_seg C S2003 [(199, .istore 14, 2), (201, .aload 11, 2), (203, .iload 12, 2), (205, .bipush 6, 2), (207, .aload 13, 2), (209, .iload 14, 2)] (by decide +kernel) 211 #[.val (.int i0), .val (.int i1), .val (.int i2), .val (.int z1713), .val (.int z1714), .val (.int z1715), .val (.int z1716), .val (.int z1717), .val (.int z1718), .val (.ref a1719), .val (.ref a1746), .val (.ref a1774), .val (.int (Int32.ofNat (LA ++ LB).length)), .val (.ref a1804), .val (.int (Int32.ofNat (own_b64 (LA ++ LB)).length)), .unset] [(.int (Int32.ofNat (own_b64 (LA ++ LB)).length)), (.ref a1804), (.int 6), (.int (Int32.ofNat (LA ++ LB).length)), (.ref a1774)] rfl ?_
      have f2005 : n0 ≤ h2000.size := (Nat.le_trans f1996 K1997.1)
      refine own_callS C S2003 (own_wd hw 41 rfl) (own_wd hw 42 rfl) (own_wd hw 2 rfl) (own_wd hw 43 rfl) (by decide) (own_Met.pay (own_gr0 l Z a0 hw a1774 (Int32.ofNat (LA ++ LB).length) (6 : Int32) a1804 (Int32.ofNat (own_b64 (LA ++ LB)).length) h2000 n0 f2005 (own_nofs (i := 6) (by omega) (by omega) (by omega))) C 0 (own_wd hw 43 rfl) (own_wd hw 2 rfl) (by decide) (by decide)) (fun _ _ _ q => q.2) [(.ref a1774), (.int (Int32.ofNat (LA ++ LB).length)), (.int 6), (.ref a1804), (.int (Int32.ofNat (own_b64 (LA ++ LB)).length))] [] rfl own_pd47 rfl rfl rfl (Nat.le_of_ble_eq_true rfl) (by decide) (by decide) (by decide +kernel) ?_
      rintro T2007 h2008 v2009 L2010 S2011 ⟨⟨rfl, e2006⟩, -⟩
      rw [e2006] at S2011; clear e2006
      show own_Go p e below _ T2007 (mkF m 214 #[.val (.int i0), .val (.int i1), .val (.int i2), .val (.int z1713), .val (.int z1714), .val (.int z1715), .val (.int z1716), .val (.int z1717), .val (.int z1718), .val (.ref a1719), .val (.ref a1746), .val (.ref a1774), .val (.int (Int32.ofNat (LA ++ LB).length)), .val (.ref a1804), .val (.int (Int32.ofNat (own_b64 (LA ++ LB)).length)), .unset] [(.int (Int32.ofNat (own_b64 (LA ++ LB)).length))])
      refine own_seg C S2011 [(214, .istore 14, 2)] (by decide +kernel) 216 #[.val (.int i0), .val (.int i1), .val (.int i2), .val (.int z1713), .val (.int z1714), .val (.int z1715), .val (.int z1716), .val (.int z1717), .val (.int z1718), .val (.ref a1719), .val (.ref a1746), .val (.ref a1774), .val (.int (Int32.ofNat (LA ++ LB).length)), .val (.ref a1804), .val (.int (Int32.ofNat (own_b64 (LA ++ LB)).length)), .unset] [] rfl ?_
      have f2012 := (f1995.keep K1997 (ninS n1986 nin0))
      exact J216 T2007 h2000  S2011 (((((Keep.refl _ _).trans K1783 all0).ext E1807).trans K1987 (allS (Or.inr o1816) all0)).trans K1997 (allS (Or.inr o1816) all0)) f2012 f1998 
    · have hsz : ((LA ++ LB) ++ LC).length = LA.length + LB.length + LC.length := by rw [List.length_append, List.length_append]
      have hsAB : (LA ++ LB).length = LA.length + LB.length := List.length_append
      refine own_seg C S1802 [(173, .aload 11, 2), (175, .iload 12, 2), (177, .iconst 0, 1), (178, .aload 13, 2), (180, .iload 14, 2)] (by decide +kernel) 182 #[.val (.int i0), .val (.int i1), .val (.int i2), .val (.int z1713), .val (.int z1714), .val (.int z1715), .val (.int z1716), .val (.int z1717), .val (.int z1718), .val (.ref a1719), .val (.ref a1746), .val (.ref a1774), .val (.int (Int32.ofNat ((LA ++ LB) ++ LC).length)), .val (.ref a1804), .val (.int (Int32.ofNat (own_b64 []).length)), .unset] [(.int (Int32.ofNat (own_b64 []).length)), (.ref a1804), (.int 0), (.int (Int32.ofNat ((LA ++ LB) ++ LC).length)), (.ref a1774)] rfl ?_
      have f2013 := (bK.ext E1807)
      have f2014 : n0 ≤ h1803.size := (Nat.le_trans (Nat.le_trans f1792 K1783.1) E1807.1)
      have f2015 : n0 ≤ h1780.size := (Nat.le_trans f1792 K1783.1)
      have g2016 : n0 ≤ a1804 := by rw [g1806]; exact f2015
      have n2017 : a1774 ≠ a1804 := by rw [g1806]; exact Nat.ne_of_lt bK.lt
      refine own_callS C S1802 (own_wd hw 41 rfl) (own_wd hw 42 rfl) (own_wd hw 2 rfl) (own_wd hw 43 rfl) (by decide) (own_Met.pay (own_gr l Z a0 hw a1774 _ a1804 _ (Int32.ofNat ((LA ++ LB) ++ LC).length) (0 : Int32) (Int32.ofNat (own_b64 []).length) ([] : List Int32) ((LA ++ LB) ++ LC) 0 h1803 n0 f2014 g2016 f2013 f1810 n2017 rfl rfl rfl rfl hL.2 (own_ne hL.1) hR) C 0 (own_wd hw 43 rfl) (own_wd hw 2 rfl) (by decide) (by decide)) (fun _ _ _ q => q.2) [(.ref a1774), (.int (Int32.ofNat ((LA ++ LB) ++ LC).length)), (.int 0), (.ref a1804), (.int (Int32.ofNat (own_b64 []).length))] [] rfl own_pd47 rfl rfl rfl (Nat.le_of_ble_eq_true rfl) (by decide) (by decide) (by decide +kernel) ?_
      rintro T2020 h2021 v2022 L2023 S2024 ⟨⟨rfl, K2018, f2019⟩, -⟩
      show own_Go p e below _ T2020 (mkF m 185 #[.val (.int i0), .val (.int i1), .val (.int i2), .val (.int z1713), .val (.int z1714), .val (.int z1715), .val (.int z1716), .val (.int z1717), .val (.int z1718), .val (.ref a1719), .val (.ref a1746), .val (.ref a1774), .val (.int (Int32.ofNat ((LA ++ LB) ++ LC).length)), .val (.ref a1804), .val (.int (Int32.ofNat (own_b64 []).length)), .unset] [(.int (Int32.ofNat (own_b64 (([] : List Int32) ++ ((LA ++ LB) ++ LC).take 3)).length))])
      have e2025 : ([] : List Int32) ++ ((LA ++ LB) ++ LC).take 3 = LA := (by rw [List.nil_append, List.append_assoc, own_tkA hA])
      rw [e2025] at f2019
      rw [show (Int32.ofNat (own_b64 (([] : List Int32) ++ ((LA ++ LB) ++ LC).take 3)).length) = (Int32.ofNat (own_b64 LA).length) from (by rw [e2025])]
      have f2026 := (f2013.keep K2018 (ninS n2017 nin0))
      have f2027 : Arv Z h2021 a1774 k1775 .int 9 (own_pd 9 (LA ++ (LB ++ LC))) (.int 0) := by rw [← List.append_assoc]; exact f2026
      refine own_seg C S2024 [(185, .istore 14, 2), (187, .aload 11, 2), (189, .iload 12, 2), (191, .iconst 3, 1), (192, .aload 13, 2), (194, .iload 14, 2)] (by decide +kernel) 196 #[.val (.int i0), .val (.int i1), .val (.int i2), .val (.int z1713), .val (.int z1714), .val (.int z1715), .val (.int z1716), .val (.int z1717), .val (.int z1718), .val (.ref a1719), .val (.ref a1746), .val (.ref a1774), .val (.int (Int32.ofNat ((LA ++ LB) ++ LC).length)), .val (.ref a1804), .val (.int (Int32.ofNat (own_b64 LA).length)), .unset] [(.int (Int32.ofNat (own_b64 LA).length)), (.ref a1804), (.int 3), (.int (Int32.ofNat ((LA ++ LB) ++ LC).length)), (.ref a1774)] rfl ?_
      have f2028 : n0 ≤ h2021.size := (Nat.le_trans f2014 K2018.1)
      refine own_callS C S2024 (own_wd hw 41 rfl) (own_wd hw 42 rfl) (own_wd hw 2 rfl) (own_wd hw 43 rfl) (by decide) (own_Met.pay (own_gr l Z a0 hw a1774 _ a1804 _ (Int32.ofNat ((LA ++ LB) ++ LC).length) (3 : Int32) (Int32.ofNat (own_b64 LA).length) LA (LB ++ LC) 1 h2021 n0 f2028 g2016 f2027 f2019 n2017 (by rw [List.append_assoc]) (by rw [hA]; rfl) rfl (by omega) (by rw [← List.append_assoc]; exact hL.2) (own_ne (by rw [List.length_append]; omega)) (by rw [← List.append_assoc]; exact hR)) C 0 (own_wd hw 43 rfl) (own_wd hw 2 rfl) (by decide) (by decide)) (fun _ _ _ q => q.2) [(.ref a1774), (.int (Int32.ofNat ((LA ++ LB) ++ LC).length)), (.int 3), (.ref a1804), (.int (Int32.ofNat (own_b64 LA).length))] [] rfl own_pd47 rfl rfl rfl (Nat.le_of_ble_eq_true rfl) (by decide) (by decide) (by decide +kernel) ?_
      rintro T2031 h2032 v2033 L2034 S2035 ⟨⟨rfl, K2029, f2030⟩, -⟩
      show own_Go p e below _ T2031 (mkF m 199 #[.val (.int i0), .val (.int i1), .val (.int i2), .val (.int z1713), .val (.int z1714), .val (.int z1715), .val (.int z1716), .val (.int z1717), .val (.int z1718), .val (.ref a1719), .val (.ref a1746), .val (.ref a1774), .val (.int (Int32.ofNat ((LA ++ LB) ++ LC).length)), .val (.ref a1804), .val (.int (Int32.ofNat (own_b64 LA).length)), .unset] [(.int (Int32.ofNat (own_b64 (LA ++ (LB ++ LC).take 3)).length))])
      have e2036 : LA ++ (LB ++ LC).take 3 = (LA ++ LB) := (by rw [own_tkA hB])
      rw [e2036] at f2030
      rw [show (Int32.ofNat (own_b64 (LA ++ (LB ++ LC).take 3)).length) = (Int32.ofNat (own_b64 (LA ++ LB)).length) from (by rw [e2036])]
      have f2037 := (f2027.keep K2029 (ninS n2017 nin0))
      have f2038 : Arv Z h2032 a1774 k1775 .int 9 (own_pd 9 ((LA ++ LB) ++ LC)) (.int 0) := by rw [List.append_assoc]; exact f2037
      refine own_seg C S2035 [(199, .istore 14, 2), (201, .aload 11, 2), (203, .iload 12, 2), (205, .bipush 6, 2), (207, .aload 13, 2), (209, .iload 14, 2)] (by decide +kernel) 211 #[.val (.int i0), .val (.int i1), .val (.int i2), .val (.int z1713), .val (.int z1714), .val (.int z1715), .val (.int z1716), .val (.int z1717), .val (.int z1718), .val (.ref a1719), .val (.ref a1746), .val (.ref a1774), .val (.int (Int32.ofNat ((LA ++ LB) ++ LC).length)), .val (.ref a1804), .val (.int (Int32.ofNat (own_b64 (LA ++ LB)).length)), .unset] [(.int (Int32.ofNat (own_b64 (LA ++ LB)).length)), (.ref a1804), (.int 6), (.int (Int32.ofNat ((LA ++ LB) ++ LC).length)), (.ref a1774)] rfl ?_
      have f2039 : n0 ≤ h2032.size := (Nat.le_trans f2028 K2029.1)
      refine own_callS C S2035 (own_wd hw 41 rfl) (own_wd hw 42 rfl) (own_wd hw 2 rfl) (own_wd hw 43 rfl) (by decide) (own_Met.pay (own_gr l Z a0 hw a1774 _ a1804 _ (Int32.ofNat ((LA ++ LB) ++ LC).length) (6 : Int32) (Int32.ofNat (own_b64 (LA ++ LB)).length) (LA ++ LB) LC 2 h2032 n0 f2039 g2016 f2038 f2030 n2017 rfl (by rw [hsAB, hA, hB]; rfl) rfl (by omega) hL.2 (own_ne hC) hR) C 0 (own_wd hw 43 rfl) (own_wd hw 2 rfl) (by decide) (by decide)) (fun _ _ _ q => q.2) [(.ref a1774), (.int (Int32.ofNat ((LA ++ LB) ++ LC).length)), (.int 6), (.ref a1804), (.int (Int32.ofNat (own_b64 (LA ++ LB)).length))] [] rfl own_pd47 rfl rfl rfl (Nat.le_of_ble_eq_true rfl) (by decide) (by decide) (by decide +kernel) ?_
      rintro T2042 h2043 v2044 L2045 S2046 ⟨⟨rfl, K2040, f2041⟩, -⟩
      show own_Go p e below _ T2042 (mkF m 214 #[.val (.int i0), .val (.int i1), .val (.int i2), .val (.int z1713), .val (.int z1714), .val (.int z1715), .val (.int z1716), .val (.int z1717), .val (.int z1718), .val (.ref a1719), .val (.ref a1746), .val (.ref a1774), .val (.int (Int32.ofNat ((LA ++ LB) ++ LC).length)), .val (.ref a1804), .val (.int (Int32.ofNat (own_b64 (LA ++ LB)).length)), .unset] [(.int (Int32.ofNat (own_b64 ((LA ++ LB) ++ LC.take 3)).length))])
      have e2047 : (LA ++ LB) ++ LC.take 3 = ((LA ++ LB) ++ LC) := (by rw [own_tkB hC3])
      rw [e2047] at f2041
      rw [show (Int32.ofNat (own_b64 ((LA ++ LB) ++ LC.take 3)).length) = (Int32.ofNat (own_b64 ((LA ++ LB) ++ LC)).length) from (by rw [e2047])]
      refine own_seg C S2046 [(214, .istore 14, 2)] (by decide +kernel) 216 #[.val (.int i0), .val (.int i1), .val (.int i2), .val (.int z1713), .val (.int z1714), .val (.int z1715), .val (.int z1716), .val (.int z1717), .val (.int z1718), .val (.ref a1719), .val (.ref a1746), .val (.ref a1774), .val (.int (Int32.ofNat ((LA ++ LB) ++ LC).length)), .val (.ref a1804), .val (.int (Int32.ofNat (own_b64 ((LA ++ LB) ++ LC)).length)), .unset] [] rfl ?_
      have f2048 := (f2038.keep K2040 (ninS n2017 nin0))
      exact J216 T2042 h2043  S2046 ((((((Keep.refl _ _).trans K1783 all0).ext E1807).trans K2018 (allS (Or.inr o1816) all0)).trans K2029 (allS (Or.inr o1816) all0)).trans K2040 (allS (Or.inr o1816) all0)) f2048 f2041 
  have J131 : ∀ (T2050 : State) (h2049 : Heap) (bs : List Int32), own_S p l e room_1 (s.setVm vm1768) m #[(.int i0), (.int i1), (.int i2)] below meth c n0 T2050 h2049 13 33 → Keep h1764 h2049 [] → Arv Z h2049 a1774 k1775 .int 9 (own_pd 9 bs) (.int 0) → (bs = own_u8 (own_tk z1713 z1714 z1717) ++ [58]) → own_Go p e below (own_EnW s n0 Z own_EL (fun v h => v = some (.int 1)) room_1.cells room_1.slots) T2050 (mkF m 131 #[.val (.int i0), .val (.int i1), .val (.int i2), .val (.int z1713), .val (.int z1714), .val (.int z1715), .val (.int z1716), .val (.int z1717), .val (.int z1718), .val (.ref a1719), .val (.ref a1746), .val (.ref a1774), .val (.int (Int32.ofNat bs.length)), .unset, .unset, .unset] []) := by
    intro T2050 h2049 bs S2051 K2052 bK hbs
    have hl5 : bs.length ≤ 5 := (by have q3 := own_tk_len z1713 z1714 z1717; have q4 := (own_u8_len (own_tk z1713 z1714 z1717)).1; have q5 := own_c8_len z1713; have q6 := own_c8_len z1715; have q7 := own_c8_len z1716; rw [hbs, List.length_append]; simp only [List.length_cons, List.length_nil]; omega)
    refine own_seg C S2051 [(131, .iload 8, 2)] (by decide +kernel) 133 #[.val (.int i0), .val (.int i1), .val (.int i2), .val (.int z1713), .val (.int z1714), .val (.int z1715), .val (.int z1716), .val (.int z1717), .val (.int z1718), .val (.ref a1719), .val (.ref a1746), .val (.ref a1774), .val (.int (Int32.ofNat bs.length)), .unset, .unset, .unset] [(.int z1718)] rfl ?_
    refine own_if C S2051 (q := .le) (o := 14) (by decide +kernel) 147 (by decide) (by decide) (fun (q2053 : ¬ (0 : Int32) < z1718) => ?_) (fun (q2054 : (0 : Int32) < z1718) => ?_)
    · refine own_seg C S2051 [(147, .iload 8, 2), (149, .iconst 1, 1)] (by decide +kernel) 150 #[.val (.int i0), .val (.int i1), .val (.int i2), .val (.int z1713), .val (.int z1714), .val (.int z1715), .val (.int z1716), .val (.int z1717), .val (.int z1718), .val (.ref a1719), .val (.ref a1746), .val (.ref a1774), .val (.int (Int32.ofNat bs.length)), .unset, .unset, .unset] [(.int 1), (.int z1718)] rfl ?_
      refine own_icmp C S2051 (q := .le) (o := 14) (by decide +kernel) 164 (by decide) (by decide) (fun (q2055 : ¬ (1 : Int32) < z1718) => ?_) (fun (hq : (1 : Int32) < z1718) => False.elim (own_01 q2053 hq))
      exact J164 T2050 h2049 bs S2051 ((Keep.refl _ _).trans K2052 all0) bK (by rw [hbs, own_u8_app, own_u8_app, own_tk_0 rz1718 q2053]; simp [own_u8, own_c8_58])
    · refine own_seg C S2051 [(136, .aload 11, 2), (138, .iload 12, 2), (140, .iload 5, 2)] (by decide +kernel) 142 #[.val (.int i0), .val (.int i1), .val (.int i2), .val (.int z1713), .val (.int z1714), .val (.int z1715), .val (.int z1716), .val (.int z1717), .val (.int z1718), .val (.ref a1719), .val (.ref a1746), .val (.ref a1774), .val (.int (Int32.ofNat bs.length)), .unset, .unset, .unset] [(.int z1715), (.int (Int32.ofNat bs.length)), (.ref a1774)] rfl ?_
      have f2056 : n0 ≤ h2049.size := (Nat.le_trans f1792 K2052.1)
      have g2057 : n0 ≤ a1774 := Nat.le_trans f1792 o1784
      refine own_callS C S2051 (own_wd hw 38 rfl) (own_wd hw 39 rfl) (own_wd hw 2 rfl) (own_wd hw 40 rfl) (by decide) (own_Met.pay (own_pbuf l Z a0 hw a1774 _ bs z1715 h2049 n0 f2056 g2057 bK (by omega)) C 0 (own_wd hw 40 rfl) (own_wd hw 2 rfl) (by decide) (by decide)) (fun _ _ _ q => q.2) [(.ref a1774), (.int (Int32.ofNat bs.length)), (.int z1715)] [] rfl own_pd48 rfl rfl rfl (Nat.le_of_ble_eq_true rfl) (by decide) (by decide) (by decide +kernel) ?_
      rintro T2060 h2061 v2062 L2063 S2064 ⟨⟨rfl, K2058, f2059⟩, -⟩
      show own_Go p e below _ T2060 (mkF m 145 #[.val (.int i0), .val (.int i1), .val (.int i2), .val (.int z1713), .val (.int z1714), .val (.int z1715), .val (.int z1716), .val (.int z1717), .val (.int z1718), .val (.ref a1719), .val (.ref a1746), .val (.ref a1774), .val (.int (Int32.ofNat bs.length)), .unset, .unset, .unset] [(.int (Int32.ofNat (bs ++ own_c8 z1715).length))])
      refine own_seg C S2064 [(145, .istore 12, 2)] (by decide +kernel) 147 #[.val (.int i0), .val (.int i1), .val (.int i2), .val (.int z1713), .val (.int z1714), .val (.int z1715), .val (.int z1716), .val (.int z1717), .val (.int z1718), .val (.ref a1719), .val (.ref a1746), .val (.ref a1774), .val (.int (Int32.ofNat (bs ++ own_c8 z1715).length)), .unset, .unset, .unset] [] rfl ?_
      refine own_seg C S2064 [(147, .iload 8, 2), (149, .iconst 1, 1)] (by decide +kernel) 150 #[.val (.int i0), .val (.int i1), .val (.int i2), .val (.int z1713), .val (.int z1714), .val (.int z1715), .val (.int z1716), .val (.int z1717), .val (.int z1718), .val (.ref a1719), .val (.ref a1746), .val (.ref a1774), .val (.int (Int32.ofNat (bs ++ own_c8 z1715).length)), .unset, .unset, .unset] [(.int 1), (.int z1718)] rfl ?_
      refine own_icmp C S2064 (q := .le) (o := 14) (by decide +kernel) 164 (by decide) (by decide) (fun (q2065 : ¬ (1 : Int32) < z1718) => ?_) (fun (q2066 : (1 : Int32) < z1718) => ?_)
      · have o2067 : h1764.size ≤ a1774 := Nat.le_trans (Nat.le_refl _) o1784
        exact J164 T2060 h2061 (bs ++ own_c8 z1715) S2064 (((Keep.refl _ _).trans K2052 all0).trans K2058 (allS (Or.inr o2067) all0)) f2059 (by rw [hbs, own_u8_app, own_u8_app, own_tk_1 rz1718 q2054 q2065]; simp [own_u8, own_c8_58])
      · refine own_seg C S2064 [(153, .aload 11, 2), (155, .iload 12, 2), (157, .iload 6, 2)] (by decide +kernel) 159 #[.val (.int i0), .val (.int i1), .val (.int i2), .val (.int z1713), .val (.int z1714), .val (.int z1715), .val (.int z1716), .val (.int z1717), .val (.int z1718), .val (.ref a1719), .val (.ref a1746), .val (.ref a1774), .val (.int (Int32.ofNat (bs ++ own_c8 z1715).length)), .unset, .unset, .unset] [(.int z1716), (.int (Int32.ofNat (bs ++ own_c8 z1715).length)), (.ref a1774)] rfl ?_
        have f2068 : n0 ≤ h2061.size := (Nat.le_trans f2056 K2058.1)
        refine own_callS C S2064 (own_wd hw 38 rfl) (own_wd hw 39 rfl) (own_wd hw 2 rfl) (own_wd hw 40 rfl) (by decide) (own_Met.pay (own_pbuf l Z a0 hw a1774 _ (bs ++ own_c8 z1715) z1716 h2061 n0 f2068 g2057 f2059 (by have := own_c8_len z1715; rw [List.length_append]; omega)) C 0 (own_wd hw 40 rfl) (own_wd hw 2 rfl) (by decide) (by decide)) (fun _ _ _ q => q.2) [(.ref a1774), (.int (Int32.ofNat (bs ++ own_c8 z1715).length)), (.int z1716)] [] rfl own_pd48 rfl rfl rfl (Nat.le_of_ble_eq_true rfl) (by decide) (by decide) (by decide +kernel) ?_
        rintro T2071 h2072 v2073 L2074 S2075 ⟨⟨rfl, K2069, f2070⟩, -⟩
        show own_Go p e below _ T2071 (mkF m 162 #[.val (.int i0), .val (.int i1), .val (.int i2), .val (.int z1713), .val (.int z1714), .val (.int z1715), .val (.int z1716), .val (.int z1717), .val (.int z1718), .val (.ref a1719), .val (.ref a1746), .val (.ref a1774), .val (.int (Int32.ofNat (bs ++ own_c8 z1715).length)), .unset, .unset, .unset] [(.int (Int32.ofNat ((bs ++ own_c8 z1715) ++ own_c8 z1716).length))])
        refine own_seg C S2075 [(162, .istore 12, 2)] (by decide +kernel) 164 #[.val (.int i0), .val (.int i1), .val (.int i2), .val (.int z1713), .val (.int z1714), .val (.int z1715), .val (.int z1716), .val (.int z1717), .val (.int z1718), .val (.ref a1719), .val (.ref a1746), .val (.ref a1774), .val (.int (Int32.ofNat ((bs ++ own_c8 z1715) ++ own_c8 z1716).length)), .unset, .unset, .unset] [] rfl ?_
        have o2076 : h1764.size ≤ a1774 := Nat.le_trans (Nat.le_refl _) o1784
        exact J164 T2071 h2072 ((bs ++ own_c8 z1715) ++ own_c8 z1716) S2075 ((((Keep.refl _ _).trans K2052 all0).trans K2058 (allS (Or.inr o2076) all0)).trans K2069 (allS (Or.inr o2076) all0)) f2070 (by rw [hbs, own_u8_app, own_u8_app, own_tk_2 rz1718 q2054 q2066]; simp [own_u8, own_c8_58])
  have J120 : ∀ (T2078 : State) (h2077 : Heap) (bs : List Int32), own_S p l e room_1 (s.setVm vm1768) m #[(.int i0), (.int i1), (.int i2)] below meth c n0 T2078 h2077 13 33 → Keep h1764 h2077 [] → Arv Z h2077 a1774 k1775 .int 9 (own_pd 9 bs) (.int 0) → (bs = own_u8 (own_tk z1713 z1714 z1717)) → own_Go p e below (own_EnW s n0 Z own_EL (fun v h => v = some (.int 1)) room_1.cells room_1.slots) T2078 (mkF m 120 #[.val (.int i0), .val (.int i1), .val (.int i2), .val (.int z1713), .val (.int z1714), .val (.int z1715), .val (.int z1716), .val (.int z1717), .val (.int z1718), .val (.ref a1719), .val (.ref a1746), .val (.ref a1774), .val (.int (Int32.ofNat bs.length)), .unset, .unset, .unset] []) := by
    intro T2078 h2077 bs S2079 K2080 bK hbs
    have hl4 : bs.length ≤ 4 := (by have q3 := own_tk_len z1713 z1714 z1717; have q4 := (own_u8_len (own_tk z1713 z1714 z1717)).1; have q5 := own_c8_len z1713; have q6 := own_c8_len z1715; have q7 := own_c8_len z1716; rw [hbs]; omega)
    refine own_seg C S2079 [(120, .aload 11, 2), (122, .iload 12, 2), (124, .bipush 58, 2)] (by decide +kernel) 126 #[.val (.int i0), .val (.int i1), .val (.int i2), .val (.int z1713), .val (.int z1714), .val (.int z1715), .val (.int z1716), .val (.int z1717), .val (.int z1718), .val (.ref a1719), .val (.ref a1746), .val (.ref a1774), .val (.int (Int32.ofNat bs.length)), .unset, .unset, .unset] [(.int 58), (.int (Int32.ofNat bs.length)), (.ref a1774)] rfl ?_
    have f2081 : n0 ≤ h2077.size := (Nat.le_trans f1792 K2080.1)
    have g2082 : n0 ≤ a1774 := Nat.le_trans f1792 o1784
    refine own_callS C S2079 (own_wd hw 38 rfl) (own_wd hw 39 rfl) (own_wd hw 2 rfl) (own_wd hw 40 rfl) (by decide) (own_Met.pay (own_pbuf l Z a0 hw a1774 _ bs (58 : Int32) h2077 n0 f2081 g2082 bK (by omega)) C 0 (own_wd hw 40 rfl) (own_wd hw 2 rfl) (by decide) (by decide)) (fun _ _ _ q => q.2) [(.ref a1774), (.int (Int32.ofNat bs.length)), (.int 58)] [] rfl own_pd48 rfl rfl rfl (Nat.le_of_ble_eq_true rfl) (by decide) (by decide) (by decide +kernel) ?_
    rintro T2085 h2086 v2087 L2088 S2089 ⟨⟨rfl, K2083, f2084⟩, -⟩
    show own_Go p e below _ T2085 (mkF m 129 #[.val (.int i0), .val (.int i1), .val (.int i2), .val (.int z1713), .val (.int z1714), .val (.int z1715), .val (.int z1716), .val (.int z1717), .val (.int z1718), .val (.ref a1719), .val (.ref a1746), .val (.ref a1774), .val (.int (Int32.ofNat bs.length)), .unset, .unset, .unset] [(.int (Int32.ofNat (bs ++ own_c8 (58 : Int32)).length))])
    refine own_seg C S2089 [(129, .istore 12, 2)] (by decide +kernel) 131 #[.val (.int i0), .val (.int i1), .val (.int i2), .val (.int z1713), .val (.int z1714), .val (.int z1715), .val (.int z1716), .val (.int z1717), .val (.int z1718), .val (.ref a1719), .val (.ref a1746), .val (.ref a1774), .val (.int (Int32.ofNat (bs ++ own_c8 (58 : Int32)).length)), .unset, .unset, .unset] [] rfl ?_
    have o2090 : h1764.size ≤ a1774 := Nat.le_trans (Nat.le_refl _) o1784
    exact J131 T2085 h2086 (bs ++ own_c8 (58 : Int32)) S2089 (((Keep.refl _ _).trans K2080 all0).trans K2083 (allS (Or.inr o2090) all0)) f2084 (by rw [hbs]; rfl)
  have f2091 : Arv Z h1773 a1774 k1775 .int 9 (own_pd 9 []) (.int 0) := f1779
  show own_Go p e below _ T1771 (mkF m 88 #[.val (.int i0), .val (.int i1), .val (.int i2), .val (.int z1713), .val (.int z1714), .val (.int z1715), .val (.int z1716), .val (.int z1717), .val (.int z1718), .val (.ref a1719), .val (.ref a1746), .val (.ref a1774), .val (.int (Int32.ofNat ([] : List Int32).length)), .unset, .unset, .unset] [])
  refine own_seg C S1772 [(88, .iload 7, 2)] (by decide +kernel) 90 #[.val (.int i0), .val (.int i1), .val (.int i2), .val (.int z1713), .val (.int z1714), .val (.int z1715), .val (.int z1716), .val (.int z1717), .val (.int z1718), .val (.ref a1719), .val (.ref a1746), .val (.ref a1774), .val (.int (Int32.ofNat ([] : List Int32).length)), .unset, .unset, .unset] [(.int z1717)] rfl ?_
  refine own_if C S1772 (q := .le) (o := 13) (by decide +kernel) 103 (by decide) (by decide) (fun (q2092 : ¬ (0 : Int32) < z1717) => ?_) (fun (q2093 : (0 : Int32) < z1717) => ?_)
  · refine own_seg C S1772 [(103, .iload 7, 2), (105, .iconst 1, 1)] (by decide +kernel) 106 #[.val (.int i0), .val (.int i1), .val (.int i2), .val (.int z1713), .val (.int z1714), .val (.int z1715), .val (.int z1716), .val (.int z1717), .val (.int z1718), .val (.ref a1719), .val (.ref a1746), .val (.ref a1774), .val (.int (Int32.ofNat ([] : List Int32).length)), .unset, .unset, .unset] [(.int 1), (.int z1717)] rfl ?_
    refine own_icmp C S1772 (q := .le) (o := 14) (by decide +kernel) 120 (by decide) (by decide) (fun (q2094 : ¬ (1 : Int32) < z1717) => ?_) (fun (hq : (1 : Int32) < z1717) => False.elim (own_01 q2092 hq))
    exact J120 T1771 h1773 ([] : List Int32) S1772 ((Keep.refl _ _).ext E1777) f2091 (by rw [own_tk_0 rz1717 q2092]; rfl)
  · refine own_seg C S1772 [(93, .aload 11, 2), (95, .iload 12, 2), (97, .iload_n 3, 1)] (by decide +kernel) 98 #[.val (.int i0), .val (.int i1), .val (.int i2), .val (.int z1713), .val (.int z1714), .val (.int z1715), .val (.int z1716), .val (.int z1717), .val (.int z1718), .val (.ref a1719), .val (.ref a1746), .val (.ref a1774), .val (.int (Int32.ofNat ([] : List Int32).length)), .unset, .unset, .unset] [(.int z1713), (.int (Int32.ofNat ([] : List Int32).length)), (.ref a1774)] rfl ?_
    have f2095 : n0 ≤ h1773.size := (Nat.le_trans f1792 E1777.1)
    have g2096 : n0 ≤ a1774 := by rw [g1776]; exact f1792
    refine own_callS C S1772 (own_wd hw 38 rfl) (own_wd hw 39 rfl) (own_wd hw 2 rfl) (own_wd hw 40 rfl) (by decide) (own_Met.pay (own_pbuf l Z a0 hw a1774 _ ([] : List Int32) z1713 h1773 n0 f2095 g2096 f2091 (by decide)) C 0 (own_wd hw 40 rfl) (own_wd hw 2 rfl) (by decide) (by decide)) (fun _ _ _ q => q.2) [(.ref a1774), (.int (Int32.ofNat ([] : List Int32).length)), (.int z1713)] [] rfl own_pd48 rfl rfl rfl (Nat.le_of_ble_eq_true rfl) (by decide) (by decide) (by decide +kernel) ?_
    rintro T2099 h2100 v2101 L2102 S2103 ⟨⟨rfl, K2097, f2098⟩, -⟩
    show own_Go p e below _ T2099 (mkF m 101 #[.val (.int i0), .val (.int i1), .val (.int i2), .val (.int z1713), .val (.int z1714), .val (.int z1715), .val (.int z1716), .val (.int z1717), .val (.int z1718), .val (.ref a1719), .val (.ref a1746), .val (.ref a1774), .val (.int (Int32.ofNat ([] : List Int32).length)), .unset, .unset, .unset] [(.int (Int32.ofNat (([] : List Int32) ++ own_c8 z1713).length))])
    refine own_seg C S2103 [(101, .istore 12, 2)] (by decide +kernel) 103 #[.val (.int i0), .val (.int i1), .val (.int i2), .val (.int z1713), .val (.int z1714), .val (.int z1715), .val (.int z1716), .val (.int z1717), .val (.int z1718), .val (.ref a1719), .val (.ref a1746), .val (.ref a1774), .val (.int (Int32.ofNat (([] : List Int32) ++ own_c8 z1713).length)), .unset, .unset, .unset] [] rfl ?_
    refine own_seg C S2103 [(103, .iload 7, 2), (105, .iconst 1, 1)] (by decide +kernel) 106 #[.val (.int i0), .val (.int i1), .val (.int i2), .val (.int z1713), .val (.int z1714), .val (.int z1715), .val (.int z1716), .val (.int z1717), .val (.int z1718), .val (.ref a1719), .val (.ref a1746), .val (.ref a1774), .val (.int (Int32.ofNat (([] : List Int32) ++ own_c8 z1713).length)), .unset, .unset, .unset] [(.int 1), (.int z1717)] rfl ?_
    refine own_icmp C S2103 (q := .le) (o := 14) (by decide +kernel) 120 (by decide) (by decide) (fun (q2104 : ¬ (1 : Int32) < z1717) => ?_) (fun (q2105 : (1 : Int32) < z1717) => ?_)
    · exact J120 T2099 h2100 (([] : List Int32) ++ own_c8 z1713) S2103 (((Keep.refl _ _).ext E1777).trans K2097 (allS (Or.inr o1784) all0)) f2098 (by rw [own_tk_1 rz1717 q2093 q2104]; simp [own_u8])
    · refine own_seg C S2103 [(109, .aload 11, 2), (111, .iload 12, 2), (113, .iload 4, 2)] (by decide +kernel) 115 #[.val (.int i0), .val (.int i1), .val (.int i2), .val (.int z1713), .val (.int z1714), .val (.int z1715), .val (.int z1716), .val (.int z1717), .val (.int z1718), .val (.ref a1719), .val (.ref a1746), .val (.ref a1774), .val (.int (Int32.ofNat (([] : List Int32) ++ own_c8 z1713).length)), .unset, .unset, .unset] [(.int z1714), (.int (Int32.ofNat (([] : List Int32) ++ own_c8 z1713).length)), (.ref a1774)] rfl ?_
      have f2106 : n0 ≤ h2100.size := (Nat.le_trans f2095 K2097.1)
      refine own_callS C S2103 (own_wd hw 38 rfl) (own_wd hw 39 rfl) (own_wd hw 2 rfl) (own_wd hw 40 rfl) (by decide) (own_Met.pay (own_pbuf l Z a0 hw a1774 _ (([] : List Int32) ++ own_c8 z1713) z1714 h2100 n0 f2106 g2096 f2098 (by have := own_c8_len z1713; rw [List.length_append]; simp; omega)) C 0 (own_wd hw 40 rfl) (own_wd hw 2 rfl) (by decide) (by decide)) (fun _ _ _ q => q.2) [(.ref a1774), (.int (Int32.ofNat (([] : List Int32) ++ own_c8 z1713).length)), (.int z1714)] [] rfl own_pd48 rfl rfl rfl (Nat.le_of_ble_eq_true rfl) (by decide) (by decide) (by decide +kernel) ?_
      rintro T2109 h2110 v2111 L2112 S2113 ⟨⟨rfl, K2107, f2108⟩, -⟩
      show own_Go p e below _ T2109 (mkF m 118 #[.val (.int i0), .val (.int i1), .val (.int i2), .val (.int z1713), .val (.int z1714), .val (.int z1715), .val (.int z1716), .val (.int z1717), .val (.int z1718), .val (.ref a1719), .val (.ref a1746), .val (.ref a1774), .val (.int (Int32.ofNat (([] : List Int32) ++ own_c8 z1713).length)), .unset, .unset, .unset] [(.int (Int32.ofNat ((([] : List Int32) ++ own_c8 z1713) ++ own_c8 z1714).length))])
      refine own_seg C S2113 [(118, .istore 12, 2)] (by decide +kernel) 120 #[.val (.int i0), .val (.int i1), .val (.int i2), .val (.int z1713), .val (.int z1714), .val (.int z1715), .val (.int z1716), .val (.int z1717), .val (.int z1718), .val (.ref a1719), .val (.ref a1746), .val (.ref a1774), .val (.int (Int32.ofNat ((([] : List Int32) ++ own_c8 z1713) ++ own_c8 z1714).length)), .unset, .unset, .unset] [] rfl ?_
      exact J120 T2109 h2110 ((([] : List Int32) ++ own_c8 z1713) ++ own_c8 z1714) S2113 ((((Keep.refl _ _).ext E1777).trans K2097 (allS (Or.inr o1784) all0)).trans K2107 (allS (Or.inr o1784) all0)) f2108 (by rw [own_tk_2 rz1717 q2093 q2105]; simp [own_u8])
theorem own_jt : ∀ i < 64, jdkStatics_1[30 + i]? = some (Jvm.Cond.eq (Term.elem (Term.static "java/util/Base64$Encoder" "toBase64" "[C") (Term.int (Int32.ofNat i))) (Term.int (own_T64.getD i 0))) := by decide +kernel
theorem own_fT : ∀ v ∈ own_T64, fits .char (.int v) = true := by decide +kernel
theorem own_sAt : ∀ a ∈ Bundle.stringAtoms, a ∈ tables_1 := by decide +kernel
set_option maxRecDepth 65536 in
theorem own_ELok {Z : State} {a0 : Array Value} (hw : ∀ d ∈ tables_1, d.before a0 Z = true) : EW Z a0 own_EL := (EW.cons (own_wd hw 142 rfl) (by decide) (EW.cons (own_wd hw 34 rfl) (by decide) EW.nil))
theorem comes_1 {Post : Tables → Env → Array Value → State → Outcome → State → Prop} (hpost : ∀ tb e args s v u, (limb_1_1.after args s (.returned v) u = true ∧ limb_1_2.after args s (.returned v) u = true ∧ True) → Jvm.D.FramedW s (.returned v) u (Jvm.fieldLocs frame_1_writes args s ++ Jvm.arrayLocs frame_1_arrays args s ++ Jvm.staticLocs frame_1_statics s) 48 2368 → Post tb e args s (.returned v) u) :
    ArmFor flags0 classFile x code maxLocals ret World_1 tables_1 room_1 Calls_1 rest_1 Pre_1 Post := by
  intro l hfl _ _ p e ha hc hk s m args below hf hA hF happ hP
  obtain ⟨hcalls, hrest, hpre⟩ := hP
  obtain ⟨-, -, -, hnamed, -, -, -, hat⟩ := (Spec.applies_iff hf).mp happ
  obtain ⟨hg, hn⟩ := and_e (Cond.before_iff.mp (show (Jvm.Cond.and given_1 narrow_1).before args s = true from hpre))
  obtain ⟨hcount, hk0⟩ := and_e hg
  obtain ⟨ha0, hk1⟩ := and_e hk0
  obtain ⟨ha1, hk2⟩ := and_e hk1
  obtain ⟨w0, w1, w2, rfl⟩ : ∃ w0 w1 w2 : Value, args = #[w0, w1, w2] := by
    have hs : args.size = 3 := by simpa [Cond.value, given_1] using hcount
    obtain ⟨L⟩ := args
    match L, hs with
    | [w0, w1, w2], _ => exact ⟨w0, w1, w2, rfl⟩
  have hw := fun d (hd : d ∈ tables_1) => atoms_spec (ws := Jvm.Cond.code x code maxLocals ret :: tables_1) hat d (List.mem_cons_of_mem _ hd)
  obtain ⟨i0, ei0⟩ := is_v ha0
  obtain rfl : w0 = (.int i0) := Option.some.inj ei0
  obtain ⟨i1, ei1⟩ := is_v ha1
  obtain rfl : w1 = (.int i1) := Option.some.inj ei1
  obtain ⟨i2, ei2⟩ := is_v hk2
  obtain rfl : w2 = (.int i2) := Option.some.inj ei2
  obtain ⟨hsets, hown0⟩ := atoms_of _ (rest_1_c_eq ▸ (show rest_1_c.before _ s = true from hrest))
  have nz := not_v (Cond.before_iff.mp (hsets _ (List.mem_of_getElem? (i := 2) rfl)))
  obtain ⟨g1, eg1⟩ := is_v (Cond.before_iff.mp (hsets _ (List.mem_of_getElem? (i := 1) rfl)))
  have O2 : Sta s s.heap "java/lang/String" "COMPACT_STRINGS" "Z" (.int g1) := Sta.start eg1 (Or.inl (hsets _ (List.mem_of_getElem? (i := 0) rfl)))
  obtain ⟨g3, eg3, rg3⟩ := isR_v (Cond.before_iff.mp (hsets _ (List.mem_of_getElem? (i := 8) rfl)))
  have O4 : Sta s s.heap "jdk/internal/util/Preconditions" "SIOOBE_FORMATTER" "Ljava/util/function/BiFunction;" g3 := Sta.start eg3 (Or.inl (hsets _ (List.mem_of_getElem? (i := 7) rfl)))
  have P5 : ¬ (g1 = (0 : Int32)) := gotF (Cond.eq_ints eg1 (Term.int_eval (0))) nz
  obtain ⟨U8, _, _, _, eU8, -⟩ := Cond.exactly_spec (hsets _ (List.mem_of_getElem? (i := 21) rfl))
  obtain ⟨yU, eU1, eU2⟩ := Cond.eq_one (hsets _ (List.mem_of_getElem? (i := 20) rfl))
  obtain rfl : yU = .ref U8 := Option.some.inj (eU1.symm.trans eU8)
  have OU1 := Sta.start eU8 (Or.inl (hsets _ (List.mem_of_getElem? (i := 17) rfl)))
  have OU2 := Sta.start eU2 (Or.inl (hsets _ (List.mem_of_getElem? (i := 19) rfl)))
  obtain ⟨TB, TBk, eTB, TK, TBlt⟩ := own_TA own_T64 (n := 64) rfl (by decide) (hsets _ (List.mem_of_getElem? (i := 27) rfl)) (hsets _ (List.mem_of_getElem? (i := 29) rfl)) (fun i hi => hsets _ (List.mem_of_getElem? (own_jt i hi))) own_fT
  have OT := Sta.start eTB (Or.inl (hsets _ (List.mem_of_getElem? (i := 26) rfl)))
  obtain ⟨EN, _, _, _, eEN, -⟩ := Cond.exactly_spec (hsets _ (List.mem_of_getElem? (i := 11) rfl))
  have OE := Sta.start eEN (Or.inl (hsets _ (List.mem_of_getElem? (i := 10) rfl)))
  have q0 := Exa.start eEN (Cond.before_iff.mp (hsets _ (List.mem_of_getElem? (i := 11) rfl)))
  have q1 := own_fst eEN (hsets _ (List.mem_of_getElem? (i := 12) rfl)) (Term.int_eval 0)
  have q2 := own_fst eEN (hsets _ (List.mem_of_getElem? (i := 13) rfl)) rfl
  have q3 := own_fst eEN (hsets _ (List.mem_of_getElem? (i := 14) rfl)) (Term.int_eval (-1))
  have q4 := own_fst eEN (hsets _ (List.mem_of_getElem? (i := 15) rfl)) (Term.int_eval 1)
  have hEL : EW s _ own_EL := own_ELok hw
  have wS : ∀ a ∈ Bundle.stringAtoms, a.before _ s = true := fun a ha => hw a (own_sAt a ha)
  have hCH : CHv s own_EL s.vm s.heap := CHv.start hEL (fun p hp => hcalls.1 p hp) (hsets _ (List.mem_of_getElem? (i := 2) rfl)) (own_wd hw 23 rfl) (own_wd hw 5 rfl)
  obtain ⟨n, o, g1, g2, g3, _, L, rfl, ⟨rfl, N⟩, -, hq⟩ := own_law l s _ hw hEL wS  g1 g3 U8 TB TBk EN i0 i1 i2 s.heap s.heap.size (Nat.le_refl _) (Old.start s) TK q0 q1 q2 q3 q4 O2 O4 P5 rg3 OU1 OU2 OT TBlt OE q0.lt tables_1 p e ha hc hk s m _ below hf ((Spec.applies_iff_loose hf).mp happ).1 ⟨rfl, State.Warmed39.refl s, rfl, hCH, all0⟩ trivial
  refine ⟨n, _, g1, g2, g3, hpost _ _ _ _ _ _ ⟨Cond.after_iff.mpr rfl, Cond.after_iff.mpr (eq_i res_at (Term.int_eval (1)) rfl), trivial⟩ ⟨hq.1, hq.2.1, hq.2.2.1, (hq.2.2.2.sift fun y hy => Or.inr (N y hy)).mono (by decide) (by decide)⟩⟩
theorem main_1_1 : Claimed_1_1 := comes_1 fun _ _ _ _ _ _ h hF => ⟨h.1, hF⟩
theorem main_1_2 : Claimed_1_2 := comes_1 fun _ _ _ _ _ _ h hF => ⟨h.2.1, hF⟩
end Jvm.Pilot.@@N@@
namespace Jvm.Pilot.@@N@@
open Jvm Jvm.ClassFile Sem Op Lib Jvm.Free Jvm.Stand Jvm.Pilot.@@N@@.Jvm.D
/-! MADE BY PROGRAM (witnessworld.py) out of the Statement's table words and the real class files: 34 classes; the members and pool entries that the words name. The judged class is class 1, her method 1. -/
namespace start1
open Jvm.ClassFile
def u (s : String) : CpInfo := .utf8 (stringToUtf16 s)
/-- a pool by its gaps: so many unusable entries, then the entry; so many at the end -/
def gap : Nat → List CpInfo → List CpInfo
  | 0, r => r
  | n + 1, r => .unusable :: gap n r
def poolList (es : List (Nat × CpInfo)) (last : Nat) : List CpInfo := es.foldr (fun e r => gap e.1 (e.2 :: r)) (gap last [])
def pool (es : List (Nat × CpInfo)) (last : Nat) : Array CpInfo := ⟨poolList es last⟩
def fileOf (pool : Array CpInfo) (this : Nat) (attrs : Array Attribute := #[]) (ms : Array MethodInfo := #[]) (fl : Nat := 33) (sup : Nat := 0) (ifs : Array Nat := #[]) (fds : Array FieldInfo := #[]) : ClassFile where
  minorVersion := 0
  majorVersion := 65
  constantPool := pool
  accessFlags := fl
  thisClass := this
  superClass := sup
  interfaces := ifs
  fields := fds
  methods := ms
  attributes := attrs
def plain (name : String) (sup : Option ClassId) : Class where
  name := name
  kind := .ordinary
  loader := none
  accessFlags := 33
  super := sup
  interfaces := #[]
  cf := none
  fields := #[]
  methods := #[]
  instanceTypes := #[]
  staticTypes := #[]
  resolved := #[]
  callSites := []
  init := .initialized
  statics := none
  mirror := none

def pool0 : Array CpInfo := pool [(5, u "<init>"), (0, u "()V"), (1, .class_ 10), (1, u "java/lang/Object"), (85, u "clone"), (0, u "()Ljava/lang/Object;")] 26

def k0c0 : Code := { maxStack := 0, maxLocals := 1, code := object_method_1_code, exceptionTable := #[], attributes := #[] }
def k0m0 : Method := { name := "<init>", desc := "()V", sig := { parameters := [], returnType := none }, accessFlags := 1, code := some k0c0 }
def k0m1 : Method := { name := "clone", desc := "()Ljava/lang/Object;", sig := { parameters := [], returnType := some (.object "java/lang/Object") }, accessFlags := 260, code := none }
/-- java/lang/Object -/
def k0 : Class := { plain "java/lang/Object" none with
  accessFlags := 33
  interfaces := #[]
  cf := some (fileOf pool0 8 #[] #[{ accessFlags := 1, nameIndex := 5, descriptorIndex := 6, attributes := #[] }, { accessFlags := 260, nameIndex := 96, descriptorIndex := 97, attributes := #[] }] 33 0 #[] #[])
  fields := #[]
  methods := #[k0m0, k0m1]
  instanceTypes := #[]
  staticTypes := #[]
  resolved := Array.replicate 124 none
  statics := none }

def pool1 : Array CpInfo := pool [(2, .class_ 4), (1, u "java/lang/Object"), (0, u "<init>"), (0, u "()V"), (0, .methodref 8 9), (0, .class_ 10), (0, .nameAndType 11 12), (0, u "com/example/exact_rest/exactrest/NodeIdsOfPinLaw"), (0, u "str"), (0, u "(CCI)Ljava/lang/String;"), (0, .methodref 8 14), (0, .nameAndType 15 16), (0, u "put"), (0, u "([IIC)I"), (0, .methodref 8 18), (0, .nameAndType 19 20), (0, u "group"), (0, u "([III[CI)I"), (0, .methodref 22 23), (0, .class_ 24), (0, .nameAndType 25 26), (0, u "com/example/exact_rest/exactrest/NodeIds"), (0, u "of"), (0, u "(Ljava/lang/String;Ljava/lang/String;)Ljava/lang/String;"), (0, .methodref 28 29), (0, .class_ 30), (0, .nameAndType 31 32), (0, u "java/lang/String"), (0, u "length"), (0, u "()I"), (0, .methodref 8 34), (0, .nameAndType 35 36), (0, u "at"), (0, u "(Ljava/lang/String;[CII)Z"), (0, .methodref 28 38), (0, .nameAndType 5 39), (0, u "([C)V"), (0, .methodref 28 41), (0, .nameAndType 42 43), (0, u "valueOf"), (0, u "(C)Ljava/lang/String;"), (0, .methodref 8 45), (0, .nameAndType 46 47), (0, u "alpha"), (0, u "(I)C"), (0, .methodref 28 49), (0, .nameAndType 50 47), (0, u "charAt"), (2, u "law"), (0, u "(III)Z")] 7

def k1m0 : Method := { name := "<init>", desc := "()V", sig := { parameters := [], returnType := none }, accessFlags := 2, code := none }
def k1c1 : Code := { maxStack := 5, maxLocals := 16, code := code, exceptionTable := #[], attributes := #[] }
def k1m1 : Method := { name := "law", desc := "(III)Z", sig := { parameters := [.int, .int, .int], returnType := some .boolean }, accessFlags := 9, code := some k1c1 }
def k1c2 : Code := { maxStack := 6, maxLocals := 3, code := method_3_code, exceptionTable := #[], attributes := #[] }
def k1m2 : Method := { name := "str", desc := "(CCI)Ljava/lang/String;", sig := { parameters := [.char, .char, .int], returnType := some (.object "java/lang/String") }, accessFlags := 10, code := some k1c2 }
def k1c3 : Code := { maxStack := 5, maxLocals := 3, code := method_4_code, exceptionTable := #[], attributes := #[] }
def k1m3 : Method := { name := "put", desc := "([IIC)I", sig := { parameters := [(.array .int), .int, .char], returnType := some .int }, accessFlags := 10, code := some k1c3 }
def k1c4 : Code := { maxStack := 3, maxLocals := 1, code := method_5_code, exceptionTable := #[], attributes := #[] }
def k1m4 : Method := { name := "alpha", desc := "(I)C", sig := { parameters := [.int], returnType := some .char }, accessFlags := 10, code := some k1c4 }
def k1c5 : Code := { maxStack := 5, maxLocals := 9, code := method_6_code, exceptionTable := #[], attributes := #[] }
def k1m5 : Method := { name := "group", desc := "([III[CI)I", sig := { parameters := [(.array .int), .int, .int, (.array .char), .int], returnType := some .int }, accessFlags := 10, code := some k1c5 }
def k1c6 : Code := { maxStack := 3, maxLocals := 4, code := method_7_code, exceptionTable := #[], attributes := #[] }
def k1m6 : Method := { name := "at", desc := "(Ljava/lang/String;[CII)Z", sig := { parameters := [(.object "java/lang/String"), (.array .char), .int, .int], returnType := some .boolean }, accessFlags := 10, code := some k1c6 }
/-- com/example/exact_rest/exactrest/NodeIdsOfPinLaw -/
def k1 : Class := { plain "com/example/exact_rest/exactrest/NodeIdsOfPinLaw" (some 0) with
  accessFlags := 49
  interfaces := #[]
  cf := some (fileOf pool1 8 #[] #[{ accessFlags := 2, nameIndex := 5, descriptorIndex := 6, attributes := #[] }, { accessFlags := 9, nameIndex := 53, descriptorIndex := 54, attributes := #[] }, { accessFlags := 10, nameIndex := 11, descriptorIndex := 12, attributes := #[] }, { accessFlags := 10, nameIndex := 15, descriptorIndex := 16, attributes := #[] }, { accessFlags := 10, nameIndex := 46, descriptorIndex := 47, attributes := #[] }, { accessFlags := 10, nameIndex := 19, descriptorIndex := 20, attributes := #[] }, { accessFlags := 10, nameIndex := 35, descriptorIndex := 36, attributes := #[] }] 49 2 #[] #[])
  fields := #[]
  methods := #[k1m0, k1m1, k1m2, k1m3, k1m4, k1m5, k1m6]
  instanceTypes := #[]
  staticTypes := #[]
  resolved := Array.replicate 62 none
  statics := none }

def pool2 : Array CpInfo := pool [(1, .class_ 2), (0, u "java/io/Serializable"), (0, .class_ 4), (0, u "java/lang/Object")] 2

/-- java/io/Serializable -/
def k2 : Class := { plain "java/io/Serializable" (some 0) with
  accessFlags := 1537
  interfaces := #[]
  cf := some (fileOf pool2 1 #[] #[] 1537 3 #[] #[])
  fields := #[]
  methods := #[]
  instanceTypes := #[]
  staticTypes := #[]
  resolved := Array.replicate 7 none
  statics := none }

def pool3 : Array CpInfo := pool [(1, .class_ 2), (0, u "java/lang/Comparable"), (0, .class_ 4), (0, u "java/lang/Object")] 7

/-- java/lang/Comparable -/
def k3 : Class := { plain "java/lang/Comparable" (some 0) with
  accessFlags := 1537
  interfaces := #[]
  cf := some (fileOf pool3 1 #[] #[] 1537 3 #[] #[])
  fields := #[]
  methods := #[]
  instanceTypes := #[]
  staticTypes := #[]
  resolved := Array.replicate 12 none
  statics := none }

def pool4 : Array CpInfo := pool [(2, .class_ 4), (1, u "java/lang/CharSequence"), (42, .class_ 48), (0, u "java/lang/CharSequence$1CodePointIterator"), (10, .class_ 60), (0, u "java/lang/CharSequence$1CharIterator"), (5, .class_ 67), (0, u "java/lang/Object")] 63

/-- java/lang/CharSequence -/
def k4 : Class := { plain "java/lang/CharSequence" (some 0) with
  accessFlags := 1537
  interfaces := #[]
  cf := some (fileOf pool4 2 #[.nestMembers #[47, 59]] #[] 1537 66 #[] #[])
  fields := #[]
  methods := #[]
  instanceTypes := #[]
  staticTypes := #[]
  resolved := Array.replicate 131 none
  statics := none }

def pool5 : Array CpInfo := pool [(1, .class_ 2), (0, u "java/lang/constant/Constable"), (0, .class_ 4), (0, u "java/lang/Object")] 6

/-- java/lang/constant/Constable -/
def k5 : Class := { plain "java/lang/constant/Constable" (some 0) with
  accessFlags := 1537
  interfaces := #[]
  cf := some (fileOf pool5 1 #[] #[] 1537 3 #[] #[])
  fields := #[]
  methods := #[]
  instanceTypes := #[]
  staticTypes := #[]
  resolved := Array.replicate 11 none
  statics := none }

def pool6 : Array CpInfo := pool [(1, .class_ 2), (0, u "java/lang/constant/ConstantDesc"), (0, .class_ 4), (0, u "java/lang/Object")] 32

/-- java/lang/constant/ConstantDesc -/
def k6 : Class := { plain "java/lang/constant/ConstantDesc" (some 0) with
  accessFlags := 1537
  interfaces := #[]
  cf := some (fileOf pool6 1 #[] #[] 1537 3 #[] #[])
  fields := #[]
  methods := #[]
  instanceTypes := #[]
  staticTypes := #[]
  resolved := Array.replicate 37 none
  statics := none }

def pool7 : Array CpInfo := pool [(1, .methodref 2 3), (0, .class_ 4), (0, .nameAndType 5 6), (0, u "java/lang/Object"), (0, u "<init>"), (0, u "()V"), (0, .string 8), (0, u ""), (0, .fieldref 10 11), (0, .class_ 12), (0, .nameAndType 13 14), (0, u "java/lang/String"), (0, u "value"), (0, u "[B"), (0, .fieldref 10 16), (0, .nameAndType 17 18), (0, u "coder"), (0, u "B"), (2, u "hash"), (0, u "I"), (2, u "hashIsZero"), (0, u "Z"), (0, .methodref 10 28), (0, .nameAndType 5 29), (0, u "([CIILjava/lang/Void;)V"), (4, .methodref 10 35), (0, .nameAndType 36 37), (0, u "checkBoundsOffCount"), (0, u "(III)I"), (0, .fieldref 10 39), (0, .nameAndType 40 26), (0, u "COMPACT_STRINGS"), (1, .class_ 44), (1, u "java/lang/StringUTF16"), (0, u "compress"), (1, .methodref 42 48), (0, .nameAndType 49 50), (0, u "coderFromArrayLen"), (0, u "([BI)B"), (2, u "toBytes"), (0, .methodref 55 56), (0, .class_ 57), (0, .nameAndType 58 59), (0, u "java/util/Arrays"), (0, u "copyOfRange"), (0, u "([BII)[B"), (0, .methodref 42 61), (0, .nameAndType 62 63), (0, u "newBytesFor"), (0, u "(I)[B"), (6, u "([BIII)V"), (15, .fieldref 87 88), (0, .class_ 89), (0, .nameAndType 90 91), (0, u "sun/nio/cs/UTF_8"), (0, u "INSTANCE"), (0, u "Lsun/nio/cs/UTF_8;"), (1, .class_ 95), (1, u "java/lang/StringCoding"), (6, .methodref 55 103), (0, .nameAndType 104 105), (0, u "copyOf"), (0, u "([BI)[B"), (1, .class_ 109), (1, u "java/lang/StringLatin1"), (18, .methodref 93 129), (0, .nameAndType 130 131), (0, u "hasNegatives"), (0, u "([BII)Z"), (10, u "()Z"), (34, .methodref 42 178), (0, .nameAndType 45 179), (0, u "([CII)[B"), (13, .class_ 195), (1, u "java/lang/System"), (13, .methodref 10 210), (0, .nameAndType 5 211), (0, u "([BB)V"), (0, .methodref 193 213), (0, .nameAndType 214 215), (0, u "arraycopy"), (0, u "(Ljava/lang/Object;ILjava/lang/Object;II)V"), (36, .methodref 10 253), (0, .nameAndType 254 255), (0, u "encodeUTF8"), (0, u "(B[BZ)[B"), (23, .methodref 280 281), (0, .class_ 14), (0, .nameAndType 282 283), (0, u "clone"), (0, u "()Ljava/lang/Object;"), (33, u "encode"), (16, u "()I"), (0, .methodref 10 336), (0, .nameAndType 17 337), (0, u "()B"), (2, u "()[B"), (22, u "([BI)C"), (5, u "(C)Z"), (21, u "(II)V"), (35, u "(I)C"), (61, .methodref 10 490), (0, .nameAndType 5 491), (0, u "(Ljava/lang/AbstractStringBuilder;Ljava/lang/Void;)V"), (0, .methodref 10 493), (0, .nameAndType 494 142), (0, u "isLatin1"), (0, .methodref 107 496), (0, .nameAndType 497 363), (0, u "charAt"), (3, u "checkIndex"), (4, .nameAndType 507 334), (0, u "length"), (24, u "getBytes"), (2, .methodref 10 536), (0, .nameAndType 317 537), (0, u "(Ljava/nio/charset/Charset;B[B)[B"), (11, .methodref 550 506), (0, .class_ 551), (0, u "java/lang/AbstractStringBuilder"), (0, .methodref 550 553), (0, .nameAndType 554 340), (0, u "getValue"), (20, .class_ 576), (0, u "java/lang/CharSequence"), (22, u "CASE_INSENSITIVE_ORDER"), (0, u "Ljava/util/Comparator;"), (181, u "valueOf"), (0, u "(C)Ljava/lang/String;"), (37, u "([BIB)V"), (188, u "([C)V"), (4, .methodref 107 1016), (0, .nameAndType 1017 369), (0, u "canEncode"), (0, .methodref 107 1019), (0, .nameAndType 53 1020), (0, u "(C)[B"), (26, .methodref 550 493), (5, .fieldref 1054 1055), (0, .class_ 1056), (0, .nameAndType 1057 1058), (0, u "jdk/internal/util/Preconditions"), (0, u "SIOOBE_FORMATTER"), (0, u "Ljava/util/function/BiFunction;"), (0, .methodref 1054 1060), (0, .nameAndType 501 1061), (0, u "(IILjava/util/function/BiFunction;)I"), (2, u "(IIILjava/util/function/BiFunction;)I"), (0, .methodref 1054 1066), (0, .nameAndType 1067 1064), (0, u "checkFromIndexSize"), (33, u "serialPersistentFields"), (0, u "[Ljava/io/ObjectStreamField;"), (0, .class_ 1104), (0, u "java/lang/String$CaseInsensitiveComparator"), (1, .class_ 1107), (0, u "java/io/Serializable"), (0, .class_ 1109), (0, u "java/lang/Comparable"), (0, .class_ 1111), (0, u "java/lang/constant/Constable"), (0, .class_ 1113), (0, u "java/lang/constant/ConstantDesc"), (2, u "serialVersionUID"), (0, u "J"), (3, u "REPL"), (0, u "C"), (2, u "LATIN1"), (1, u "UTF16"), (105, u "(Ljava/lang/StringBuilder;)V"), (11, u "(Ljava/nio/charset/Charset;)[B")] 205

def k7m0 : Method := { name := "<init>", desc := "()V", sig := { parameters := [], returnType := none }, accessFlags := 1, code := none }
def k7c1 : Code := { maxStack := 5, maxLocals := 2, code := jdk_42_method_3_code, exceptionTable := #[], attributes := #[] }
def k7m1 : Method := { name := "<init>", desc := "([C)V", sig := { parameters := [(.array .char)], returnType := none }, accessFlags := 1, code := some k7c1 }
def k7c2 : Code := { maxStack := 5, maxLocals := 7, code := jdk_42_method_7_code, exceptionTable := #[], attributes := #[] }
def k7m2 : Method := { name := "<init>", desc := "([BIII)V", sig := { parameters := [(.array .byte), .int, .int, .int], returnType := none }, accessFlags := 1, code := some k7c2 }
def k7c3 : Code := { maxStack := 4, maxLocals := 3, code := jdk_42_method_18_code, exceptionTable := #[], attributes := #[] }
def k7m3 : Method := { name := "encode", desc := "(Ljava/nio/charset/Charset;B[B)[B", sig := { parameters := [(.object "java/nio/charset/Charset"), .byte, (.array .byte)], returnType := some (.array .byte) }, accessFlags := 10, code := some k7c3 }
def k7c4 : Code := { maxStack := 5, maxLocals := 9, code := jdk_42_method_46_code, exceptionTable := #[], attributes := #[] }
def k7m4 : Method := { name := "encodeUTF8", desc := "(B[BZ)[B", sig := { parameters := [.byte, (.array .byte), .boolean], returnType := some (.array .byte) }, accessFlags := 10, code := some k7c4 }
def k7c5 : Code := { maxStack := 3, maxLocals := 2, code := jdk_42_method_53_code, exceptionTable := #[], attributes := #[] }
def k7m5 : Method := { name := "<init>", desc := "(Ljava/lang/StringBuilder;)V", sig := { parameters := [(.object "java/lang/StringBuilder")], returnType := none }, accessFlags := 1, code := some k7c5 }
def k7c6 : Code := { maxStack := 2, maxLocals := 1, code := jdk_42_method_54_code, exceptionTable := #[], attributes := #[] }
def k7m6 : Method := { name := "length", desc := "()I", sig := { parameters := [], returnType := some .int }, accessFlags := 1, code := some k7c6 }
def k7c7 : Code := { maxStack := 2, maxLocals := 2, code := jdk_42_method_56_code, exceptionTable := #[], attributes := #[] }
def k7m7 : Method := { name := "charAt", desc := "(I)C", sig := { parameters := [.int], returnType := some .char }, accessFlags := 1, code := some k7c7 }
def k7c8 : Code := { maxStack := 3, maxLocals := 2, code := jdk_42_method_64_code, exceptionTable := #[], attributes := #[] }
def k7m8 : Method := { name := "getBytes", desc := "(Ljava/nio/charset/Charset;)[B", sig := { parameters := [(.object "java/nio/charset/Charset")], returnType := some (.array .byte) }, accessFlags := 1, code := some k7c8 }
def k7c9 : Code := { maxStack := 4, maxLocals := 1, code := jdk_42_method_139_code, exceptionTable := #[], attributes := #[] }
def k7m9 : Method := { name := "valueOf", desc := "(C)Ljava/lang/String;", sig := { parameters := [.char], returnType := some (.object "java/lang/String") }, accessFlags := 9, code := some k7c9 }
def k7c10 : Code := { maxStack := 5, maxLocals := 4, code := jdk_42_method_147_code, exceptionTable := #[], attributes := #[] }
def k7m10 : Method := { name := "getBytes", desc := "([BIB)V", sig := { parameters := [(.array .byte), .int, .byte], returnType := none }, accessFlags := 0, code := some k7c10 }
def k7c11 : Code := { maxStack := 4, maxLocals := 6, code := jdk_42_method_149_code, exceptionTable := #[], attributes := #[] }
def k7m11 : Method := { name := "<init>", desc := "([CIILjava/lang/Void;)V", sig := { parameters := [(.array .char), .int, .int, (.object "java/lang/Void")], returnType := none }, accessFlags := 2, code := some k7c11 }
def k7c12 : Code := { maxStack := 5, maxLocals := 5, code := jdk_42_method_150_code, exceptionTable := #[], attributes := #[] }
def k7m12 : Method := { name := "<init>", desc := "(Ljava/lang/AbstractStringBuilder;Ljava/lang/Void;)V", sig := { parameters := [(.object "java/lang/AbstractStringBuilder"), (.object "java/lang/Void")], returnType := none }, accessFlags := 0, code := some k7c12 }
def k7c13 : Code := { maxStack := 2, maxLocals := 3, code := jdk_42_method_151_code, exceptionTable := #[], attributes := #[] }
def k7m13 : Method := { name := "<init>", desc := "([BB)V", sig := { parameters := [(.array .byte), .byte], returnType := none }, accessFlags := 0, code := some k7c13 }
def k7c14 : Code := { maxStack := 1, maxLocals := 1, code := jdk_42_method_152_code, exceptionTable := #[], attributes := #[] }
def k7m14 : Method := { name := "coder", desc := "()B", sig := { parameters := [], returnType := some .byte }, accessFlags := 0, code := some k7c14 }
def k7c15 : Code := { maxStack := 1, maxLocals := 1, code := jdk_42_method_154_code, exceptionTable := #[], attributes := #[] }
def k7m15 : Method := { name := "isLatin1", desc := "()Z", sig := { parameters := [], returnType := some .boolean }, accessFlags := 0, code := some k7c15 }
def k7c16 : Code := { maxStack := 3, maxLocals := 2, code := jdk_42_method_155_code, exceptionTable := #[], attributes := #[] }
def k7m16 : Method := { name := "checkIndex", desc := "(II)V", sig := { parameters := [.int, .int], returnType := none }, accessFlags := 8, code := some k7c16 }
def k7c17 : Code := { maxStack := 4, maxLocals := 3, code := jdk_42_method_157_code, exceptionTable := #[], attributes := #[] }
def k7m17 : Method := { name := "checkBoundsOffCount", desc := "(III)I", sig := { parameters := [.int, .int, .int], returnType := some .int }, accessFlags := 8, code := some k7c17 }
/-- java/lang/String -/
def k7 : Class := { plain "java/lang/String" (some 0) with
  accessFlags := 49
  interfaces := #[2, 3, 4, 5, 6]
  cf := some (fileOf pool7 10 #[.nestMembers #[1103]] #[{ accessFlags := 1, nameIndex := 5, descriptorIndex := 6, attributes := #[] }, { accessFlags := 1, nameIndex := 5, descriptorIndex := 1010, attributes := #[] }, { accessFlags := 1, nameIndex := 5, descriptorIndex := 70, attributes := #[] }, { accessFlags := 10, nameIndex := 317, descriptorIndex := 537, attributes := #[] }, { accessFlags := 10, nameIndex := 254, descriptorIndex := 255, attributes := #[] }, { accessFlags := 1, nameIndex := 5, descriptorIndex := 1233, attributes := #[] }, { accessFlags := 1, nameIndex := 507, descriptorIndex := 334, attributes := #[] }, { accessFlags := 1, nameIndex := 497, descriptorIndex := 427, attributes := #[] }, { accessFlags := 1, nameIndex := 532, descriptorIndex := 1245, attributes := #[] }, { accessFlags := 9, nameIndex := 782, descriptorIndex := 783, attributes := #[] }, { accessFlags := 0, nameIndex := 532, descriptorIndex := 821, attributes := #[] }, { accessFlags := 2, nameIndex := 5, descriptorIndex := 29, attributes := #[] }, { accessFlags := 0, nameIndex := 5, descriptorIndex := 491, attributes := #[] }, { accessFlags := 0, nameIndex := 5, descriptorIndex := 211, attributes := #[] }, { accessFlags := 0, nameIndex := 17, descriptorIndex := 337, attributes := #[] }, { accessFlags := 0, nameIndex := 494, descriptorIndex := 142, attributes := #[] }, { accessFlags := 8, nameIndex := 501, descriptorIndex := 391, attributes := #[] }, { accessFlags := 8, nameIndex := 36, descriptorIndex := 37, attributes := #[] }] 49 2 #[1106, 1108, 575, 1110, 1112] #[{ accessFlags := 18, nameIndex := 13, descriptorIndex := 14, attributes := #[] }, { accessFlags := 18, nameIndex := 17, descriptorIndex := 18, attributes := #[] }, { accessFlags := 2, nameIndex := 21, descriptorIndex := 22, attributes := #[] }, { accessFlags := 2, nameIndex := 25, descriptorIndex := 26, attributes := #[] }, { accessFlags := 26, nameIndex := 1116, descriptorIndex := 1117, attributes := #[] }, { accessFlags := 24, nameIndex := 40, descriptorIndex := 26, attributes := #[] }, { accessFlags := 26, nameIndex := 1101, descriptorIndex := 1102, attributes := #[] }, { accessFlags := 26, nameIndex := 1121, descriptorIndex := 1122, attributes := #[] }, { accessFlags := 25, nameIndex := 599, descriptorIndex := 600, attributes := #[] }, { accessFlags := 24, nameIndex := 1125, descriptorIndex := 18, attributes := #[] }, { accessFlags := 24, nameIndex := 1127, descriptorIndex := 18, attributes := #[] }])
  fields := #[{ name := "value", type := (.array .byte), accessFlags := 18, slot := 0, constantValue := 0 }, { name := "coder", type := .byte, accessFlags := 18, slot := 1, constantValue := 0 }, { name := "hash", type := .int, accessFlags := 2, slot := 2, constantValue := 0 }, { name := "hashIsZero", type := .boolean, accessFlags := 2, slot := 3, constantValue := 0 }, { name := "serialVersionUID", type := .long, accessFlags := 26, slot := 0, constantValue := 0 }, { name := "COMPACT_STRINGS", type := .boolean, accessFlags := 24, slot := 1, constantValue := 0 }, { name := "serialPersistentFields", type := (.array (.object "java/io/ObjectStreamField")), accessFlags := 26, slot := 2, constantValue := 0 }, { name := "REPL", type := .char, accessFlags := 26, slot := 3, constantValue := 0 }, { name := "CASE_INSENSITIVE_ORDER", type := (.object "java/util/Comparator"), accessFlags := 25, slot := 4, constantValue := 0 }, { name := "LATIN1", type := .byte, accessFlags := 24, slot := 5, constantValue := 0 }, { name := "UTF16", type := .byte, accessFlags := 24, slot := 6, constantValue := 0 }]
  methods := #[k7m0, k7m1, k7m2, k7m3, k7m4, k7m5, k7m6, k7m7, k7m8, k7m9, k7m10, k7m11, k7m12, k7m13, k7m14, k7m15, k7m16, k7m17]
  instanceTypes := #[(.array .byte), .byte, .int, .boolean]
  staticTypes := #[.long, .boolean, (.array (.object "java/io/ObjectStreamField")), .char, (.object "java/util/Comparator"), .byte, .byte]
  resolved := Array.replicate 1451 none
  statics := some 0 }

def pool8 : Array CpInfo := pool [(6, .class_ 8), (1, u "java/lang/Object"), (0, u "<init>"), (0, u "()V"), (0, .methodref 12 13), (0, .class_ 14), (0, .nameAndType 15 16), (0, u "java/lang/StringUTF16"), (0, u "newBytesLength"), (0, u "(I)I"), (3, .integer 1073741823), (25, u "$assertionsDisabled"), (0, u "Z"), (13, u "HI_BYTE_SHIFT"), (0, u "I"), (2, u "LO_BYTE_SHIFT"), (43, u "newBytesFor"), (0, u "(I)[B"), (4, .methodref 12 116), (0, .nameAndType 117 118), (0, u "compress"), (0, u "([CI[BII)I"), (3, u "([CII)[B"), (138, u "coderFromArrayLen"), (0, u "([BI)B"), (106, .class_ 371), (1, u "java/lang/StringUTF16$LinesSpliterator"), (58, u "MAX_LENGTH"), (196, .class_ 628), (0, u "java/lang/StringUTF16$CodePointsSpliterator"), (0, .class_ 630), (0, u "java/lang/StringUTF16$CharsSpliterator")] 4

def k8m0 : Method := { name := "<init>", desc := "()V", sig := { parameters := [], returnType := none }, accessFlags := 0, code := none }
def k8c1 : Code := { maxStack := 1, maxLocals := 1, code := jdk_52_method_2_code, exceptionTable := #[], attributes := #[] }
def k8m1 : Method := { name := "newBytesFor", desc := "(I)[B", sig := { parameters := [.int], returnType := some (.array .byte) }, accessFlags := 9, code := some k8c1 }
def k8c2 : Code := { maxStack := 4, maxLocals := 1, code := jdk_52_method_3_code, exceptionTable := #[], attributes := #[] }
def k8m2 : Method := { name := "newBytesLength", desc := "(I)I", sig := { parameters := [.int], returnType := some .int }, accessFlags := 9, code := some k8c2 }
def k8c3 : Code := { maxStack := 2, maxLocals := 2, code := jdk_52_method_15_code, exceptionTable := #[], attributes := #[] }
def k8m3 : Method := { name := "coderFromArrayLen", desc := "([BI)B", sig := { parameters := [(.array .byte), .int], returnType := some .byte }, accessFlags := 8, code := some k8c3 }
def k8c4 : Code := { maxStack := 5, maxLocals := 6, code := jdk_52_method_16_code, exceptionTable := #[], attributes := #[] }
def k8m4 : Method := { name := "compress", desc := "([CII)[B", sig := { parameters := [(.array .char), .int, .int], returnType := some (.array .byte) }, accessFlags := 9, code := some k8c4 }
def k8c5 : Code := { maxStack := 3, maxLocals := 7, code := jdk_52_method_21_code, exceptionTable := #[], attributes := #[] }
def k8m5 : Method := { name := "compress", desc := "([CI[BII)I", sig := { parameters := [(.array .char), .int, (.array .byte), .int, .int], returnType := some .int }, accessFlags := 9, code := some k8c5 }
/-- java/lang/StringUTF16 -/
def k8 : Class := { plain "java/lang/StringUTF16" (some 0) with
  accessFlags := 48
  interfaces := #[]
  cf := some (fileOf pool8 12 #[.nestMembers #[627, 629, 369]] #[{ accessFlags := 0, nameIndex := 9, descriptorIndex := 10, attributes := #[] }, { accessFlags := 9, nameIndex := 109, descriptorIndex := 110, attributes := #[] }, { accessFlags := 9, nameIndex := 15, descriptorIndex := 16, attributes := #[] }, { accessFlags := 8, nameIndex := 261, descriptorIndex := 262, attributes := #[] }, { accessFlags := 9, nameIndex := 117, descriptorIndex := 122, attributes := #[] }, { accessFlags := 9, nameIndex := 117, descriptorIndex := 118, attributes := #[] }] 48 6 #[] #[{ accessFlags := 26, nameIndex := 61, descriptorIndex := 62, attributes := #[] }, { accessFlags := 26, nameIndex := 65, descriptorIndex := 62, attributes := #[] }, { accessFlags := 24, nameIndex := 430, descriptorIndex := 62, attributes := #[] }, { accessFlags := 4120, nameIndex := 46, descriptorIndex := 47, attributes := #[] }])
  fields := #[{ name := "HI_BYTE_SHIFT", type := .int, accessFlags := 26, slot := 0, constantValue := 0 }, { name := "LO_BYTE_SHIFT", type := .int, accessFlags := 26, slot := 1, constantValue := 0 }, { name := "MAX_LENGTH", type := .int, accessFlags := 24, slot := 2, constantValue := 0 }, { name := "$assertionsDisabled", type := .boolean, accessFlags := 4120, slot := 3, constantValue := 0 }]
  methods := #[k8m0, k8m1, k8m2, k8m3, k8m4, k8m5]
  instanceTypes := #[]
  staticTypes := #[.int, .int, .int, .boolean]
  resolved := Array.replicate 635 none
  statics := none }

def pool9 : Array CpInfo := pool [(2, .class_ 4), (0, .nameAndType 5 6), (0, u "java/lang/Object"), (0, u "<init>"), (0, u "()V"), (0, .methodref 8 9), (0, .class_ 10), (0, .nameAndType 11 12), (0, u "java/util/Base64"), (0, u "getEncoder"), (0, u "()Ljava/util/Base64$Encoder;"), (0, .methodref 14 15), (0, .class_ 16), (0, .nameAndType 17 12), (0, u "java/util/Base64$Encoder"), (0, u "withoutPadding"), (0, .class_ 19), (0, u "java/lang/StringBuilder"), (0, .methodref 18 3), (0, .methodref 18 22), (0, .nameAndType 23 24), (0, u "append"), (0, u "(Ljava/lang/String;)Ljava/lang/StringBuilder;"), (0, .string 26), (0, u ":"), (0, .methodref 18 28), (0, .nameAndType 29 30), (0, u "toString"), (0, u "()Ljava/lang/String;"), (0, .fieldref 32 33), (0, .class_ 34), (0, .nameAndType 35 36), (0, u "java/nio/charset/StandardCharsets"), (0, u "UTF_8"), (0, u "Ljava/nio/charset/Charset;"), (0, .methodref 38 39), (0, .class_ 40), (0, .nameAndType 41 42), (0, u "java/lang/String"), (0, u "getBytes"), (0, u "(Ljava/nio/charset/Charset;)[B"), (0, .methodref 14 44), (0, .nameAndType 45 46), (0, u "encodeToString"), (0, u "([B)Ljava/lang/String;"), (0, .class_ 48), (0, u "com/example/exact_rest/exactrest/NodeIds"), (2, u "of"), (0, u "(Ljava/lang/String;Ljava/lang/String;)Ljava/lang/String;")] 4

def k9m0 : Method := { name := "<init>", desc := "()V", sig := { parameters := [], returnType := none }, accessFlags := 2, code := none }
def k9c1 : Code := { maxStack := 3, maxLocals := 2, code := prog_10_method_2_code, exceptionTable := #[], attributes := #[] }
def k9m1 : Method := { name := "of", desc := "(Ljava/lang/String;Ljava/lang/String;)Ljava/lang/String;", sig := { parameters := [(.object "java/lang/String"), (.object "java/lang/String")], returnType := some (.object "java/lang/String") }, accessFlags := 8, code := some k9c1 }
/-- com/example/exact_rest/exactrest/NodeIds -/
def k9 : Class := { plain "com/example/exact_rest/exactrest/NodeIds" (some 0) with
  accessFlags := 48
  interfaces := #[]
  cf := some (fileOf pool9 47 #[] #[{ accessFlags := 2, nameIndex := 5, descriptorIndex := 6, attributes := #[] }, { accessFlags := 8, nameIndex := 51, descriptorIndex := 52, attributes := #[] }] 48 2 #[] #[])
  fields := #[]
  methods := #[k9m0, k9m1]
  instanceTypes := #[]
  staticTypes := #[]
  resolved := Array.replicate 57 none
  statics := none }

def pool10 : Array CpInfo := pool [(2, .class_ 4), (1, u "java/lang/Object"), (0, u "<init>"), (0, u "()V"), (0, .fieldref 8 9), (0, .class_ 10), (0, .nameAndType 11 12), (0, u "java/util/Base64$Encoder"), (0, u "RFC4648"), (0, u "Ljava/util/Base64$Encoder;"), (13, .class_ 28), (1, u "java/util/Base64$Decoder"), (35, .class_ 65), (0, u "java/util/Base64"), (5, u "getEncoder"), (0, u "()Ljava/util/Base64$Encoder;"), (20, .class_ 94), (0, u "java/util/Base64$DecInputStream"), (0, .class_ 96), (0, u "java/util/Base64$EncOutputStream")] 5

def k10m0 : Method := { name := "<init>", desc := "()V", sig := { parameters := [], returnType := none }, accessFlags := 2, code := none }
def k10c1 : Code := { maxStack := 1, maxLocals := 0, code := jdk_2448_method_2_code, exceptionTable := #[], attributes := #[] }
def k10m1 : Method := { name := "getEncoder", desc := "()Ljava/util/Base64$Encoder;", sig := { parameters := [], returnType := some (.object "java/util/Base64$Encoder") }, accessFlags := 9, code := some k10c1 }
/-- java/util/Base64 -/
def k10 : Class := { plain "java/util/Base64" (some 0) with
  accessFlags := 33
  interfaces := #[]
  cf := some (fileOf pool10 64 #[.nestMembers #[93, 95, 26, 8]] #[{ accessFlags := 2, nameIndex := 5, descriptorIndex := 6, attributes := #[] }, { accessFlags := 9, nameIndex := 71, descriptorIndex := 72, attributes := #[] }] 33 2 #[] #[])
  fields := #[]
  methods := #[k10m0, k10m1]
  instanceTypes := #[]
  staticTypes := #[]
  resolved := Array.replicate 102 none
  statics := none }

def pool11 : Array CpInfo := pool [(1, .methodref 2 3), (0, .class_ 4), (0, .nameAndType 5 6), (0, u "java/lang/Object"), (0, u "<init>"), (0, u "()V"), (0, .fieldref 8 9), (0, .class_ 10), (0, .nameAndType 11 12), (0, u "java/util/Base64$Encoder"), (0, u "isURL"), (0, u "Z"), (0, .fieldref 8 14), (0, .nameAndType 15 16), (0, u "newline"), (0, u "[B"), (0, .fieldref 8 18), (0, .nameAndType 19 20), (0, u "linemax"), (0, u "I"), (0, .fieldref 8 22), (0, .nameAndType 23 12), (0, u "doPadding"), (0, .methodref 25 26), (0, .class_ 27), (0, .nameAndType 28 29), (0, u "java/lang/Math"), (0, u "addExact"), (0, u "(II)I"), (0, .methodref 25 31), (0, .nameAndType 32 29), (0, u "multiplyExact"), (9, .methodref 8 43), (0, .nameAndType 44 45), (0, u "encodedOutLength"), (0, u "(IZ)I"), (0, .methodref 8 47), (0, .nameAndType 48 49), (0, u "encode0"), (0, u "([BII[B)I"), (11, .methodref 8 62), (0, .nameAndType 63 64), (0, u "encode"), (0, u "([B)[B"), (0, .class_ 66), (0, u "java/lang/String"), (0, .methodref 65 68), (0, .nameAndType 5 69), (0, u "([BIII)V"), (43, u "toBase64URL"), (0, u "[C"), (0, .fieldref 8 116), (0, .nameAndType 117 114), (0, u "toBase64"), (3, .methodref 8 122), (0, .nameAndType 5 123), (0, u "(Z[BIZ)V"), (0, .methodref 25 125), (0, .nameAndType 126 29), (0, u "min"), (0, .methodref 8 128), (0, .nameAndType 129 130), (0, u "encodeBlock"), (0, u "([BII[BIZ)V"), (2, u "CRLF"), (2, u "RFC4648"), (0, u "Ljava/util/Base64$Encoder;"), (2, u "RFC4648_URLSAFE"), (2, u "RFC2045"), (0, u "MIMELINEMAX"), (18, u "encodeToString"), (0, u "([B)Ljava/lang/String;"), (10, u "withoutPadding"), (0, u "()Ljava/util/Base64$Encoder;"), (22, .class_ 200), (0, u "java/util/Base64")] 3

def k11c0 : Code := { maxStack := 2, maxLocals := 5, code := jdk_2452_method_1_code, exceptionTable := #[], attributes := #[] }
def k11m0 : Method := { name := "<init>", desc := "(Z[BIZ)V", sig := { parameters := [.boolean, (.array .byte), .int, .boolean], returnType := none }, accessFlags := 2, code := some k11c0 }
def k11c1 : Code := { maxStack := 3, maxLocals := 5, code := jdk_2452_method_2_code, exceptionTable := #[{ startPc := 2, endPc := 79, handlerPc := 82, catchType := 33 }], attributes := #[] }
def k11m1 : Method := { name := "encodedOutLength", desc := "(IZ)I", sig := { parameters := [.int, .boolean], returnType := some .int }, accessFlags := 18, code := some k11c1 }
def k11c2 : Code := { maxStack := 5, maxLocals := 5, code := jdk_2452_method_3_code, exceptionTable := #[], attributes := #[] }
def k11m2 : Method := { name := "encode", desc := "([B)[B", sig := { parameters := [(.array .byte)], returnType := some (.array .byte) }, accessFlags := 1, code := some k11c2 }
def k11c3 : Code := { maxStack := 6, maxLocals := 3, code := jdk_2452_method_5_code, exceptionTable := #[], attributes := #[] }
def k11m3 : Method := { name := "encodeToString", desc := "([B)Ljava/lang/String;", sig := { parameters := [(.array .byte)], returnType := some (.object "java/lang/String") }, accessFlags := 1, code := some k11c3 }
def k11c4 : Code := { maxStack := 6, maxLocals := 1, code := jdk_2452_method_8_code, exceptionTable := #[], attributes := #[] }
def k11m4 : Method := { name := "withoutPadding", desc := "()Ljava/util/Base64$Encoder;", sig := { parameters := [], returnType := some (.object "java/util/Base64$Encoder") }, accessFlags := 1, code := some k11c4 }
def k11c5 : Code := { maxStack := 5, maxLocals := 11, code := jdk_2452_method_9_code, exceptionTable := #[], attributes := #[] }
def k11m5 : Method := { name := "encodeBlock", desc := "([BII[BIZ)V", sig := { parameters := [(.array .byte), .int, .int, (.array .byte), .int, .boolean], returnType := none }, accessFlags := 2, code := some k11c5 }
def k11c6 : Code := { maxStack := 7, maxLocals := 16, code := jdk_2452_method_10_code, exceptionTable := #[], attributes := #[] }
def k11m6 : Method := { name := "encode0", desc := "([BII[B)I", sig := { parameters := [(.array .byte), .int, .int, (.array .byte)], returnType := some .int }, accessFlags := 2, code := some k11c6 }
/-- java/util/Base64$Encoder -/
def k11 : Class := { plain "java/util/Base64$Encoder" (some 0) with
  accessFlags := 33
  interfaces := #[]
  cf := some (fileOf pool11 8 #[.nestHost 199] #[{ accessFlags := 2, nameIndex := 5, descriptorIndex := 123, attributes := #[] }, { accessFlags := 18, nameIndex := 44, descriptorIndex := 45, attributes := #[] }, { accessFlags := 1, nameIndex := 63, descriptorIndex := 64, attributes := #[] }, { accessFlags := 1, nameIndex := 163, descriptorIndex := 164, attributes := #[] }, { accessFlags := 1, nameIndex := 175, descriptorIndex := 176, attributes := #[] }, { accessFlags := 2, nameIndex := 129, descriptorIndex := 130, attributes := #[] }, { accessFlags := 2, nameIndex := 48, descriptorIndex := 49, attributes := #[] }] 33 2 #[] #[{ accessFlags := 18, nameIndex := 15, descriptorIndex := 16, attributes := #[] }, { accessFlags := 18, nameIndex := 19, descriptorIndex := 20, attributes := #[] }, { accessFlags := 18, nameIndex := 11, descriptorIndex := 12, attributes := #[] }, { accessFlags := 18, nameIndex := 23, descriptorIndex := 12, attributes := #[] }, { accessFlags := 26, nameIndex := 117, descriptorIndex := 114, attributes := #[] }, { accessFlags := 26, nameIndex := 113, descriptorIndex := 114, attributes := #[] }, { accessFlags := 26, nameIndex := 144, descriptorIndex := 20, attributes := #[] }, { accessFlags := 26, nameIndex := 133, descriptorIndex := 16, attributes := #[] }, { accessFlags := 24, nameIndex := 136, descriptorIndex := 137, attributes := #[] }, { accessFlags := 24, nameIndex := 140, descriptorIndex := 137, attributes := #[] }, { accessFlags := 24, nameIndex := 143, descriptorIndex := 137, attributes := #[] }])
  fields := #[{ name := "newline", type := (.array .byte), accessFlags := 18, slot := 0, constantValue := 0 }, { name := "linemax", type := .int, accessFlags := 18, slot := 1, constantValue := 0 }, { name := "isURL", type := .boolean, accessFlags := 18, slot := 2, constantValue := 0 }, { name := "doPadding", type := .boolean, accessFlags := 18, slot := 3, constantValue := 0 }, { name := "toBase64", type := (.array .char), accessFlags := 26, slot := 0, constantValue := 0 }, { name := "toBase64URL", type := (.array .char), accessFlags := 26, slot := 1, constantValue := 0 }, { name := "MIMELINEMAX", type := .int, accessFlags := 26, slot := 2, constantValue := 0 }, { name := "CRLF", type := (.array .byte), accessFlags := 26, slot := 3, constantValue := 0 }, { name := "RFC4648", type := (.object "java/util/Base64$Encoder"), accessFlags := 24, slot := 4, constantValue := 0 }, { name := "RFC4648_URLSAFE", type := (.object "java/util/Base64$Encoder"), accessFlags := 24, slot := 5, constantValue := 0 }, { name := "RFC2045", type := (.object "java/util/Base64$Encoder"), accessFlags := 24, slot := 6, constantValue := 0 }]
  methods := #[k11m0, k11m1, k11m2, k11m3, k11m4, k11m5, k11m6]
  instanceTypes := #[(.array .byte), .int, .boolean, .boolean]
  staticTypes := #[(.array .char), (.array .char), .int, (.array .byte), (.object "java/util/Base64$Encoder"), (.object "java/util/Base64$Encoder"), (.object "java/util/Base64$Encoder")]
  resolved := Array.replicate 204 none
  statics := some 1 }

def pool12 : Array CpInfo := pool [(1, .class_ 2), (0, u "java/lang/Appendable"), (0, .class_ 4), (0, u "java/lang/Object")] 9

/-- java/lang/Appendable -/
def k12 : Class := { plain "java/lang/Appendable" (some 0) with
  accessFlags := 1537
  interfaces := #[]
  cf := some (fileOf pool12 1 #[] #[] 1537 3 #[] #[])
  fields := #[]
  methods := #[]
  instanceTypes := #[]
  staticTypes := #[]
  resolved := Array.replicate 14 none
  statics := none }

def pool13 : Array CpInfo := pool [(1, .class_ 2), (0, u "java/lang/String"), (0, .methodref 4 5), (0, .class_ 6), (0, .nameAndType 7 8), (0, u "java/lang/Object"), (0, u "<init>"), (0, u "()V"), (1, .class_ 12), (1, u "java/lang/AbstractStringBuilder"), (0, u "EMPTYVALUE"), (0, u "[B"), (0, .fieldref 10 16), (0, .nameAndType 17 14), (0, u "value"), (0, .fieldref 1 19), (0, .nameAndType 20 21), (0, u "COMPACT_STRINGS"), (0, u "Z"), (0, .fieldref 10 23), (0, .nameAndType 24 25), (0, u "coder"), (0, u "B"), (6, .methodref 1 33), (0, .nameAndType 34 35), (0, u "length"), (0, u "()I"), (4, .methodref 1 41), (0, .nameAndType 24 42), (0, u "()B"), (2, u "append"), (0, u "(Ljava/lang/String;)Ljava/lang/AbstractStringBuilder;"), (1, .class_ 49), (0, u "java/lang/CharSequence"), (19, u "(Ljava/lang/String;)V"), (5, u "maybeLatin1"), (3, .fieldref 10 80), (0, .nameAndType 81 82), (0, u "count"), (0, u "I"), (2, u "isLatin1"), (0, u "()Z"), (13, .methodref 10 101), (0, .nameAndType 102 103), (0, u "ensureCapacityInternal"), (0, u "(I)V"), (104, .methodref 10 209), (0, .nameAndType 210 211), (0, u "putStringAt"), (0, u "(ILjava/lang/String;)V"), (5, u "inflateIfNeededFor"), (2, .nameAndType 221 222), (0, u "getBytes"), (0, u "([BIB)V"), (174, .methodref 10 398), (0, .nameAndType 217 69), (0, .methodref 1 220), (3, u "()[B"), (40, .class_ 445), (0, u "java/lang/Appendable"), (106, u "getValue")] 56

def k13m0 : Method := { name := "<init>", desc := "()V", sig := { parameters := [], returnType := none }, accessFlags := 0, code := none }
def k13c1 : Code := { maxStack := 2, maxLocals := 2, code := jdk_68_method_2_code, exceptionTable := #[], attributes := #[] }
def k13m1 : Method := { name := "<init>", desc := "(I)V", sig := { parameters := [.int], returnType := none }, accessFlags := 0, code := some k13c1 }
def k13c2 : Code := { maxStack := 1, maxLocals := 1, code := jdk_68_method_6_code, exceptionTable := #[], attributes := #[] }
def k13m2 : Method := { name := "length", desc := "()I", sig := { parameters := [], returnType := some .int }, accessFlags := 1, code := some k13c2 }
def k13c3 : Code := { maxStack := 4, maxLocals := 3, code := jdk_68_method_9_code, exceptionTable := #[], attributes := #[] }
def k13m3 : Method := { name := "ensureCapacityInternal", desc := "(I)V", sig := { parameters := [.int], returnType := none }, accessFlags := 2, code := some k13c3 }
def k13c4 : Code := { maxStack := 3, maxLocals := 3, code := jdk_68_method_22_code, exceptionTable := #[], attributes := #[] }
def k13m4 : Method := { name := "append", desc := "(Ljava/lang/String;)Ljava/lang/AbstractStringBuilder;", sig := { parameters := [(.object "java/lang/String")], returnType := some (.object "java/lang/AbstractStringBuilder") }, accessFlags := 1, code := some k13c4 }
def k13c5 : Code := { maxStack := 1, maxLocals := 1, code := jdk_68_method_64_code, exceptionTable := #[], attributes := #[] }
def k13m5 : Method := { name := "getValue", desc := "()[B", sig := { parameters := [], returnType := some (.array .byte) }, accessFlags := 16, code := some k13c5 }
def k13c6 : Code := { maxStack := 1, maxLocals := 1, code := jdk_68_method_68_code, exceptionTable := #[], attributes := #[] }
def k13m6 : Method := { name := "isLatin1", desc := "()Z", sig := { parameters := [], returnType := some .boolean }, accessFlags := 16, code := some k13c6 }
def k13c7 : Code := { maxStack := 2, maxLocals := 2, code := jdk_68_method_71_code, exceptionTable := #[], attributes := #[] }
def k13m7 : Method := { name := "inflateIfNeededFor", desc := "(Ljava/lang/String;)V", sig := { parameters := [(.object "java/lang/String")], returnType := none }, accessFlags := 2, code := some k13c7 }
def k13c8 : Code := { maxStack := 4, maxLocals := 3, code := jdk_68_method_73_code, exceptionTable := #[], attributes := #[] }
def k13m8 : Method := { name := "putStringAt", desc := "(ILjava/lang/String;)V", sig := { parameters := [.int, (.object "java/lang/String")], returnType := none }, accessFlags := 2, code := some k13c8 }
/-- java/lang/AbstractStringBuilder -/
def k13 : Class := { plain "java/lang/AbstractStringBuilder" (some 0) with
  accessFlags := 1056
  interfaces := #[12, 4]
  cf := some (fileOf pool13 10 #[] #[{ accessFlags := 0, nameIndex := 7, descriptorIndex := 8, attributes := #[] }, { accessFlags := 0, nameIndex := 7, descriptorIndex := 103, attributes := #[] }, { accessFlags := 1, nameIndex := 34, descriptorIndex := 35, attributes := #[] }, { accessFlags := 2, nameIndex := 102, descriptorIndex := 103, attributes := #[] }, { accessFlags := 1, nameIndex := 45, descriptorIndex := 46, attributes := #[] }, { accessFlags := 16, nameIndex := 552, descriptorIndex := 403, attributes := #[] }, { accessFlags := 16, nameIndex := 85, descriptorIndex := 86, attributes := #[] }, { accessFlags := 2, nameIndex := 217, descriptorIndex := 69, attributes := #[] }, { accessFlags := 2, nameIndex := 210, descriptorIndex := 211, attributes := #[] }] 1056 4 #[444, 48] #[{ accessFlags := 0, nameIndex := 17, descriptorIndex := 14, attributes := #[] }, { accessFlags := 0, nameIndex := 24, descriptorIndex := 25, attributes := #[] }, { accessFlags := 0, nameIndex := 75, descriptorIndex := 21, attributes := #[] }, { accessFlags := 0, nameIndex := 81, descriptorIndex := 82, attributes := #[] }, { accessFlags := 26, nameIndex := 13, descriptorIndex := 14, attributes := #[] }])
  fields := #[{ name := "value", type := (.array .byte), accessFlags := 0, slot := 0, constantValue := 0 }, { name := "coder", type := .byte, accessFlags := 0, slot := 1, constantValue := 0 }, { name := "maybeLatin1", type := .boolean, accessFlags := 0, slot := 2, constantValue := 0 }, { name := "count", type := .int, accessFlags := 0, slot := 3, constantValue := 0 }, { name := "EMPTYVALUE", type := (.array .byte), accessFlags := 26, slot := 0, constantValue := 0 }]
  methods := #[k13m0, k13m1, k13m2, k13m3, k13m4, k13m5, k13m6, k13m7, k13m8]
  instanceTypes := #[(.array .byte), .byte, .boolean, .int]
  staticTypes := #[(.array .byte)]
  resolved := Array.replicate 609 none
  statics := none }

def pool14 : Array CpInfo := pool [(1, .methodref 2 3), (0, .class_ 4), (0, .nameAndType 5 6), (0, u "java/lang/AbstractStringBuilder"), (0, u "<init>"), (0, u "(I)V"), (11, .class_ 20), (1, u "java/lang/String"), (3, .class_ 26), (1, u "java/lang/StringBuilder"), (0, u "append"), (0, u "(Ljava/lang/String;)Ljava/lang/StringBuilder;"), (0, .methodref 2 30), (0, .nameAndType 27 31), (0, u "(Ljava/lang/String;)Ljava/lang/AbstractStringBuilder;"), (105, .methodref 18 138), (0, .nameAndType 5 139), (0, u "(Ljava/lang/StringBuilder;)V"), (5, u "()V"), (10, u "()I"), (186, .methodref 2 344), (0, .nameAndType 345 156), (0, u "length"), (3, .class_ 350), (0, u "java/lang/Appendable"), (0, .class_ 352), (0, u "java/io/Serializable"), (0, .class_ 354), (0, u "java/lang/Comparable"), (0, .class_ 356), (0, u "java/lang/CharSequence"), (0, u "serialVersionUID"), (0, u "J"), (40, u "toString"), (0, u "()Ljava/lang/String;")] 21

def k14c0 : Code := { maxStack := 2, maxLocals := 1, code := jdk_67_method_1_code, exceptionTable := #[], attributes := #[] }
def k14m0 : Method := { name := "<init>", desc := "()V", sig := { parameters := [], returnType := none }, accessFlags := 1, code := some k14c0 }
def k14c1 : Code := { maxStack := 2, maxLocals := 2, code := jdk_67_method_7_code, exceptionTable := #[], attributes := #[] }
def k14m1 : Method := { name := "append", desc := "(Ljava/lang/String;)Ljava/lang/StringBuilder;", sig := { parameters := [(.object "java/lang/String")], returnType := some (.object "java/lang/StringBuilder") }, accessFlags := 1, code := some k14c1 }
def k14c2 : Code := { maxStack := 3, maxLocals := 1, code := jdk_67_method_42_code, exceptionTable := #[], attributes := #[] }
def k14m2 : Method := { name := "toString", desc := "()Ljava/lang/String;", sig := { parameters := [], returnType := some (.object "java/lang/String") }, accessFlags := 1, code := some k14c2 }
def k14c3 : Code := { maxStack := 1, maxLocals := 1, code := jdk_67_method_93_code, exceptionTable := #[], attributes := #[] }
def k14m3 : Method := { name := "length", desc := "()I", sig := { parameters := [], returnType := some .int }, accessFlags := 4161, code := some k14c3 }
/-- java/lang/StringBuilder -/
def k14 : Class := { plain "java/lang/StringBuilder" (some 13) with
  accessFlags := 49
  interfaces := #[12, 2, 3, 4]
  cf := some (fileOf pool14 24 #[] #[{ accessFlags := 1, nameIndex := 5, descriptorIndex := 145, attributes := #[] }, { accessFlags := 1, nameIndex := 27, descriptorIndex := 28, attributes := #[] }, { accessFlags := 1, nameIndex := 399, descriptorIndex := 400, attributes := #[] }, { accessFlags := 4161, nameIndex := 345, descriptorIndex := 156, attributes := #[] }] 49 2 #[349, 351, 353, 355] #[{ accessFlags := 24, nameIndex := 357, descriptorIndex := 358, attributes := #[] }])
  fields := #[{ name := "serialVersionUID", type := .long, accessFlags := 24, slot := 0, constantValue := 0 }]
  methods := #[k14m0, k14m1, k14m2, k14m3]
  instanceTypes := #[(.array .byte), .byte, .boolean, .int]
  staticTypes := #[.long]
  resolved := Array.replicate 422 none
  statics := none }

def pool15 : Array CpInfo := pool [(2, .class_ 4), (1, u "java/lang/Object"), (0, u "<init>"), (0, u "()V"), (1, .class_ 10), (1, u "java/lang/System"), (0, u "allowSecurityManager"), (0, u "I"), (16, u "cons"), (0, u "Ljava/io/Console;"), (77, .class_ 110), (1, u "java/lang/System$CallersHolder"), (43, u "initialErrStream"), (0, u "Ljava/io/PrintStream;"), (19, u "security"), (0, u "Ljava/lang/SecurityManager;"), (31, .class_ 209), (0, u "java/lang/System$1"), (7, u "props"), (0, u "Ljava/util/Properties;"), (2, u "lineSeparator"), (0, u "Ljava/lang/String;"), (96, .class_ 321), (1, u "java/lang/System$LoggerFinder"), (5, .class_ 328), (0, u "java/lang/System$Logger"), (67, u "err"), (2, u "out"), (91, u "notSupportedJnuEncoding"), (15, u "in"), (17, u "initialIn"), (0, u "Ljava/io/InputStream;"), (35, u "bootLayer"), (0, u "Ljava/lang/ModuleLayer;"), (99, .class_ 664), (0, u "java/lang/System$2"), (9, u "NEVER"), (2, u "MAYBE"), (49, u "arraycopy"), (0, u "(Ljava/lang/Object;ILjava/lang/Object;II)V"), (72, .class_ 802), (0, u "java/lang/System$Logger$Level")] 31

def k15m0 : Method := { name := "<init>", desc := "()V", sig := { parameters := [], returnType := none }, accessFlags := 2, code := none }
def k15m1 : Method := { name := "arraycopy", desc := "(Ljava/lang/Object;ILjava/lang/Object;II)V", sig := { parameters := [(.object "java/lang/Object"), .int, (.object "java/lang/Object"), .int, .int], returnType := none }, accessFlags := 265, code := none }
/-- java/lang/System -/
def k15 : Class := { plain "java/lang/System" (some 0) with
  accessFlags := 49
  interfaces := #[]
  cf := some (fileOf pool15 8 #[.nestMembers #[319, 327, 801, 108, 663, 208]] #[{ accessFlags := 2, nameIndex := 5, descriptorIndex := 6, attributes := #[] }, { accessFlags := 265, nameIndex := 727, descriptorIndex := 728, attributes := #[] }] 49 2 #[] #[{ accessFlags := 25, nameIndex := 507, descriptorIndex := 526, attributes := #[] }, { accessFlags := 25, nameIndex := 399, descriptorIndex := 155, attributes := #[] }, { accessFlags := 25, nameIndex := 396, descriptorIndex := 155, attributes := #[] }, { accessFlags := 10, nameIndex := 525, descriptorIndex := 526, attributes := #[] }, { accessFlags := 26, nameIndex := 674, descriptorIndex := 12, attributes := #[] }, { accessFlags := 26, nameIndex := 677, descriptorIndex := 12, attributes := #[] }, { accessFlags := 10, nameIndex := 11, descriptorIndex := 12, attributes := #[] }, { accessFlags := 74, nameIndex := 175, descriptorIndex := 176, attributes := #[] }, { accessFlags := 10, nameIndex := 491, descriptorIndex := 222, attributes := #[] }, { accessFlags := 74, nameIndex := 29, descriptorIndex := 30, attributes := #[] }, { accessFlags := 74, nameIndex := 154, descriptorIndex := 155, attributes := #[] }, { accessFlags := 10, nameIndex := 217, descriptorIndex := 218, attributes := #[] }, { accessFlags := 10, nameIndex := 221, descriptorIndex := 222, attributes := #[] }, { accessFlags := 8, nameIndex := 562, descriptorIndex := 563, attributes := #[] }])
  fields := #[{ name := "in", type := (.object "java/io/InputStream"), accessFlags := 25, slot := 0, constantValue := 0 }, { name := "out", type := (.object "java/io/PrintStream"), accessFlags := 25, slot := 1, constantValue := 0 }, { name := "err", type := (.object "java/io/PrintStream"), accessFlags := 25, slot := 2, constantValue := 0 }, { name := "initialIn", type := (.object "java/io/InputStream"), accessFlags := 10, slot := 3, constantValue := 0 }, { name := "NEVER", type := .int, accessFlags := 26, slot := 4, constantValue := 0 }, { name := "MAYBE", type := .int, accessFlags := 26, slot := 5, constantValue := 0 }, { name := "allowSecurityManager", type := .int, accessFlags := 10, slot := 6, constantValue := 0 }, { name := "security", type := (.object "java/lang/SecurityManager"), accessFlags := 74, slot := 7, constantValue := 0 }, { name := "notSupportedJnuEncoding", type := (.object "java/lang/String"), accessFlags := 10, slot := 8, constantValue := 0 }, { name := "cons", type := (.object "java/io/Console"), accessFlags := 74, slot := 9, constantValue := 0 }, { name := "initialErrStream", type := (.object "java/io/PrintStream"), accessFlags := 74, slot := 10, constantValue := 0 }, { name := "props", type := (.object "java/util/Properties"), accessFlags := 10, slot := 11, constantValue := 0 }, { name := "lineSeparator", type := (.object "java/lang/String"), accessFlags := 10, slot := 12, constantValue := 0 }, { name := "bootLayer", type := (.object "java/lang/ModuleLayer"), accessFlags := 8, slot := 13, constantValue := 0 }]
  methods := #[k15m0, k15m1]
  instanceTypes := #[]
  staticTypes := #[(.object "java/io/InputStream"), (.object "java/io/PrintStream"), (.object "java/io/PrintStream"), (.object "java/io/InputStream"), .int, .int, .int, (.object "java/lang/SecurityManager"), (.object "java/lang/String"), (.object "java/io/Console"), (.object "java/io/PrintStream"), (.object "java/util/Properties"), (.object "java/lang/String"), (.object "java/lang/ModuleLayer")]
  resolved := Array.replicate 834 none
  statics := none }

def pool16 : Array CpInfo := pool [(2, .class_ 4), (1, u "java/lang/Object"), (0, u "<init>"), (0, u "()V"), (7, .class_ 16), (1, u "java/util/Arrays"), (57, .class_ 76), (1, u "java/util/Arrays$NaturalOrder"), (32, u "()Ljava/lang/Object;"), (3, .class_ 115), (1, u "java/util/Arrays$LegacyMergeSort"), (1, u "Z"), (10, .nameAndType 129 109), (0, u "clone"), (9, u "copyOfRange"), (10, .methodref 151 152), (0, .class_ 153), (0, .nameAndType 154 155), (0, u "java/lang/System"), (0, u "arraycopy"), (0, u "(Ljava/lang/Object;ILjava/lang/Object;II)V"), (146, u "copyOf"), (1, .methodref 305 306), (0, .class_ 307), (0, .nameAndType 308 309), (0, u "java/lang/Math"), (0, u "min"), (0, u "(II)I"), (0, .methodref 311 128), (0, .class_ 312), (0, u "[B"), (26, .methodref 14 340), (0, .nameAndType 341 342), (0, u "copyOfRangeByte"), (0, u "([BII)[B"), (0, .methodref 14 344), (0, .nameAndType 345 346), (0, u "checkLength"), (0, u "(II)V"), (28, .class_ 376), (0, u "java/util/Arrays$ArrayList"), (68, u "$assertionsDisabled"), (269, u "MIN_ARRAY_SORT_GRAN"), (0, u "I"), (2, u "INSERTIONSORT_THRESHOLD"), (149, u "([BI)[B"), (105, .class_ 976), (0, u "java/util/Arrays$ArrayItr")] 52

def k16m0 : Method := { name := "<init>", desc := "()V", sig := { parameters := [], returnType := none }, accessFlags := 2, code := none }
def k16c1 : Code := { maxStack := 6, maxLocals := 3, code := jdk_65_method_121_code, exceptionTable := #[], attributes := #[] }
def k16m1 : Method := { name := "copyOf", desc := "([BI)[B", sig := { parameters := [(.array .byte), .int], returnType := some (.array .byte) }, accessFlags := 9, code := some k16c1 }
def k16c2 : Code := { maxStack := 4, maxLocals := 2, code := jdk_65_method_131_code, exceptionTable := #[], attributes := #[] }
def k16m2 : Method := { name := "checkLength", desc := "(II)V", sig := { parameters := [.int, .int], returnType := none }, accessFlags := 10, code := some k16c2 }
def k16c3 : Code := { maxStack := 3, maxLocals := 3, code := jdk_65_method_132_code, exceptionTable := #[], attributes := #[] }
def k16m3 : Method := { name := "copyOfRange", desc := "([BII)[B", sig := { parameters := [(.array .byte), .int, .int], returnType := some (.array .byte) }, accessFlags := 9, code := some k16c3 }
def k16c4 : Code := { maxStack := 6, maxLocals := 5, code := jdk_65_method_133_code, exceptionTable := #[], attributes := #[] }
def k16m4 : Method := { name := "copyOfRangeByte", desc := "([BII)[B", sig := { parameters := [(.array .byte), .int, .int], returnType := some (.array .byte) }, accessFlags := 10, code := some k16c4 }
/-- java/util/Arrays -/
def k16 : Class := { plain "java/util/Arrays" (some 0) with
  accessFlags := 49
  interfaces := #[]
  cf := some (fileOf pool16 14 #[.nestMembers #[975, 375, 113, 74]] #[{ accessFlags := 2, nameIndex := 5, descriptorIndex := 6, attributes := #[] }, { accessFlags := 9, nameIndex := 302, descriptorIndex := 869, attributes := #[] }, { accessFlags := 10, nameIndex := 345, descriptorIndex := 346, attributes := #[] }, { accessFlags := 9, nameIndex := 139, descriptorIndex := 342, attributes := #[] }, { accessFlags := 10, nameIndex := 341, descriptorIndex := 342, attributes := #[] }] 49 2 #[] #[{ accessFlags := 26, nameIndex := 715, descriptorIndex := 716, attributes := #[] }, { accessFlags := 26, nameIndex := 719, descriptorIndex := 716, attributes := #[] }, { accessFlags := 4120, nameIndex := 445, descriptorIndex := 117, attributes := #[] }])
  fields := #[{ name := "MIN_ARRAY_SORT_GRAN", type := .int, accessFlags := 26, slot := 0, constantValue := 0 }, { name := "INSERTIONSORT_THRESHOLD", type := .int, accessFlags := 26, slot := 1, constantValue := 0 }, { name := "$assertionsDisabled", type := .boolean, accessFlags := 4120, slot := 2, constantValue := 0 }]
  methods := #[k16m0, k16m1, k16m2, k16m3, k16m4]
  instanceTypes := #[]
  staticTypes := #[.int, .int, .boolean]
  resolved := Array.replicate 1029 none
  statics := none }

def pool17 : Array CpInfo := pool [(1, .class_ 2), (0, u "java/lang/Math"), (1, .class_ 6), (1, u "java/lang/Object"), (0, u "<init>"), (0, u "()V"), (89, .class_ 100), (1, u "java/lang/Math$RandomNumberGeneratorHolder"), (19, u "multiplyExact"), (51, u "negativeZeroFloatBits"), (0, u "J"), (2, u "negativeZeroDoubleBits"), (24, u "min"), (43, u "$assertionsDisabled"), (0, u "Z"), (88, u "(II)I"), (2, u "twoToTheDoubleScaleDown"), (0, u "D"), (4, u "twoToTheDoubleScaleUp"), (9, u "E"), (3, u "PI"), (2, u "TAU"), (2, u "DEGREES_TO_RADIANS"), (0, u "RADIANS_TO_DEGREES"), (27, u "addExact")] 66

def k17m0 : Method := { name := "<init>", desc := "()V", sig := { parameters := [], returnType := none }, accessFlags := 2, code := none }
def k17c1 : Code := { maxStack := 3, maxLocals := 3, code := jdk_29_method_24_code, exceptionTable := #[], attributes := #[] }
def k17m1 : Method := { name := "addExact", desc := "(II)I", sig := { parameters := [.int, .int], returnType := some .int }, accessFlags := 9, code := some k17c1 }
def k17c2 : Code := { maxStack := 4, maxLocals := 4, code := jdk_29_method_28_code, exceptionTable := #[], attributes := #[] }
def k17m2 : Method := { name := "multiplyExact", desc := "(II)I", sig := { parameters := [.int, .int], returnType := some .int }, accessFlags := 9, code := some k17c2 }
def k17c3 : Code := { maxStack := 2, maxLocals := 2, code := jdk_29_method_69_code, exceptionTable := #[], attributes := #[] }
def k17m3 : Method := { name := "min", desc := "(II)I", sig := { parameters := [.int, .int], returnType := some .int }, accessFlags := 9, code := some k17c3 }
/-- java/lang/Math -/
def k17 : Class := { plain "java/lang/Math" (some 0) with
  accessFlags := 49
  interfaces := #[]
  cf := some (fileOf pool17 1 #[.nestMembers #[98]] #[{ accessFlags := 2, nameIndex := 7, descriptorIndex := 8, attributes := #[] }, { accessFlags := 9, nameIndex := 393, descriptorIndex := 335, attributes := #[] }, { accessFlags := 9, nameIndex := 120, descriptorIndex := 335, attributes := #[] }, { accessFlags := 9, nameIndex := 201, descriptorIndex := 335, attributes := #[] }] 49 4 #[] #[{ accessFlags := 25, nameIndex := 354, descriptorIndex := 339, attributes := #[] }, { accessFlags := 25, nameIndex := 358, descriptorIndex := 339, attributes := #[] }, { accessFlags := 25, nameIndex := 361, descriptorIndex := 339, attributes := #[] }, { accessFlags := 26, nameIndex := 364, descriptorIndex := 339, attributes := #[] }, { accessFlags := 26, nameIndex := 365, descriptorIndex := 339, attributes := #[] }, { accessFlags := 26, nameIndex := 172, descriptorIndex := 173, attributes := #[] }, { accessFlags := 26, nameIndex := 176, descriptorIndex := 173, attributes := #[] }, { accessFlags := 8, nameIndex := 344, descriptorIndex := 339, attributes := #[] }, { accessFlags := 8, nameIndex := 338, descriptorIndex := 339, attributes := #[] }, { accessFlags := 4120, nameIndex := 245, descriptorIndex := 246, attributes := #[] }])
  fields := #[{ name := "E", type := .double, accessFlags := 25, slot := 0, constantValue := 0 }, { name := "PI", type := .double, accessFlags := 25, slot := 1, constantValue := 0 }, { name := "TAU", type := .double, accessFlags := 25, slot := 2, constantValue := 0 }, { name := "DEGREES_TO_RADIANS", type := .double, accessFlags := 26, slot := 3, constantValue := 0 }, { name := "RADIANS_TO_DEGREES", type := .double, accessFlags := 26, slot := 4, constantValue := 0 }, { name := "negativeZeroFloatBits", type := .long, accessFlags := 26, slot := 5, constantValue := 0 }, { name := "negativeZeroDoubleBits", type := .long, accessFlags := 26, slot := 6, constantValue := 0 }, { name := "twoToTheDoubleScaleUp", type := .double, accessFlags := 8, slot := 7, constantValue := 0 }, { name := "twoToTheDoubleScaleDown", type := .double, accessFlags := 8, slot := 8, constantValue := 0 }, { name := "$assertionsDisabled", type := .boolean, accessFlags := 4120, slot := 9, constantValue := 0 }]
  methods := #[k17m0, k17m1, k17m2, k17m3]
  instanceTypes := #[]
  staticTypes := #[.double, .double, .double, .double, .double, .long, .long, .double, .double, .boolean]
  resolved := Array.replicate 460 none
  statics := none }

def pool18 : Array CpInfo := pool [(2, .class_ 4), (1, u "java/lang/Object"), (0, u "<init>"), (0, u "()V"), (14, .class_ 23), (1, u "java/nio/charset/StandardCharsets"), (0, u "US_ASCII"), (0, u "Ljava/nio/charset/Charset;"), (7, u "ISO_8859_1"), (7, u "UTF_8"), (5, u "UTF_16BE"), (5, u "UTF_16LE"), (5, u "UTF_16")] 8

def k18m0 : Method := { name := "<init>", desc := "()V", sig := { parameters := [], returnType := none }, accessFlags := 2, code := none }
/-- java/nio/charset/StandardCharsets -/
def k18 : Class := { plain "java/nio/charset/StandardCharsets" (some 0) with
  accessFlags := 49
  interfaces := #[]
  cf := some (fileOf pool18 21 #[] #[{ accessFlags := 2, nameIndex := 5, descriptorIndex := 6, attributes := #[] }] 49 2 #[] #[{ accessFlags := 25, nameIndex := 24, descriptorIndex := 25, attributes := #[] }, { accessFlags := 25, nameIndex := 33, descriptorIndex := 25, attributes := #[] }, { accessFlags := 25, nameIndex := 41, descriptorIndex := 25, attributes := #[] }, { accessFlags := 25, nameIndex := 47, descriptorIndex := 25, attributes := #[] }, { accessFlags := 25, nameIndex := 53, descriptorIndex := 25, attributes := #[] }, { accessFlags := 25, nameIndex := 59, descriptorIndex := 25, attributes := #[] }])
  fields := #[{ name := "US_ASCII", type := (.object "java/nio/charset/Charset"), accessFlags := 25, slot := 0, constantValue := 0 }, { name := "ISO_8859_1", type := (.object "java/nio/charset/Charset"), accessFlags := 25, slot := 1, constantValue := 0 }, { name := "UTF_8", type := (.object "java/nio/charset/Charset"), accessFlags := 25, slot := 2, constantValue := 0 }, { name := "UTF_16BE", type := (.object "java/nio/charset/Charset"), accessFlags := 25, slot := 3, constantValue := 0 }, { name := "UTF_16LE", type := (.object "java/nio/charset/Charset"), accessFlags := 25, slot := 4, constantValue := 0 }, { name := "UTF_16", type := (.object "java/nio/charset/Charset"), accessFlags := 25, slot := 5, constantValue := 0 }]
  methods := #[k18m0]
  instanceTypes := #[]
  staticTypes := #[(.object "java/nio/charset/Charset"), (.object "java/nio/charset/Charset"), (.object "java/nio/charset/Charset"), (.object "java/nio/charset/Charset"), (.object "java/nio/charset/Charset"), (.object "java/nio/charset/Charset")]
  resolved := Array.replicate 68 none
  statics := some 2 }

def pool19 : Array CpInfo := pool [(18, .class_ 20), (1, u "java/nio/charset/Charset"), (0, u "cache1"), (0, u "[Ljava/lang/Object;"), (2, u "cache2"), (0, .class_ 27), (0, u "java/lang/Object"), (0, .class_ 29), (0, u "java/nio/charset/Charset$1"), (4, .class_ 36), (1, u "java/nio/charset/Charset$ThreadTrackHolder"), (21, .class_ 59), (0, u "java/nio/charset/Charset$2"), (11, .class_ 73), (1, u "java/nio/charset/Charset$ExtendedProviderHolder"), (22, u "standardProvider"), (0, u "Ljava/nio/charset/spi/CharsetProvider;"), (29, u "name"), (7, .class_ 136), (0, u "java/nio/charset/Charset$3"), (5, u "defaultCharset"), (0, u "Ljava/nio/charset/Charset;"), (14, u "zeroAliases"), (0, u "[Ljava/lang/String;"), (29, u "Ljava/lang/String;"), (2, u "aliases"), (2, u "aliasSet"), (0, u "Ljava/util/Set;"), (82, .class_ 280), (0, u "java/lang/Comparable"), (84, .class_ 366), (0, u "java/nio/charset/Charset$ExtendedProviderHolder$1")] 3

/-- java/nio/charset/Charset -/
def k19 : Class := { plain "java/nio/charset/Charset" (some 0) with
  accessFlags := 1057
  interfaces := #[3]
  cf := some (fileOf pool19 18 #[.nestMembers #[71, 365, 34, 135, 58, 28]] #[] 1057 26 #[279] #[{ accessFlags := 26, nameIndex := 96, descriptorIndex := 97, attributes := #[] }, { accessFlags := 26, nameIndex := 158, descriptorIndex := 159, attributes := #[] }, { accessFlags := 74, nameIndex := 21, descriptorIndex := 22, attributes := #[] }, { accessFlags := 74, nameIndex := 25, descriptorIndex := 22, attributes := #[] }, { accessFlags := 10, nameIndex := 142, descriptorIndex := 143, attributes := #[] }, { accessFlags := 18, nameIndex := 127, descriptorIndex := 189, attributes := #[] }, { accessFlags := 18, nameIndex := 192, descriptorIndex := 159, attributes := #[] }, { accessFlags := 2, nameIndex := 195, descriptorIndex := 196, attributes := #[] }])
  fields := #[{ name := "standardProvider", type := (.object "java/nio/charset/spi/CharsetProvider"), accessFlags := 26, slot := 0, constantValue := 0 }, { name := "zeroAliases", type := (.array (.object "java/lang/String")), accessFlags := 26, slot := 1, constantValue := 0 }, { name := "cache1", type := (.array (.object "java/lang/Object")), accessFlags := 74, slot := 2, constantValue := 0 }, { name := "cache2", type := (.array (.object "java/lang/Object")), accessFlags := 74, slot := 3, constantValue := 0 }, { name := "defaultCharset", type := (.object "java/nio/charset/Charset"), accessFlags := 10, slot := 4, constantValue := 0 }, { name := "name", type := (.object "java/lang/String"), accessFlags := 18, slot := 0, constantValue := 0 }, { name := "aliases", type := (.array (.object "java/lang/String")), accessFlags := 18, slot := 1, constantValue := 0 }, { name := "aliasSet", type := (.object "java/util/Set"), accessFlags := 2, slot := 2, constantValue := 0 }]
  methods := #[]
  instanceTypes := #[(.object "java/lang/String"), (.array (.object "java/lang/String")), (.object "java/util/Set")]
  staticTypes := #[(.object "java/nio/charset/spi/CharsetProvider"), (.array (.object "java/lang/String")), (.array (.object "java/lang/Object")), (.array (.object "java/lang/Object")), (.object "java/nio/charset/Charset")]
  resolved := Array.replicate 370 none
  statics := none }

def pool20 : Array CpInfo := pool [(1, .class_ 2), (0, u "sun/nio/cs/HistoricallyNamedCharset"), (0, .class_ 4), (0, u "java/lang/Object")] 4

/-- sun/nio/cs/HistoricallyNamedCharset -/
def k20 : Class := { plain "sun/nio/cs/HistoricallyNamedCharset" (some 0) with
  accessFlags := 1537
  interfaces := #[]
  cf := some (fileOf pool20 1 #[] #[] 1537 3 #[] #[])
  fields := #[]
  methods := #[]
  instanceTypes := #[]
  staticTypes := #[]
  resolved := Array.replicate 9 none
  statics := none }

def pool21 : Array CpInfo := pool [(2, .class_ 4), (1, u "java/nio/charset/Charset"), (130, .class_ 136), (0, u "sun/nio/cs/Unicode"), (0, .class_ 138), (0, u "sun/nio/cs/HistoricallyNamedCharset")] 15

/-- sun/nio/cs/Unicode -/
def k21 : Class := { plain "sun/nio/cs/Unicode" (some 19) with
  accessFlags := 1056
  interfaces := #[20]
  cf := some (fileOf pool21 135 #[] #[] 1056 2 #[137] #[])
  fields := #[]
  methods := #[]
  instanceTypes := #[(.object "java/lang/String"), (.array (.object "java/lang/String")), (.object "java/util/Set")]
  staticTypes := #[]
  resolved := Array.replicate 154 none
  statics := none }

def pool22 : Array CpInfo := pool [(10, .class_ 12), (1, u "sun/nio/cs/Unicode"), (0, u "<init>"), (3, .class_ 18), (0, u "sun/nio/cs/UTF_8$Decoder"), (3, .class_ 23), (0, u "sun/nio/cs/UTF_8$Encoder"), (15, .class_ 40), (0, u "sun/nio/cs/UTF_8"), (2, u "()V"), (2, u "INSTANCE"), (0, u "Lsun/nio/cs/UTF_8;"), (8, u "JLA"), (0, u "Ljdk/internal/access/JavaLangAccess;")] 26

def k22m0 : Method := { name := "<init>", desc := "()V", sig := { parameters := [], returnType := none }, accessFlags := 1, code := none }
/-- sun/nio/cs/UTF_8 -/
def k22 : Class := { plain "sun/nio/cs/UTF_8" (some 21) with
  accessFlags := 49
  interfaces := #[]
  cf := some (fileOf pool22 39 #[.nestMembers #[22, 17]] #[{ accessFlags := 1, nameIndex := 13, descriptorIndex := 43, attributes := #[] }] 49 10 #[] #[{ accessFlags := 25, nameIndex := 46, descriptorIndex := 47, attributes := #[] }, { accessFlags := 26, nameIndex := 56, descriptorIndex := 57, attributes := #[] }])
  fields := #[{ name := "INSTANCE", type := (.object "sun/nio/cs/UTF_8"), accessFlags := 25, slot := 0, constantValue := 0 }, { name := "JLA", type := (.object "jdk/internal/access/JavaLangAccess"), accessFlags := 26, slot := 1, constantValue := 0 }]
  methods := #[k22m0]
  instanceTypes := #[(.object "java/lang/String"), (.array (.object "java/lang/String")), (.object "java/util/Set")]
  staticTypes := #[(.object "sun/nio/cs/UTF_8"), (.object "jdk/internal/access/JavaLangAccess")]
  resolved := Array.replicate 84 none
  statics := some 3 }

def pool23 : Array CpInfo := pool [(2, .class_ 4), (1, u "java/lang/Object"), (0, u "<init>"), (0, u "()V"), (0, .methodref 8 9), (0, .class_ 10), (0, .nameAndType 11 12), (0, u "java/lang/StringCoding"), (0, u "countPositives"), (0, u "([BII)I"), (11, u "hasNegatives"), (0, u "([BII)Z")] 23

def k23m0 : Method := { name := "<init>", desc := "()V", sig := { parameters := [], returnType := none }, accessFlags := 2, code := none }
def k23c1 : Code := { maxStack := 3, maxLocals := 3, code := jdk_123_method_2_code, exceptionTable := #[], attributes := #[] }
def k23m1 : Method := { name := "hasNegatives", desc := "([BII)Z", sig := { parameters := [(.array .byte), .int, .int], returnType := some .boolean }, accessFlags := 9, code := some k23c1 }
def k23c2 : Code := { maxStack := 2, maxLocals := 5, code := jdk_123_method_3_code, exceptionTable := #[], attributes := #[] }
def k23m2 : Method := { name := "countPositives", desc := "([BII)I", sig := { parameters := [(.array .byte), .int, .int], returnType := some .int }, accessFlags := 9, code := some k23c2 }
/-- java/lang/StringCoding -/
def k23 : Class := { plain "java/lang/StringCoding" (some 0) with
  accessFlags := 32
  interfaces := #[]
  cf := some (fileOf pool23 8 #[] #[{ accessFlags := 2, nameIndex := 5, descriptorIndex := 6, attributes := #[] }, { accessFlags := 9, nameIndex := 24, descriptorIndex := 25, attributes := #[] }, { accessFlags := 9, nameIndex := 11, descriptorIndex := 12, attributes := #[] }] 32 2 #[] #[])
  fields := #[]
  methods := #[k23m0, k23m1, k23m2]
  instanceTypes := #[]
  staticTypes := #[]
  resolved := Array.replicate 49 none
  statics := none }

def pool24 : Array CpInfo := pool [(1, .class_ 2), (0, u "java/lang/Cloneable"), (0, .class_ 4), (0, u "java/lang/Object")] 2

/-- java/lang/Cloneable -/
def k24 : Class := { plain "java/lang/Cloneable" (some 0) with
  accessFlags := 1537
  interfaces := #[]
  cf := some (fileOf pool24 1 #[] #[] 1537 3 #[] #[])
  fields := #[]
  methods := #[]
  instanceTypes := #[]
  staticTypes := #[]
  resolved := Array.replicate 7 none
  statics := none }

def pool25 : Array CpInfo := pool [(2, .class_ 4), (1, u "java/lang/Object"), (0, u "<init>"), (0, u "()V"), (17, .class_ 26), (1, u "jdk/internal/util/Preconditions"), (6, u "checkIndex"), (15, u "checkFromIndexSize"), (5, .class_ 56), (0, u "jdk/internal/util/Preconditions$4"), (57, .class_ 115), (0, u "jdk/internal/util/Preconditions$1"), (7, u "SIOOBE_FORMATTER"), (0, u "Ljava/util/function/BiFunction;"), (0, .class_ 126), (0, u "jdk/internal/util/Preconditions$2"), (3, u "AIOOBE_FORMATTER"), (0, .class_ 132), (0, u "jdk/internal/util/Preconditions$3"), (3, u "IOOBE_FORMATTER"), (41, u "(IILjava/util/function/BiFunction;)I"), (4, u "(IIILjava/util/function/BiFunction;)I")] 10

def k25m0 : Method := { name := "<init>", desc := "()V", sig := { parameters := [], returnType := none }, accessFlags := 1, code := none }
def k25c1 : Code := { maxStack := 3, maxLocals := 3, code := jdk_41_method_11_code, exceptionTable := #[], attributes := #[] }
def k25m1 : Method := { name := "checkIndex", desc := "(IILjava/util/function/BiFunction;)I", sig := { parameters := [.int, .int, (.object "java/util/function/BiFunction")], returnType := some .int }, accessFlags := 9, code := some k25c1 }
def k25c2 : Code := { maxStack := 4, maxLocals := 4, code := jdk_41_method_13_code, exceptionTable := #[], attributes := #[] }
def k25m2 : Method := { name := "checkFromIndexSize", desc := "(IIILjava/util/function/BiFunction;)I", sig := { parameters := [.int, .int, .int, (.object "java/util/function/BiFunction")], returnType := some .int }, accessFlags := 9, code := some k25c2 }
/-- jdk/internal/util/Preconditions -/
def k25 : Class := { plain "jdk/internal/util/Preconditions" (some 0) with
  accessFlags := 33
  interfaces := #[]
  cf := some (fileOf pool25 24 #[.nestMembers #[55, 131, 125, 114]] #[{ accessFlags := 1, nameIndex := 5, descriptorIndex := 6, attributes := #[] }, { accessFlags := 9, nameIndex := 33, descriptorIndex := 178, attributes := #[] }, { accessFlags := 9, nameIndex := 49, descriptorIndex := 183, attributes := #[] }] 33 2 #[] #[{ accessFlags := 25, nameIndex := 123, descriptorIndex := 124, attributes := #[] }, { accessFlags := 25, nameIndex := 130, descriptorIndex := 124, attributes := #[] }, { accessFlags := 25, nameIndex := 136, descriptorIndex := 124, attributes := #[] }])
  fields := #[{ name := "SIOOBE_FORMATTER", type := (.object "java/util/function/BiFunction"), accessFlags := 25, slot := 0, constantValue := 0 }, { name := "AIOOBE_FORMATTER", type := (.object "java/util/function/BiFunction"), accessFlags := 25, slot := 1, constantValue := 0 }, { name := "IOOBE_FORMATTER", type := (.object "java/util/function/BiFunction"), accessFlags := 25, slot := 2, constantValue := 0 }]
  methods := #[k25m0, k25m1, k25m2]
  instanceTypes := #[]
  staticTypes := #[(.object "java/util/function/BiFunction"), (.object "java/util/function/BiFunction"), (.object "java/util/function/BiFunction")]
  resolved := Array.replicate 194 none
  statics := some 4 }

def pool26 : Array CpInfo := pool [(1, .class_ 2), (0, u "java/lang/String"), (1, .class_ 6), (1, u "java/lang/Object"), (0, u "<init>"), (0, u "()V"), (0, .methodref 1 10), (0, .nameAndType 11 12), (0, u "checkIndex"), (0, u "(II)V"), (1, .class_ 16), (1, u "java/lang/StringLatin1"), (36, u "([BI)C"), (36, u "canEncode"), (14, u "(C)Z"), (15, u "$assertionsDisabled"), (0, u "Z"), (98, .class_ 223), (1, u "java/lang/StringLatin1$LinesSpliterator"), (28, u "charAt"), (127, u "toBytes"), (1, u "(C)[B"), (7, .class_ 391), (0, u "java/lang/StringLatin1$CharsSpliterator")] 3

def k26m0 : Method := { name := "<init>", desc := "()V", sig := { parameters := [], returnType := none }, accessFlags := 0, code := none }
def k26c1 : Code := { maxStack := 2, maxLocals := 2, code := jdk_43_method_2_code, exceptionTable := #[], attributes := #[] }
def k26m1 : Method := { name := "charAt", desc := "([BI)C", sig := { parameters := [(.array .byte), .int], returnType := some .char }, accessFlags := 9, code := some k26c1 }
def k26c2 : Code := { maxStack := 2, maxLocals := 1, code := jdk_43_method_3_code, exceptionTable := #[], attributes := #[] }
def k26m2 : Method := { name := "canEncode", desc := "(C)Z", sig := { parameters := [.char], returnType := some .boolean }, accessFlags := 9, code := some k26c2 }
def k26c3 : Code := { maxStack := 4, maxLocals := 1, code := jdk_43_method_46_code, exceptionTable := #[], attributes := #[] }
def k26m3 : Method := { name := "toBytes", desc := "(C)[B", sig := { parameters := [.char], returnType := some (.array .byte) }, accessFlags := 9, code := some k26c3 }
/-- java/lang/StringLatin1 -/
def k26 : Class := { plain "java/lang/StringLatin1" (some 0) with
  accessFlags := 48
  interfaces := #[]
  cf := some (fileOf pool26 14 #[.nestMembers #[390, 221]] #[{ accessFlags := 0, nameIndex := 7, descriptorIndex := 8, attributes := #[] }, { accessFlags := 9, nameIndex := 252, descriptorIndex := 53, attributes := #[] }, { accessFlags := 9, nameIndex := 90, descriptorIndex := 105, attributes := #[] }, { accessFlags := 9, nameIndex := 380, descriptorIndex := 382, attributes := #[] }] 48 4 #[] #[{ accessFlags := 4120, nameIndex := 121, descriptorIndex := 122, attributes := #[] }])
  fields := #[{ name := "$assertionsDisabled", type := .boolean, accessFlags := 4120, slot := 0, constantValue := 0 }]
  methods := #[k26m0, k26m1, k26m2, k26m3]
  instanceTypes := #[]
  staticTypes := #[.boolean]
  resolved := Array.replicate 395 none
  statics := none }

def pool27 : Array CpInfo := pool [(9, u "<init>"), (6, .class_ 18), (1, u "java/lang/Object"), (0, u "()V"), (1, .class_ 23), (1, u "jdk/internal/util/ArraysSupport"), (0, u "LOG2_ARRAY_LONG_INDEX_SCALE"), (0, u "I"), (2, u "U"), (0, u "Ljdk/internal/misc/Unsafe;"), (8, u "BIG_ENDIAN"), (0, u "Z"), (8, u "LOG2_BYTE_BIT_SIZE"), (4, u "LOG2_ARRAY_INT_INDEX_SCALE"), (54, u "JLA"), (0, u "Ljdk/internal/access/JavaLangAccess;"), (11, u "LOG2_ARRAY_BOOLEAN_INDEX_SCALE"), (9, u "LOG2_ARRAY_BYTE_INDEX_SCALE"), (5, u "LOG2_ARRAY_CHAR_INDEX_SCALE"), (5, u "LOG2_ARRAY_SHORT_INDEX_SCALE"), (18, u "LOG2_ARRAY_FLOAT_INDEX_SCALE"), (24, u "LOG2_ARRAY_DOUBLE_INDEX_SCALE"), (89, u "T_BOOLEAN"), (2, u "T_CHAR"), (1, u "T_FLOAT"), (1, u "T_DOUBLE"), (1, u "T_BYTE"), (1, u "T_SHORT"), (1, u "T_INT"), (1, u "T_LONG"), (1, u "SOFT_MAX_ARRAY_LENGTH")] 83

def k27m0 : Method := { name := "<init>", desc := "()V", sig := { parameters := [], returnType := none }, accessFlags := 2, code := none }
/-- jdk/internal/util/ArraysSupport -/
def k27 : Class := { plain "jdk/internal/util/ArraysSupport" (some 0) with
  accessFlags := 33
  interfaces := #[]
  cf := some (fileOf pool27 21 #[] #[{ accessFlags := 2, nameIndex := 9, descriptorIndex := 19, attributes := #[] }] 33 16 #[] #[{ accessFlags := 24, nameIndex := 28, descriptorIndex := 29, attributes := #[] }, { accessFlags := 26, nameIndex := 38, descriptorIndex := 39, attributes := #[] }, { accessFlags := 25, nameIndex := 121, descriptorIndex := 25, attributes := #[] }, { accessFlags := 25, nameIndex := 131, descriptorIndex := 25, attributes := #[] }, { accessFlags := 25, nameIndex := 137, descriptorIndex := 25, attributes := #[] }, { accessFlags := 25, nameIndex := 143, descriptorIndex := 25, attributes := #[] }, { accessFlags := 25, nameIndex := 53, descriptorIndex := 25, attributes := #[] }, { accessFlags := 25, nameIndex := 24, descriptorIndex := 25, attributes := #[] }, { accessFlags := 25, nameIndex := 162, descriptorIndex := 25, attributes := #[] }, { accessFlags := 25, nameIndex := 187, descriptorIndex := 25, attributes := #[] }, { accessFlags := 26, nameIndex := 48, descriptorIndex := 25, attributes := #[] }, { accessFlags := 25, nameIndex := 277, descriptorIndex := 25, attributes := #[] }, { accessFlags := 25, nameIndex := 280, descriptorIndex := 25, attributes := #[] }, { accessFlags := 25, nameIndex := 282, descriptorIndex := 25, attributes := #[] }, { accessFlags := 25, nameIndex := 284, descriptorIndex := 25, attributes := #[] }, { accessFlags := 25, nameIndex := 286, descriptorIndex := 25, attributes := #[] }, { accessFlags := 25, nameIndex := 288, descriptorIndex := 25, attributes := #[] }, { accessFlags := 25, nameIndex := 290, descriptorIndex := 25, attributes := #[] }, { accessFlags := 25, nameIndex := 292, descriptorIndex := 25, attributes := #[] }, { accessFlags := 26, nameIndex := 108, descriptorIndex := 109, attributes := #[] }, { accessFlags := 25, nameIndex := 294, descriptorIndex := 25, attributes := #[] }])
  fields := #[{ name := "U", type := (.object "jdk/internal/misc/Unsafe"), accessFlags := 24, slot := 0, constantValue := 0 }, { name := "BIG_ENDIAN", type := .boolean, accessFlags := 26, slot := 1, constantValue := 0 }, { name := "LOG2_ARRAY_BOOLEAN_INDEX_SCALE", type := .int, accessFlags := 25, slot := 2, constantValue := 0 }, { name := "LOG2_ARRAY_BYTE_INDEX_SCALE", type := .int, accessFlags := 25, slot := 3, constantValue := 0 }, { name := "LOG2_ARRAY_CHAR_INDEX_SCALE", type := .int, accessFlags := 25, slot := 4, constantValue := 0 }, { name := "LOG2_ARRAY_SHORT_INDEX_SCALE", type := .int, accessFlags := 25, slot := 5, constantValue := 0 }, { name := "LOG2_ARRAY_INT_INDEX_SCALE", type := .int, accessFlags := 25, slot := 6, constantValue := 0 }, { name := "LOG2_ARRAY_LONG_INDEX_SCALE", type := .int, accessFlags := 25, slot := 7, constantValue := 0 }, { name := "LOG2_ARRAY_FLOAT_INDEX_SCALE", type := .int, accessFlags := 25, slot := 8, constantValue := 0 }, { name := "LOG2_ARRAY_DOUBLE_INDEX_SCALE", type := .int, accessFlags := 25, slot := 9, constantValue := 0 }, { name := "LOG2_BYTE_BIT_SIZE", type := .int, accessFlags := 26, slot := 10, constantValue := 0 }, { name := "T_BOOLEAN", type := .int, accessFlags := 25, slot := 11, constantValue := 0 }, { name := "T_CHAR", type := .int, accessFlags := 25, slot := 12, constantValue := 0 }, { name := "T_FLOAT", type := .int, accessFlags := 25, slot := 13, constantValue := 0 }, { name := "T_DOUBLE", type := .int, accessFlags := 25, slot := 14, constantValue := 0 }, { name := "T_BYTE", type := .int, accessFlags := 25, slot := 15, constantValue := 0 }, { name := "T_SHORT", type := .int, accessFlags := 25, slot := 16, constantValue := 0 }, { name := "T_INT", type := .int, accessFlags := 25, slot := 17, constantValue := 0 }, { name := "T_LONG", type := .int, accessFlags := 25, slot := 18, constantValue := 0 }, { name := "JLA", type := (.object "jdk/internal/access/JavaLangAccess"), accessFlags := 26, slot := 19, constantValue := 0 }, { name := "SOFT_MAX_ARRAY_LENGTH", type := .int, accessFlags := 25, slot := 20, constantValue := 0 }]
  methods := #[k27m0]
  instanceTypes := #[]
  staticTypes := #[(.object "jdk/internal/misc/Unsafe"), .boolean, .int, .int, .int, .int, .int, .int, .int, .int, .int, .int, .int, .int, .int, .int, .int, .int, .int, (.object "jdk/internal/access/JavaLangAccess"), .int]
  resolved := Array.replicate 378 none
  statics := none }

/-- the primitive byte -/
def k28 : Class := { plain "byte" none with kind := .primitive 'B', accessFlags := 0x411 }
/-- [B -/
def k29 : Class := { plain "[B" (some 0) with kind := .array 28 .byte, interfaces := #[24, 2], accessFlags := 1041 }

/-- the primitive char -/
def k30 : Class := { plain "char" none with kind := .primitive 'C', accessFlags := 0x411 }
/-- [C -/
def k31 : Class := { plain "[C" (some 0) with kind := .array 30 .char, interfaces := #[24, 2], accessFlags := 1041 }

/-- the primitive int -/
def k32 : Class := { plain "int" none with kind := .primitive 'I', accessFlags := 0x411 }
/-- [I -/
def k33 : Class := { plain "[I" (some 0) with kind := .array 32 .int, interfaces := #[24, 2], accessFlags := 1041 }

def heap : Heap := #[{ cls := 7, slots := #[.long 0, .int 1, .null, .int 0, .null, .int 0, .int 0], vm := .statics 7 },
  { cls := 11, slots := #[.ref 7, .null, .int 0, .null, .ref 5, .null, .null], vm := .statics 11 },
  { cls := 18, slots := #[.null, .null, .ref 6, .null, .null, .null], vm := .statics 18 },
  { cls := 22, slots := #[.ref 6, .null], vm := .statics 22 },
  { cls := 25, slots := #[.null, .null, .null], vm := .statics 25 },
  { cls := 11, slots := #[.null, .int (-1), .int 0, .int 1], vm := .none },
  { cls := 22, slots := #[.null, .null, .null], vm := .none },
  { cls := 31, slots := #[.int 65, .int 66, .int 67, .int 68, .int 69, .int 70, .int 71, .int 72, .int 73, .int 74, .int 75, .int 76, .int 77, .int 78, .int 79, .int 80, .int 81, .int 82, .int 83, .int 84, .int 85, .int 86, .int 87, .int 88, .int 89, .int 90, .int 97, .int 98, .int 99, .int 100, .int 101, .int 102, .int 103, .int 104, .int 105, .int 106, .int 107, .int 108, .int 109, .int 110, .int 111, .int 112, .int 113, .int 114, .int 115, .int 116, .int 117, .int 118, .int 119, .int 120, .int 121, .int 122, .int 48, .int 49, .int 50, .int 51, .int 52, .int 53, .int 54, .int 55, .int 56, .int 57, .int 43, .int 47], vm := .none }]
def classes : Array Class := #[k0, k1, k2, k3, k4, k5, k6, k7, k8, k9, k10, k11, k12, k13, k14, k15, k16, k17, k18, k19, k20, k21, k22, k23, k24, k25, k26, k27, k28, k29, k30, k31, k32, k33]
def interned : List (Array UInt16 × Addr) := []
def slotsUsed : Nat := 96
def theMethod : MethodId := ⟨1, 1⟩
def args0 : Array Value := #[.int 233, .int 65, .int 257]
def aboutOver (below : List Frame) : State where
  vm := { classes := classes, interned := interned.toArray }
  heap := heap
  slotsUsed := slotsUsed
  threads := #[{ frames := .invoking theMethod args0 :: below }]
def below0 : List Frame := [.native { method := ⟨0, 0⟩, args := #[] }]
def about1 : State := aboutOver below0
def p0 : Program := .bare "" "" ""
def e0 : Env := launch0.env 0 0 0
theorem w_frames : about1.frames = Frame.invoking theMethod args0 :: below0 := rfl
set_option maxRecDepth 65536 in
theorem w_args : argsFit about1.vm theMethod args0 = true := by decide +kernel
set_option maxRecDepth 65536 in
theorem w_heap : heapFits about1 = true := by decide +kernel
set_option maxRecDepth 65536 in
theorem w_runnable : about1.curStatus? = some .runnable := by decide +kernel
set_option maxRecDepth 65536 in
theorem w_alone : about1.alone = true := by decide +kernel
set_option maxRecDepth 65536 in
theorem w_named : about1.methodNamed? x = some theMethod := by decide +kernel
set_option maxRecDepth 65536 in
theorem w_hears : about1.hears theMethod below0 = true := by decide +kernel
set_option maxRecDepth 65536 in
theorem w_ripe : about1.ripe theMethod args0 below0 = true := by decide +kernel
theorem w_running : about1.status = .running := rfl
set_option maxRecDepth 65536 in
theorem w_room : about1.hasRoom e0.platform room_1 = true :=
  launch0.hasRoom_least _ room_1 (by decide +kernel) (by decide +kernel) (by decide +kernel) (by decide +kernel) (by decide +kernel) (by decide +kernel)
theorem allAtoms_all (ts : List Jvm.Cond) (a : Array Jvm.Value) (st : Jvm.State) : (allAtoms ts).before a st = ts.all (fun c => c.before a st) := by
  induction ts with
  | nil => rfl
  | cons c t ih =>
    show (Jvm.Cond.and c (allAtoms t)).before a st = _
    rw [Jvm.Cond.before_and, ih, List.all_cons]
def words1 : List Jvm.Cond := Jvm.Cond.code x code maxLocals ret :: tables_1
/-- a 'code' word, met by the world's own term for the bytes: nothing is compared byte by byte -/
theorem code_word {y : MethodName} {bytes : ByteArray} {mx : Nat} {rt : Option FieldType} {a : Array Value} {s : State} {m : MethodId} {meth : Method} {c : Code} (h1 : s.methodNamed? y = some m) (h2 : s.vm.method? m = some meth) (h3 : meth.code = some c) (h4 : c.code = bytes)
    (h5 : (c.maxLocals == mx && c.exceptionTable.isEmpty && decide (c.maxStack ≤ mostOperands) && decide (meth.sig.returnType = rt) && !meth.locks && decide (parseMethodDescriptor y.desc = some meth.sig)) = true) : (Jvm.Cond.code y bytes mx rt).before a s = true := by
  simp only [Bool.and_eq_true, beq_iff_eq, Bool.not_eq_true', decide_eq_true_eq] at h5
  obtain ⟨⟨⟨⟨⟨g1, g2⟩, g3⟩, g4⟩, g5⟩, g6⟩ := h5
  simp [Cond.before, Cond.holds, Cond.value, h1, h2, h3, h4, g1, g2, g3, g4, g5, g6]
def isCode : Jvm.Cond → Bool
  | .code _ _ _ _ => true
  | _ => false
theorem all_split {L : List Jvm.Cond} {P : Jvm.Cond → Bool} (h1 : L.all (fun c => isCode c || P c) = true) (h2 : ∀ c ∈ L.filter isCode, P c = true) : L.all P = true := by
  refine List.all_eq_true.mpr fun c hc => ?_
  have h := List.all_eq_true.mp h1 c hc
  rcases Bool.eq_false_or_eq_true (isCode c) with hi | hi
  · exact h2 c (List.mem_filter.mpr ⟨hc, hi⟩)
  · simpa [hi] using h
set_option maxRecDepth 65536 in
theorem w_c0 : (Jvm.Cond.code x code maxLocals ret).before args0 about1 = true := code_word (m := ⟨1, 1⟩) (meth := k1m1) (c := k1c1) (by decide +kernel) rfl rfl rfl (by decide +kernel)
set_option maxRecDepth 65536 in
theorem w_c1 : (Jvm.Cond.code ({ cls := "com/example/exact_rest/exactrest/NodeIdsOfPinLaw", name := "str", desc := "(CCI)Ljava/lang/String;" } : Jvm.MethodName) method_3_code (3 : Nat) (Option.some (Jvm.ClassFile.FieldType.object "java/lang/String"))).before args0 about1 = true := code_word (m := ⟨1, 2⟩) (meth := k1m2) (c := k1c2) (by decide +kernel) rfl rfl rfl (by decide +kernel)
set_option maxRecDepth 65536 in
theorem w_c2 : (Jvm.Cond.code ({ cls := "java/lang/String", name := "<init>", desc := "([C)V" } : Jvm.MethodName) jdk_42_method_3_code (2 : Nat) (Option.none : Option Jvm.ClassFile.FieldType)).before args0 about1 = true := code_word (m := ⟨7, 1⟩) (meth := k7m1) (c := k7c1) (by decide +kernel) rfl rfl rfl (by decide +kernel)
set_option maxRecDepth 65536 in
theorem w_c3 : (Jvm.Cond.code ({ cls := "java/lang/String", name := "<init>", desc := "([CIILjava/lang/Void;)V" } : Jvm.MethodName) jdk_42_method_149_code (6 : Nat) (Option.none : Option Jvm.ClassFile.FieldType)).before args0 about1 = true := code_word (m := ⟨7, 11⟩) (meth := k7m11) (c := k7c11) (by decide +kernel) rfl rfl rfl (by decide +kernel)
set_option maxRecDepth 65536 in
theorem w_c4 : (Jvm.Cond.code ({ cls := "java/lang/Object", name := "<init>", desc := "()V" } : Jvm.MethodName) object_method_1_code (1 : Nat) (Option.none : Option Jvm.ClassFile.FieldType)).before args0 about1 = true := code_word (m := ⟨0, 0⟩) (meth := k0m0) (c := k0c0) (by decide +kernel) rfl rfl rfl (by decide +kernel)
set_option maxRecDepth 65536 in
theorem w_c5 : (Jvm.Cond.code ({ cls := "java/lang/StringUTF16", name := "compress", desc := "([CII)[B" } : Jvm.MethodName) jdk_52_method_16_code (6 : Nat) (Option.some (Jvm.ClassFile.FieldType.array Jvm.ClassFile.FieldType.byte))).before args0 about1 = true := code_word (m := ⟨8, 4⟩) (meth := k8m4) (c := k8c4) (by decide +kernel) rfl rfl rfl (by decide +kernel)
set_option maxRecDepth 65536 in
theorem w_c6 : (Jvm.Cond.code ({ cls := "java/lang/StringUTF16", name := "compress", desc := "([CI[BII)I" } : Jvm.MethodName) jdk_52_method_21_code (7 : Nat) (Option.some Jvm.ClassFile.FieldType.int)).before args0 about1 = true := code_word (m := ⟨8, 5⟩) (meth := k8m5) (c := k8c5) (by decide +kernel) rfl rfl rfl (by decide +kernel)
set_option maxRecDepth 65536 in
theorem w_c7 : (Jvm.Cond.code ({ cls := "java/lang/StringUTF16", name := "coderFromArrayLen", desc := "([BI)B" } : Jvm.MethodName) jdk_52_method_15_code (2 : Nat) (Option.some Jvm.ClassFile.FieldType.byte)).before args0 about1 = true := code_word (m := ⟨8, 3⟩) (meth := k8m3) (c := k8c3) (by decide +kernel) rfl rfl rfl (by decide +kernel)
set_option maxRecDepth 65536 in
theorem w_c8 : (Jvm.Cond.code ({ cls := "com/example/exact_rest/exactrest/NodeIdsOfPinLaw", name := "put", desc := "([IIC)I" } : Jvm.MethodName) method_4_code (3 : Nat) (Option.some Jvm.ClassFile.FieldType.int)).before args0 about1 = true := code_word (m := ⟨1, 3⟩) (meth := k1m3) (c := k1c3) (by decide +kernel) rfl rfl rfl (by decide +kernel)
set_option maxRecDepth 65536 in
theorem w_c9 : (Jvm.Cond.code ({ cls := "com/example/exact_rest/exactrest/NodeIdsOfPinLaw", name := "group", desc := "([III[CI)I" } : Jvm.MethodName) method_6_code (9 : Nat) (Option.some Jvm.ClassFile.FieldType.int)).before args0 about1 = true := code_word (m := ⟨1, 5⟩) (meth := k1m5) (c := k1c5) (by decide +kernel) rfl rfl rfl (by decide +kernel)
set_option maxRecDepth 65536 in
theorem w_c10 : (Jvm.Cond.code ({ cls := "com/example/exact_rest/exactrest/NodeIdsOfPinLaw", name := "alpha", desc := "(I)C" } : Jvm.MethodName) method_5_code (1 : Nat) (Option.some Jvm.ClassFile.FieldType.char)).before args0 about1 = true := code_word (m := ⟨1, 4⟩) (meth := k1m4) (c := k1c4) (by decide +kernel) rfl rfl rfl (by decide +kernel)
set_option maxRecDepth 65536 in
theorem w_c11 : (Jvm.Cond.code ({ cls := "com/example/exact_rest/exactrest/NodeIds", name := "of", desc := "(Ljava/lang/String;Ljava/lang/String;)Ljava/lang/String;" } : Jvm.MethodName) prog_10_method_2_code (2 : Nat) (Option.some (Jvm.ClassFile.FieldType.object "java/lang/String"))).before args0 about1 = true := code_word (m := ⟨9, 1⟩) (meth := k9m1) (c := k9c1) (by decide +kernel) rfl rfl rfl (by decide +kernel)
set_option maxRecDepth 65536 in
theorem w_c12 : (Jvm.Cond.code ({ cls := "java/util/Base64", name := "getEncoder", desc := "()Ljava/util/Base64$Encoder;" } : Jvm.MethodName) jdk_2448_method_2_code (0 : Nat) (Option.some (Jvm.ClassFile.FieldType.object "java/util/Base64$Encoder"))).before args0 about1 = true := code_word (m := ⟨10, 1⟩) (meth := k10m1) (c := k10c1) (by decide +kernel) rfl rfl rfl (by decide +kernel)
set_option maxRecDepth 65536 in
theorem w_c13 : (Jvm.Cond.code ({ cls := "java/util/Base64$Encoder", name := "withoutPadding", desc := "()Ljava/util/Base64$Encoder;" } : Jvm.MethodName) jdk_2452_method_8_code (1 : Nat) (Option.some (Jvm.ClassFile.FieldType.object "java/util/Base64$Encoder"))).before args0 about1 = true := code_word (m := ⟨11, 4⟩) (meth := k11m4) (c := k11c4) (by decide +kernel) rfl rfl rfl (by decide +kernel)
set_option maxRecDepth 65536 in
theorem w_c14 : (Jvm.Cond.code ({ cls := "java/util/Base64$Encoder", name := "<init>", desc := "(Z[BIZ)V" } : Jvm.MethodName) jdk_2452_method_1_code (5 : Nat) (Option.none : Option Jvm.ClassFile.FieldType)).before args0 about1 = true := code_word (m := ⟨11, 0⟩) (meth := k11m0) (c := k11c0) (by decide +kernel) rfl rfl rfl (by decide +kernel)
set_option maxRecDepth 65536 in
theorem w_c15 : (Jvm.Cond.code ({ cls := "java/lang/StringBuilder", name := "<init>", desc := "()V" } : Jvm.MethodName) jdk_67_method_1_code (1 : Nat) (Option.none : Option Jvm.ClassFile.FieldType)).before args0 about1 = true := code_word (m := ⟨14, 0⟩) (meth := k14m0) (c := k14c0) (by decide +kernel) rfl rfl rfl (by decide +kernel)
set_option maxRecDepth 65536 in
theorem w_c16 : (Jvm.Cond.code ({ cls := "java/lang/AbstractStringBuilder", name := "<init>", desc := "(I)V" } : Jvm.MethodName) jdk_68_method_2_code (2 : Nat) (Option.none : Option Jvm.ClassFile.FieldType)).before args0 about1 = true := code_word (m := ⟨13, 1⟩) (meth := k13m1) (c := k13c1) (by decide +kernel) rfl rfl rfl (by decide +kernel)
set_option maxRecDepth 65536 in
theorem w_c17 : (Jvm.Cond.code ({ cls := "java/lang/StringBuilder", name := "append", desc := "(Ljava/lang/String;)Ljava/lang/StringBuilder;" } : Jvm.MethodName) jdk_67_method_7_code (2 : Nat) (Option.some (Jvm.ClassFile.FieldType.object "java/lang/StringBuilder"))).before args0 about1 = true := code_word (m := ⟨14, 1⟩) (meth := k14m1) (c := k14c1) (by decide +kernel) rfl rfl rfl (by decide +kernel)
set_option maxRecDepth 65536 in
theorem w_c18 : (Jvm.Cond.code ({ cls := "java/lang/AbstractStringBuilder", name := "append", desc := "(Ljava/lang/String;)Ljava/lang/AbstractStringBuilder;" } : Jvm.MethodName) jdk_68_method_22_code (3 : Nat) (Option.some (Jvm.ClassFile.FieldType.object "java/lang/AbstractStringBuilder"))).before args0 about1 = true := code_word (m := ⟨13, 4⟩) (meth := k13m4) (c := k13c4) (by decide +kernel) rfl rfl rfl (by decide +kernel)
set_option maxRecDepth 65536 in
theorem w_c19 : (Jvm.Cond.code ({ cls := "java/lang/String", name := "length", desc := "()I" } : Jvm.MethodName) jdk_42_method_54_code (1 : Nat) (Option.some Jvm.ClassFile.FieldType.int)).before args0 about1 = true := code_word (m := ⟨7, 6⟩) (meth := k7m6) (c := k7c6) (by decide +kernel) rfl rfl rfl (by decide +kernel)
set_option maxRecDepth 65536 in
theorem w_c20 : (Jvm.Cond.code ({ cls := "java/lang/String", name := "coder", desc := "()B" } : Jvm.MethodName) jdk_42_method_152_code (1 : Nat) (Option.some Jvm.ClassFile.FieldType.byte)).before args0 about1 = true := code_word (m := ⟨7, 14⟩) (meth := k7m14) (c := k7c14) (by decide +kernel) rfl rfl rfl (by decide +kernel)
set_option maxRecDepth 65536 in
theorem w_c21 : (Jvm.Cond.code ({ cls := "java/lang/AbstractStringBuilder", name := "ensureCapacityInternal", desc := "(I)V" } : Jvm.MethodName) jdk_68_method_9_code (3 : Nat) (Option.none : Option Jvm.ClassFile.FieldType)).before args0 about1 = true := code_word (m := ⟨13, 3⟩) (meth := k13m3) (c := k13c3) (by decide +kernel) rfl rfl rfl (by decide +kernel)
set_option maxRecDepth 65536 in
theorem w_c22 : (Jvm.Cond.code ({ cls := "java/lang/AbstractStringBuilder", name := "putStringAt", desc := "(ILjava/lang/String;)V" } : Jvm.MethodName) jdk_68_method_73_code (3 : Nat) (Option.none : Option Jvm.ClassFile.FieldType)).before args0 about1 = true := code_word (m := ⟨13, 8⟩) (meth := k13m8) (c := k13c8) (by decide +kernel) rfl rfl rfl (by decide +kernel)
set_option maxRecDepth 65536 in
theorem w_c23 : (Jvm.Cond.code ({ cls := "java/lang/AbstractStringBuilder", name := "inflateIfNeededFor", desc := "(Ljava/lang/String;)V" } : Jvm.MethodName) jdk_68_method_71_code (2 : Nat) (Option.none : Option Jvm.ClassFile.FieldType)).before args0 about1 = true := code_word (m := ⟨13, 7⟩) (meth := k13m7) (c := k13c7) (by decide +kernel) rfl rfl rfl (by decide +kernel)
set_option maxRecDepth 65536 in
theorem w_c24 : (Jvm.Cond.code ({ cls := "java/lang/String", name := "getBytes", desc := "([BIB)V" } : Jvm.MethodName) jdk_42_method_147_code (4 : Nat) (Option.none : Option Jvm.ClassFile.FieldType)).before args0 about1 = true := code_word (m := ⟨7, 10⟩) (meth := k7m10) (c := k7c10) (by decide +kernel) rfl rfl rfl (by decide +kernel)
set_option maxRecDepth 65536 in
theorem w_c25 : (Jvm.Cond.code ({ cls := "java/lang/StringBuilder", name := "toString", desc := "()Ljava/lang/String;" } : Jvm.MethodName) jdk_67_method_42_code (1 : Nat) (Option.some (Jvm.ClassFile.FieldType.object "java/lang/String"))).before args0 about1 = true := code_word (m := ⟨14, 2⟩) (meth := k14m2) (c := k14c2) (by decide +kernel) rfl rfl rfl (by decide +kernel)
set_option maxRecDepth 65536 in
theorem w_c26 : (Jvm.Cond.code ({ cls := "java/lang/String", name := "<init>", desc := "(Ljava/lang/StringBuilder;)V" } : Jvm.MethodName) jdk_42_method_53_code (2 : Nat) (Option.none : Option Jvm.ClassFile.FieldType)).before args0 about1 = true := code_word (m := ⟨7, 5⟩) (meth := k7m5) (c := k7c5) (by decide +kernel) rfl rfl rfl (by decide +kernel)
set_option maxRecDepth 65536 in
theorem w_c27 : (Jvm.Cond.code ({ cls := "java/lang/String", name := "<init>", desc := "(Ljava/lang/AbstractStringBuilder;Ljava/lang/Void;)V" } : Jvm.MethodName) jdk_42_method_150_code (5 : Nat) (Option.none : Option Jvm.ClassFile.FieldType)).before args0 about1 = true := code_word (m := ⟨7, 12⟩) (meth := k7m12) (c := k7c12) (by decide +kernel) rfl rfl rfl (by decide +kernel)
set_option maxRecDepth 65536 in
theorem w_c28 : (Jvm.Cond.code ({ cls := "java/lang/AbstractStringBuilder", name := "getValue", desc := "()[B" } : Jvm.MethodName) jdk_68_method_64_code (1 : Nat) (Option.some (Jvm.ClassFile.FieldType.array Jvm.ClassFile.FieldType.byte))).before args0 about1 = true := code_word (m := ⟨13, 5⟩) (meth := k13m5) (c := k13c5) (by decide +kernel) rfl rfl rfl (by decide +kernel)
set_option maxRecDepth 65536 in
theorem w_c29 : (Jvm.Cond.code ({ cls := "java/lang/StringBuilder", name := "length", desc := "()I" } : Jvm.MethodName) jdk_67_method_93_code (1 : Nat) (Option.some Jvm.ClassFile.FieldType.int)).before args0 about1 = true := code_word (m := ⟨14, 3⟩) (meth := k14m3) (c := k14c3) (by decide +kernel) rfl rfl rfl (by decide +kernel)
set_option maxRecDepth 65536 in
theorem w_c30 : (Jvm.Cond.code ({ cls := "java/lang/AbstractStringBuilder", name := "length", desc := "()I" } : Jvm.MethodName) jdk_68_method_6_code (1 : Nat) (Option.some Jvm.ClassFile.FieldType.int)).before args0 about1 = true := code_word (m := ⟨13, 2⟩) (meth := k13m2) (c := k13c2) (by decide +kernel) rfl rfl rfl (by decide +kernel)
set_option maxRecDepth 65536 in
theorem w_c31 : (Jvm.Cond.code ({ cls := "java/lang/AbstractStringBuilder", name := "isLatin1", desc := "()Z" } : Jvm.MethodName) jdk_68_method_68_code (1 : Nat) (Option.some Jvm.ClassFile.FieldType.boolean)).before args0 about1 = true := code_word (m := ⟨13, 6⟩) (meth := k13m6) (c := k13c6) (by decide +kernel) rfl rfl rfl (by decide +kernel)
set_option maxRecDepth 65536 in
theorem w_c32 : (Jvm.Cond.code ({ cls := "java/util/Arrays", name := "copyOfRange", desc := "([BII)[B" } : Jvm.MethodName) jdk_65_method_132_code (3 : Nat) (Option.some (Jvm.ClassFile.FieldType.array Jvm.ClassFile.FieldType.byte))).before args0 about1 = true := code_word (m := ⟨16, 3⟩) (meth := k16m3) (c := k16c3) (by decide +kernel) rfl rfl rfl (by decide +kernel)
set_option maxRecDepth 65536 in
theorem w_c33 : (Jvm.Cond.code ({ cls := "java/util/Arrays", name := "copyOfRangeByte", desc := "([BII)[B" } : Jvm.MethodName) jdk_65_method_133_code (5 : Nat) (Option.some (Jvm.ClassFile.FieldType.array Jvm.ClassFile.FieldType.byte))).before args0 about1 = true := code_word (m := ⟨16, 4⟩) (meth := k16m4) (c := k16c4) (by decide +kernel) rfl rfl rfl (by decide +kernel)
set_option maxRecDepth 65536 in
theorem w_c34 : (Jvm.Cond.code ({ cls := "java/util/Arrays", name := "checkLength", desc := "(II)V" } : Jvm.MethodName) jdk_65_method_131_code (2 : Nat) (Option.none : Option Jvm.ClassFile.FieldType)).before args0 about1 = true := code_word (m := ⟨16, 2⟩) (meth := k16m2) (c := k16c2) (by decide +kernel) rfl rfl rfl (by decide +kernel)
set_option maxRecDepth 65536 in
theorem w_c35 : (Jvm.Cond.code ({ cls := "java/lang/Math", name := "min", desc := "(II)I" } : Jvm.MethodName) jdk_29_method_69_code (2 : Nat) (Option.some Jvm.ClassFile.FieldType.int)).before args0 about1 = true := code_word (m := ⟨17, 3⟩) (meth := k17m3) (c := k17c3) (by decide +kernel) rfl rfl rfl (by decide +kernel)
set_option maxRecDepth 65536 in
theorem w_c36 : (Jvm.Cond.code ({ cls := "java/lang/String", name := "getBytes", desc := "(Ljava/nio/charset/Charset;)[B" } : Jvm.MethodName) jdk_42_method_64_code (2 : Nat) (Option.some (Jvm.ClassFile.FieldType.array Jvm.ClassFile.FieldType.byte))).before args0 about1 = true := code_word (m := ⟨7, 8⟩) (meth := k7m8) (c := k7c8) (by decide +kernel) rfl rfl rfl (by decide +kernel)
set_option maxRecDepth 65536 in
theorem w_c37 : (Jvm.Cond.code ({ cls := "java/lang/String", name := "encode", desc := "(Ljava/nio/charset/Charset;B[B)[B" } : Jvm.MethodName) jdk_42_method_18_code (3 : Nat) (Option.some (Jvm.ClassFile.FieldType.array Jvm.ClassFile.FieldType.byte))).before args0 about1 = true := code_word (m := ⟨7, 3⟩) (meth := k7m3) (c := k7c3) (by decide +kernel) rfl rfl rfl (by decide +kernel)
set_option maxRecDepth 65536 in
theorem w_c38 : (Jvm.Cond.code ({ cls := "java/lang/String", name := "encodeUTF8", desc := "(B[BZ)[B" } : Jvm.MethodName) jdk_42_method_46_code (9 : Nat) (Option.some (Jvm.ClassFile.FieldType.array Jvm.ClassFile.FieldType.byte))).before args0 about1 = true := code_word (m := ⟨7, 4⟩) (meth := k7m4) (c := k7c4) (by decide +kernel) rfl rfl rfl (by decide +kernel)
set_option maxRecDepth 65536 in
theorem w_c39 : (Jvm.Cond.code ({ cls := "java/lang/StringCoding", name := "hasNegatives", desc := "([BII)Z" } : Jvm.MethodName) jdk_123_method_2_code (3 : Nat) (Option.some Jvm.ClassFile.FieldType.boolean)).before args0 about1 = true := code_word (m := ⟨23, 1⟩) (meth := k23m1) (c := k23c1) (by decide +kernel) rfl rfl rfl (by decide +kernel)
set_option maxRecDepth 65536 in
theorem w_c40 : (Jvm.Cond.code ({ cls := "java/lang/StringCoding", name := "countPositives", desc := "([BII)I" } : Jvm.MethodName) jdk_123_method_3_code (5 : Nat) (Option.some Jvm.ClassFile.FieldType.int)).before args0 about1 = true := code_word (m := ⟨23, 2⟩) (meth := k23m2) (c := k23c2) (by decide +kernel) rfl rfl rfl (by decide +kernel)
set_option maxRecDepth 65536 in
theorem w_c41 : (Jvm.Cond.code ({ cls := "java/util/Base64$Encoder", name := "encodeToString", desc := "([B)Ljava/lang/String;" } : Jvm.MethodName) jdk_2452_method_5_code (3 : Nat) (Option.some (Jvm.ClassFile.FieldType.object "java/lang/String"))).before args0 about1 = true := code_word (m := ⟨11, 3⟩) (meth := k11m3) (c := k11c3) (by decide +kernel) rfl rfl rfl (by decide +kernel)
set_option maxRecDepth 65536 in
theorem w_c42 : (Jvm.Cond.code ({ cls := "java/util/Base64$Encoder", name := "encode", desc := "([B)[B" } : Jvm.MethodName) jdk_2452_method_3_code (5 : Nat) (Option.some (Jvm.ClassFile.FieldType.array Jvm.ClassFile.FieldType.byte))).before args0 about1 = true := code_word (m := ⟨11, 2⟩) (meth := k11m2) (c := k11c2) (by decide +kernel) rfl rfl rfl (by decide +kernel)
set_option maxRecDepth 65536 in
theorem w_c43 : (Jvm.Cond.code ({ cls := "java/lang/Math", name := "multiplyExact", desc := "(II)I" } : Jvm.MethodName) jdk_29_method_28_code (4 : Nat) (Option.some Jvm.ClassFile.FieldType.int)).before args0 about1 = true := code_word (m := ⟨17, 2⟩) (meth := k17m2) (c := k17c2) (by decide +kernel) rfl rfl rfl (by decide +kernel)
set_option maxRecDepth 65536 in
theorem w_c44 : (Jvm.Cond.code ({ cls := "java/lang/Math", name := "addExact", desc := "(II)I" } : Jvm.MethodName) jdk_29_method_24_code (3 : Nat) (Option.some Jvm.ClassFile.FieldType.int)).before args0 about1 = true := code_word (m := ⟨17, 1⟩) (meth := k17m1) (c := k17c1) (by decide +kernel) rfl rfl rfl (by decide +kernel)
set_option maxRecDepth 65536 in
theorem w_c45 : (Jvm.Cond.code ({ cls := "java/util/Base64$Encoder", name := "encode0", desc := "([BII[B)I" } : Jvm.MethodName) jdk_2452_method_10_code (16 : Nat) (Option.some Jvm.ClassFile.FieldType.int)).before args0 about1 = true := code_word (m := ⟨11, 6⟩) (meth := k11m6) (c := k11c6) (by decide +kernel) rfl rfl rfl (by decide +kernel)
set_option maxRecDepth 65536 in
theorem w_c46 : (Jvm.Cond.code ({ cls := "java/util/Base64$Encoder", name := "encodeBlock", desc := "([BII[BIZ)V" } : Jvm.MethodName) jdk_2452_method_9_code (11 : Nat) (Option.none : Option Jvm.ClassFile.FieldType)).before args0 about1 = true := code_word (m := ⟨11, 5⟩) (meth := k11m5) (c := k11c5) (by decide +kernel) rfl rfl rfl (by decide +kernel)
set_option maxRecDepth 65536 in
theorem w_c47 : (Jvm.Cond.code ({ cls := "java/lang/String", name := "<init>", desc := "([BIII)V" } : Jvm.MethodName) jdk_42_method_7_code (7 : Nat) (Option.none : Option Jvm.ClassFile.FieldType)).before args0 about1 = true := code_word (m := ⟨7, 2⟩) (meth := k7m2) (c := k7c2) (by decide +kernel) rfl rfl rfl (by decide +kernel)
set_option maxRecDepth 65536 in
theorem w_c48 : (Jvm.Cond.code ({ cls := "java/lang/String", name := "checkBoundsOffCount", desc := "(III)I" } : Jvm.MethodName) jdk_42_method_157_code (3 : Nat) (Option.some Jvm.ClassFile.FieldType.int)).before args0 about1 = true := code_word (m := ⟨7, 17⟩) (meth := k7m17) (c := k7c17) (by decide +kernel) rfl rfl rfl (by decide +kernel)
set_option maxRecDepth 65536 in
theorem w_c49 : (Jvm.Cond.code ({ cls := "jdk/internal/util/Preconditions", name := "checkFromIndexSize", desc := "(IIILjava/util/function/BiFunction;)I" } : Jvm.MethodName) jdk_41_method_13_code (4 : Nat) (Option.some Jvm.ClassFile.FieldType.int)).before args0 about1 = true := code_word (m := ⟨25, 2⟩) (meth := k25m2) (c := k25c2) (by decide +kernel) rfl rfl rfl (by decide +kernel)
set_option maxRecDepth 65536 in
theorem w_c50 : (Jvm.Cond.code ({ cls := "com/example/exact_rest/exactrest/NodeIdsOfPinLaw", name := "at", desc := "(Ljava/lang/String;[CII)Z" } : Jvm.MethodName) method_7_code (4 : Nat) (Option.some Jvm.ClassFile.FieldType.boolean)).before args0 about1 = true := code_word (m := ⟨1, 6⟩) (meth := k1m6) (c := k1c6) (by decide +kernel) rfl rfl rfl (by decide +kernel)
set_option maxRecDepth 65536 in
theorem w_c51 : (Jvm.Cond.code ({ cls := "java/lang/String", name := "charAt", desc := "(I)C" } : Jvm.MethodName) jdk_42_method_56_code (2 : Nat) (Option.some Jvm.ClassFile.FieldType.char)).before args0 about1 = true := code_word (m := ⟨7, 7⟩) (meth := k7m7) (c := k7c7) (by decide +kernel) rfl rfl rfl (by decide +kernel)
set_option maxRecDepth 65536 in
theorem w_c52 : (Jvm.Cond.code ({ cls := "java/lang/String", name := "isLatin1", desc := "()Z" } : Jvm.MethodName) jdk_42_method_154_code (1 : Nat) (Option.some Jvm.ClassFile.FieldType.boolean)).before args0 about1 = true := code_word (m := ⟨7, 15⟩) (meth := k7m15) (c := k7c15) (by decide +kernel) rfl rfl rfl (by decide +kernel)
set_option maxRecDepth 65536 in
theorem w_c53 : (Jvm.Cond.code ({ cls := "java/lang/StringLatin1", name := "charAt", desc := "([BI)C" } : Jvm.MethodName) jdk_43_method_2_code (2 : Nat) (Option.some Jvm.ClassFile.FieldType.char)).before args0 about1 = true := code_word (m := ⟨26, 1⟩) (meth := k26m1) (c := k26c1) (by decide +kernel) rfl rfl rfl (by decide +kernel)
set_option maxRecDepth 65536 in
theorem w_c54 : (Jvm.Cond.code ({ cls := "java/lang/String", name := "checkIndex", desc := "(II)V" } : Jvm.MethodName) jdk_42_method_155_code (2 : Nat) (Option.none : Option Jvm.ClassFile.FieldType)).before args0 about1 = true := code_word (m := ⟨7, 16⟩) (meth := k7m16) (c := k7c16) (by decide +kernel) rfl rfl rfl (by decide +kernel)
set_option maxRecDepth 65536 in
theorem w_c55 : (Jvm.Cond.code ({ cls := "jdk/internal/util/Preconditions", name := "checkIndex", desc := "(IILjava/util/function/BiFunction;)I" } : Jvm.MethodName) jdk_41_method_11_code (3 : Nat) (Option.some Jvm.ClassFile.FieldType.int)).before args0 about1 = true := code_word (m := ⟨25, 1⟩) (meth := k25m1) (c := k25c1) (by decide +kernel) rfl rfl rfl (by decide +kernel)
set_option maxRecDepth 65536 in
theorem w_c56 : (Jvm.Cond.code ({ cls := "java/lang/String", name := "valueOf", desc := "(C)Ljava/lang/String;" } : Jvm.MethodName) jdk_42_method_139_code (1 : Nat) (Option.some (Jvm.ClassFile.FieldType.object "java/lang/String"))).before args0 about1 = true := code_word (m := ⟨7, 9⟩) (meth := k7m9) (c := k7c9) (by decide +kernel) rfl rfl rfl (by decide +kernel)
set_option maxRecDepth 65536 in
theorem w_c57 : (Jvm.Cond.code ({ cls := "java/lang/StringLatin1", name := "canEncode", desc := "(C)Z" } : Jvm.MethodName) jdk_43_method_3_code (1 : Nat) (Option.some Jvm.ClassFile.FieldType.boolean)).before args0 about1 = true := code_word (m := ⟨26, 2⟩) (meth := k26m2) (c := k26c2) (by decide +kernel) rfl rfl rfl (by decide +kernel)
set_option maxRecDepth 65536 in
theorem w_c58 : (Jvm.Cond.code ({ cls := "java/lang/StringLatin1", name := "toBytes", desc := "(C)[B" } : Jvm.MethodName) jdk_43_method_46_code (1 : Nat) (Option.some (Jvm.ClassFile.FieldType.array Jvm.ClassFile.FieldType.byte))).before args0 about1 = true := code_word (m := ⟨26, 3⟩) (meth := k26m3) (c := k26c3) (by decide +kernel) rfl rfl rfl (by decide +kernel)
set_option maxRecDepth 65536 in
theorem w_c59 : (Jvm.Cond.code ({ cls := "java/lang/String", name := "<init>", desc := "([BB)V" } : Jvm.MethodName) jdk_42_method_151_code (3 : Nat) (Option.none : Option Jvm.ClassFile.FieldType)).before args0 about1 = true := code_word (m := ⟨7, 13⟩) (meth := k7m13) (c := k7c13) (by decide +kernel) rfl rfl rfl (by decide +kernel)
set_option maxRecDepth 65536 in
theorem w_c60 : (Jvm.Cond.code ({ cls := "java/lang/StringUTF16", name := "newBytesFor", desc := "(I)[B" } : Jvm.MethodName) jdk_52_method_2_code (1 : Nat) (Option.some (Jvm.ClassFile.FieldType.array Jvm.ClassFile.FieldType.byte))).before args0 about1 = true := code_word (m := ⟨8, 1⟩) (meth := k8m1) (c := k8c1) (by decide +kernel) rfl rfl rfl (by decide +kernel)
set_option maxRecDepth 65536 in
theorem w_c61 : (Jvm.Cond.code ({ cls := "java/lang/StringUTF16", name := "newBytesLength", desc := "(I)I" } : Jvm.MethodName) jdk_52_method_3_code (1 : Nat) (Option.some Jvm.ClassFile.FieldType.int)).before args0 about1 = true := code_word (m := ⟨8, 2⟩) (meth := k8m2) (c := k8c2) (by decide +kernel) rfl rfl rfl (by decide +kernel)
set_option maxRecDepth 65536 in
theorem w_c62 : (Jvm.Cond.code ({ cls := "java/util/Arrays", name := "copyOf", desc := "([BI)[B" } : Jvm.MethodName) jdk_65_method_121_code (3 : Nat) (Option.some (Jvm.ClassFile.FieldType.array Jvm.ClassFile.FieldType.byte))).before args0 about1 = true := code_word (m := ⟨16, 1⟩) (meth := k16m1) (c := k16c1) (by decide +kernel) rfl rfl rfl (by decide +kernel)
def codes1 : List Jvm.Cond := [Jvm.Cond.code x code maxLocals ret, Jvm.Cond.code ({ cls := "com/example/exact_rest/exactrest/NodeIdsOfPinLaw", name := "str", desc := "(CCI)Ljava/lang/String;" } : Jvm.MethodName) method_3_code (3 : Nat) (Option.some (Jvm.ClassFile.FieldType.object "java/lang/String")), Jvm.Cond.code ({ cls := "java/lang/String", name := "<init>", desc := "([C)V" } : Jvm.MethodName) jdk_42_method_3_code (2 : Nat) (Option.none : Option Jvm.ClassFile.FieldType), Jvm.Cond.code ({ cls := "java/lang/String", name := "<init>", desc := "([CIILjava/lang/Void;)V" } : Jvm.MethodName) jdk_42_method_149_code (6 : Nat) (Option.none : Option Jvm.ClassFile.FieldType), Jvm.Cond.code ({ cls := "java/lang/Object", name := "<init>", desc := "()V" } : Jvm.MethodName) object_method_1_code (1 : Nat) (Option.none : Option Jvm.ClassFile.FieldType), Jvm.Cond.code ({ cls := "java/lang/StringUTF16", name := "compress", desc := "([CII)[B" } : Jvm.MethodName) jdk_52_method_16_code (6 : Nat) (Option.some (Jvm.ClassFile.FieldType.array Jvm.ClassFile.FieldType.byte)), Jvm.Cond.code ({ cls := "java/lang/StringUTF16", name := "compress", desc := "([CI[BII)I" } : Jvm.MethodName) jdk_52_method_21_code (7 : Nat) (Option.some Jvm.ClassFile.FieldType.int), Jvm.Cond.code ({ cls := "java/lang/StringUTF16", name := "coderFromArrayLen", desc := "([BI)B" } : Jvm.MethodName) jdk_52_method_15_code (2 : Nat) (Option.some Jvm.ClassFile.FieldType.byte), Jvm.Cond.code ({ cls := "com/example/exact_rest/exactrest/NodeIdsOfPinLaw", name := "put", desc := "([IIC)I" } : Jvm.MethodName) method_4_code (3 : Nat) (Option.some Jvm.ClassFile.FieldType.int), Jvm.Cond.code ({ cls := "com/example/exact_rest/exactrest/NodeIdsOfPinLaw", name := "group", desc := "([III[CI)I" } : Jvm.MethodName) method_6_code (9 : Nat) (Option.some Jvm.ClassFile.FieldType.int), Jvm.Cond.code ({ cls := "com/example/exact_rest/exactrest/NodeIdsOfPinLaw", name := "alpha", desc := "(I)C" } : Jvm.MethodName) method_5_code (1 : Nat) (Option.some Jvm.ClassFile.FieldType.char), Jvm.Cond.code ({ cls := "com/example/exact_rest/exactrest/NodeIds", name := "of", desc := "(Ljava/lang/String;Ljava/lang/String;)Ljava/lang/String;" } : Jvm.MethodName) prog_10_method_2_code (2 : Nat) (Option.some (Jvm.ClassFile.FieldType.object "java/lang/String")), Jvm.Cond.code ({ cls := "java/util/Base64", name := "getEncoder", desc := "()Ljava/util/Base64$Encoder;" } : Jvm.MethodName) jdk_2448_method_2_code (0 : Nat) (Option.some (Jvm.ClassFile.FieldType.object "java/util/Base64$Encoder")), Jvm.Cond.code ({ cls := "java/util/Base64$Encoder", name := "withoutPadding", desc := "()Ljava/util/Base64$Encoder;" } : Jvm.MethodName) jdk_2452_method_8_code (1 : Nat) (Option.some (Jvm.ClassFile.FieldType.object "java/util/Base64$Encoder")), Jvm.Cond.code ({ cls := "java/util/Base64$Encoder", name := "<init>", desc := "(Z[BIZ)V" } : Jvm.MethodName) jdk_2452_method_1_code (5 : Nat) (Option.none : Option Jvm.ClassFile.FieldType), Jvm.Cond.code ({ cls := "java/lang/StringBuilder", name := "<init>", desc := "()V" } : Jvm.MethodName) jdk_67_method_1_code (1 : Nat) (Option.none : Option Jvm.ClassFile.FieldType), Jvm.Cond.code ({ cls := "java/lang/AbstractStringBuilder", name := "<init>", desc := "(I)V" } : Jvm.MethodName) jdk_68_method_2_code (2 : Nat) (Option.none : Option Jvm.ClassFile.FieldType), Jvm.Cond.code ({ cls := "java/lang/StringBuilder", name := "append", desc := "(Ljava/lang/String;)Ljava/lang/StringBuilder;" } : Jvm.MethodName) jdk_67_method_7_code (2 : Nat) (Option.some (Jvm.ClassFile.FieldType.object "java/lang/StringBuilder")), Jvm.Cond.code ({ cls := "java/lang/AbstractStringBuilder", name := "append", desc := "(Ljava/lang/String;)Ljava/lang/AbstractStringBuilder;" } : Jvm.MethodName) jdk_68_method_22_code (3 : Nat) (Option.some (Jvm.ClassFile.FieldType.object "java/lang/AbstractStringBuilder")), Jvm.Cond.code ({ cls := "java/lang/String", name := "length", desc := "()I" } : Jvm.MethodName) jdk_42_method_54_code (1 : Nat) (Option.some Jvm.ClassFile.FieldType.int), Jvm.Cond.code ({ cls := "java/lang/String", name := "coder", desc := "()B" } : Jvm.MethodName) jdk_42_method_152_code (1 : Nat) (Option.some Jvm.ClassFile.FieldType.byte), Jvm.Cond.code ({ cls := "java/lang/AbstractStringBuilder", name := "ensureCapacityInternal", desc := "(I)V" } : Jvm.MethodName) jdk_68_method_9_code (3 : Nat) (Option.none : Option Jvm.ClassFile.FieldType), Jvm.Cond.code ({ cls := "java/lang/AbstractStringBuilder", name := "putStringAt", desc := "(ILjava/lang/String;)V" } : Jvm.MethodName) jdk_68_method_73_code (3 : Nat) (Option.none : Option Jvm.ClassFile.FieldType), Jvm.Cond.code ({ cls := "java/lang/AbstractStringBuilder", name := "inflateIfNeededFor", desc := "(Ljava/lang/String;)V" } : Jvm.MethodName) jdk_68_method_71_code (2 : Nat) (Option.none : Option Jvm.ClassFile.FieldType), Jvm.Cond.code ({ cls := "java/lang/String", name := "getBytes", desc := "([BIB)V" } : Jvm.MethodName) jdk_42_method_147_code (4 : Nat) (Option.none : Option Jvm.ClassFile.FieldType), Jvm.Cond.code ({ cls := "java/lang/StringBuilder", name := "toString", desc := "()Ljava/lang/String;" } : Jvm.MethodName) jdk_67_method_42_code (1 : Nat) (Option.some (Jvm.ClassFile.FieldType.object "java/lang/String")), Jvm.Cond.code ({ cls := "java/lang/String", name := "<init>", desc := "(Ljava/lang/StringBuilder;)V" } : Jvm.MethodName) jdk_42_method_53_code (2 : Nat) (Option.none : Option Jvm.ClassFile.FieldType), Jvm.Cond.code ({ cls := "java/lang/String", name := "<init>", desc := "(Ljava/lang/AbstractStringBuilder;Ljava/lang/Void;)V" } : Jvm.MethodName) jdk_42_method_150_code (5 : Nat) (Option.none : Option Jvm.ClassFile.FieldType), Jvm.Cond.code ({ cls := "java/lang/AbstractStringBuilder", name := "getValue", desc := "()[B" } : Jvm.MethodName) jdk_68_method_64_code (1 : Nat) (Option.some (Jvm.ClassFile.FieldType.array Jvm.ClassFile.FieldType.byte)), Jvm.Cond.code ({ cls := "java/lang/StringBuilder", name := "length", desc := "()I" } : Jvm.MethodName) jdk_67_method_93_code (1 : Nat) (Option.some Jvm.ClassFile.FieldType.int), Jvm.Cond.code ({ cls := "java/lang/AbstractStringBuilder", name := "length", desc := "()I" } : Jvm.MethodName) jdk_68_method_6_code (1 : Nat) (Option.some Jvm.ClassFile.FieldType.int), Jvm.Cond.code ({ cls := "java/lang/AbstractStringBuilder", name := "isLatin1", desc := "()Z" } : Jvm.MethodName) jdk_68_method_68_code (1 : Nat) (Option.some Jvm.ClassFile.FieldType.boolean), Jvm.Cond.code ({ cls := "java/util/Arrays", name := "copyOfRange", desc := "([BII)[B" } : Jvm.MethodName) jdk_65_method_132_code (3 : Nat) (Option.some (Jvm.ClassFile.FieldType.array Jvm.ClassFile.FieldType.byte)), Jvm.Cond.code ({ cls := "java/util/Arrays", name := "copyOfRangeByte", desc := "([BII)[B" } : Jvm.MethodName) jdk_65_method_133_code (5 : Nat) (Option.some (Jvm.ClassFile.FieldType.array Jvm.ClassFile.FieldType.byte)), Jvm.Cond.code ({ cls := "java/util/Arrays", name := "checkLength", desc := "(II)V" } : Jvm.MethodName) jdk_65_method_131_code (2 : Nat) (Option.none : Option Jvm.ClassFile.FieldType), Jvm.Cond.code ({ cls := "java/lang/Math", name := "min", desc := "(II)I" } : Jvm.MethodName) jdk_29_method_69_code (2 : Nat) (Option.some Jvm.ClassFile.FieldType.int), Jvm.Cond.code ({ cls := "java/lang/String", name := "getBytes", desc := "(Ljava/nio/charset/Charset;)[B" } : Jvm.MethodName) jdk_42_method_64_code (2 : Nat) (Option.some (Jvm.ClassFile.FieldType.array Jvm.ClassFile.FieldType.byte)), Jvm.Cond.code ({ cls := "java/lang/String", name := "encode", desc := "(Ljava/nio/charset/Charset;B[B)[B" } : Jvm.MethodName) jdk_42_method_18_code (3 : Nat) (Option.some (Jvm.ClassFile.FieldType.array Jvm.ClassFile.FieldType.byte)), Jvm.Cond.code ({ cls := "java/lang/String", name := "encodeUTF8", desc := "(B[BZ)[B" } : Jvm.MethodName) jdk_42_method_46_code (9 : Nat) (Option.some (Jvm.ClassFile.FieldType.array Jvm.ClassFile.FieldType.byte)), Jvm.Cond.code ({ cls := "java/lang/StringCoding", name := "hasNegatives", desc := "([BII)Z" } : Jvm.MethodName) jdk_123_method_2_code (3 : Nat) (Option.some Jvm.ClassFile.FieldType.boolean), Jvm.Cond.code ({ cls := "java/lang/StringCoding", name := "countPositives", desc := "([BII)I" } : Jvm.MethodName) jdk_123_method_3_code (5 : Nat) (Option.some Jvm.ClassFile.FieldType.int), Jvm.Cond.code ({ cls := "java/util/Base64$Encoder", name := "encodeToString", desc := "([B)Ljava/lang/String;" } : Jvm.MethodName) jdk_2452_method_5_code (3 : Nat) (Option.some (Jvm.ClassFile.FieldType.object "java/lang/String")), Jvm.Cond.code ({ cls := "java/util/Base64$Encoder", name := "encode", desc := "([B)[B" } : Jvm.MethodName) jdk_2452_method_3_code (5 : Nat) (Option.some (Jvm.ClassFile.FieldType.array Jvm.ClassFile.FieldType.byte)), Jvm.Cond.code ({ cls := "java/lang/Math", name := "multiplyExact", desc := "(II)I" } : Jvm.MethodName) jdk_29_method_28_code (4 : Nat) (Option.some Jvm.ClassFile.FieldType.int), Jvm.Cond.code ({ cls := "java/lang/Math", name := "addExact", desc := "(II)I" } : Jvm.MethodName) jdk_29_method_24_code (3 : Nat) (Option.some Jvm.ClassFile.FieldType.int), Jvm.Cond.code ({ cls := "java/util/Base64$Encoder", name := "encode0", desc := "([BII[B)I" } : Jvm.MethodName) jdk_2452_method_10_code (16 : Nat) (Option.some Jvm.ClassFile.FieldType.int), Jvm.Cond.code ({ cls := "java/util/Base64$Encoder", name := "encodeBlock", desc := "([BII[BIZ)V" } : Jvm.MethodName) jdk_2452_method_9_code (11 : Nat) (Option.none : Option Jvm.ClassFile.FieldType), Jvm.Cond.code ({ cls := "java/lang/String", name := "<init>", desc := "([BIII)V" } : Jvm.MethodName) jdk_42_method_7_code (7 : Nat) (Option.none : Option Jvm.ClassFile.FieldType), Jvm.Cond.code ({ cls := "java/lang/String", name := "checkBoundsOffCount", desc := "(III)I" } : Jvm.MethodName) jdk_42_method_157_code (3 : Nat) (Option.some Jvm.ClassFile.FieldType.int), Jvm.Cond.code ({ cls := "jdk/internal/util/Preconditions", name := "checkFromIndexSize", desc := "(IIILjava/util/function/BiFunction;)I" } : Jvm.MethodName) jdk_41_method_13_code (4 : Nat) (Option.some Jvm.ClassFile.FieldType.int), Jvm.Cond.code ({ cls := "com/example/exact_rest/exactrest/NodeIdsOfPinLaw", name := "at", desc := "(Ljava/lang/String;[CII)Z" } : Jvm.MethodName) method_7_code (4 : Nat) (Option.some Jvm.ClassFile.FieldType.boolean), Jvm.Cond.code ({ cls := "java/lang/String", name := "charAt", desc := "(I)C" } : Jvm.MethodName) jdk_42_method_56_code (2 : Nat) (Option.some Jvm.ClassFile.FieldType.char), Jvm.Cond.code ({ cls := "java/lang/String", name := "isLatin1", desc := "()Z" } : Jvm.MethodName) jdk_42_method_154_code (1 : Nat) (Option.some Jvm.ClassFile.FieldType.boolean), Jvm.Cond.code ({ cls := "java/lang/StringLatin1", name := "charAt", desc := "([BI)C" } : Jvm.MethodName) jdk_43_method_2_code (2 : Nat) (Option.some Jvm.ClassFile.FieldType.char), Jvm.Cond.code ({ cls := "java/lang/String", name := "checkIndex", desc := "(II)V" } : Jvm.MethodName) jdk_42_method_155_code (2 : Nat) (Option.none : Option Jvm.ClassFile.FieldType), Jvm.Cond.code ({ cls := "jdk/internal/util/Preconditions", name := "checkIndex", desc := "(IILjava/util/function/BiFunction;)I" } : Jvm.MethodName) jdk_41_method_11_code (3 : Nat) (Option.some Jvm.ClassFile.FieldType.int), Jvm.Cond.code ({ cls := "java/lang/String", name := "valueOf", desc := "(C)Ljava/lang/String;" } : Jvm.MethodName) jdk_42_method_139_code (1 : Nat) (Option.some (Jvm.ClassFile.FieldType.object "java/lang/String")), Jvm.Cond.code ({ cls := "java/lang/StringLatin1", name := "canEncode", desc := "(C)Z" } : Jvm.MethodName) jdk_43_method_3_code (1 : Nat) (Option.some Jvm.ClassFile.FieldType.boolean), Jvm.Cond.code ({ cls := "java/lang/StringLatin1", name := "toBytes", desc := "(C)[B" } : Jvm.MethodName) jdk_43_method_46_code (1 : Nat) (Option.some (Jvm.ClassFile.FieldType.array Jvm.ClassFile.FieldType.byte)), Jvm.Cond.code ({ cls := "java/lang/String", name := "<init>", desc := "([BB)V" } : Jvm.MethodName) jdk_42_method_151_code (3 : Nat) (Option.none : Option Jvm.ClassFile.FieldType), Jvm.Cond.code ({ cls := "java/lang/StringUTF16", name := "newBytesFor", desc := "(I)[B" } : Jvm.MethodName) jdk_52_method_2_code (1 : Nat) (Option.some (Jvm.ClassFile.FieldType.array Jvm.ClassFile.FieldType.byte)), Jvm.Cond.code ({ cls := "java/lang/StringUTF16", name := "newBytesLength", desc := "(I)I" } : Jvm.MethodName) jdk_52_method_3_code (1 : Nat) (Option.some Jvm.ClassFile.FieldType.int), Jvm.Cond.code ({ cls := "java/util/Arrays", name := "copyOf", desc := "([BI)[B" } : Jvm.MethodName) jdk_65_method_121_code (3 : Nat) (Option.some (Jvm.ClassFile.FieldType.array Jvm.ClassFile.FieldType.byte))]
set_option maxRecDepth 65536 in
theorem codes_eq : words1.filter isCode = codes1 := rfl
theorem w_codes : ∀ c ∈ words1.filter isCode, c.before args0 about1 = true := by
  rw [codes_eq]
  intro c hc
  simp only [codes1, List.mem_cons, List.not_mem_nil, or_false] at hc
  rcases hc with rfl | rfl | rfl | rfl | rfl | rfl | rfl | rfl | rfl | rfl | rfl | rfl | rfl | rfl | rfl | rfl | rfl | rfl | rfl | rfl | rfl | rfl | rfl | rfl | rfl | rfl | rfl | rfl | rfl | rfl | rfl | rfl | rfl | rfl | rfl | rfl | rfl | rfl | rfl | rfl | rfl | rfl | rfl | rfl | rfl | rfl | rfl | rfl | rfl | rfl | rfl | rfl | rfl | rfl | rfl | rfl | rfl | rfl | rfl | rfl | rfl | rfl | rfl
  · exact w_c0
  · exact w_c1
  · exact w_c2
  · exact w_c3
  · exact w_c4
  · exact w_c5
  · exact w_c6
  · exact w_c7
  · exact w_c8
  · exact w_c9
  · exact w_c10
  · exact w_c11
  · exact w_c12
  · exact w_c13
  · exact w_c14
  · exact w_c15
  · exact w_c16
  · exact w_c17
  · exact w_c18
  · exact w_c19
  · exact w_c20
  · exact w_c21
  · exact w_c22
  · exact w_c23
  · exact w_c24
  · exact w_c25
  · exact w_c26
  · exact w_c27
  · exact w_c28
  · exact w_c29
  · exact w_c30
  · exact w_c31
  · exact w_c32
  · exact w_c33
  · exact w_c34
  · exact w_c35
  · exact w_c36
  · exact w_c37
  · exact w_c38
  · exact w_c39
  · exact w_c40
  · exact w_c41
  · exact w_c42
  · exact w_c43
  · exact w_c44
  · exact w_c45
  · exact w_c46
  · exact w_c47
  · exact w_c48
  · exact w_c49
  · exact w_c50
  · exact w_c51
  · exact w_c52
  · exact w_c53
  · exact w_c54
  · exact w_c55
  · exact w_c56
  · exact w_c57
  · exact w_c58
  · exact w_c59
  · exact w_c60
  · exact w_c61
  · exact w_c62
set_option maxRecDepth 65536 in
theorem w_t1 : (words1.take 24).all (fun c => isCode c || c.before args0 about1) = true := by decide +kernel
set_option maxRecDepth 65536 in
theorem w_t2 : ((words1.drop 24).take 24).all (fun c => isCode c || c.before args0 about1) = true := by decide +kernel
set_option maxRecDepth 65536 in
theorem w_t3 : (((words1.drop 24).drop 24).take 24).all (fun c => isCode c || c.before args0 about1) = true := by decide +kernel
set_option maxRecDepth 65536 in
theorem w_t4 : ((((words1.drop 24).drop 24).drop 24).take 24).all (fun c => isCode c || c.before args0 about1) = true := by decide +kernel
set_option maxRecDepth 65536 in
theorem w_t5 : (((((words1.drop 24).drop 24).drop 24).drop 24).take 24).all (fun c => isCode c || c.before args0 about1) = true := by decide +kernel
set_option maxRecDepth 65536 in
theorem w_t6 : ((((((words1.drop 24).drop 24).drop 24).drop 24).drop 24).take 24).all (fun c => isCode c || c.before args0 about1) = true := by decide +kernel
set_option maxRecDepth 65536 in
theorem w_t7 : (((((((words1.drop 24).drop 24).drop 24).drop 24).drop 24).drop 24).take 24).all (fun c => isCode c || c.before args0 about1) = true := by decide +kernel
set_option maxRecDepth 65536 in
theorem w_t8 : ((((((((words1.drop 24).drop 24).drop 24).drop 24).drop 24).drop 24).drop 24).take 24).all (fun c => isCode c || c.before args0 about1) = true := by decide +kernel
set_option maxRecDepth 65536 in
theorem w_t9 : (((((((((words1.drop 24).drop 24).drop 24).drop 24).drop 24).drop 24).drop 24).drop 24).take 24).all (fun c => isCode c || c.before args0 about1) = true := by decide +kernel
set_option maxRecDepth 65536 in
theorem w_t10 : ((((((((((words1.drop 24).drop 24).drop 24).drop 24).drop 24).drop 24).drop 24).drop 24).drop 24).take 24).all (fun c => isCode c || c.before args0 about1) = true := by decide +kernel
set_option maxRecDepth 65536 in
theorem w_t11 : (((((((((((words1.drop 24).drop 24).drop 24).drop 24).drop 24).drop 24).drop 24).drop 24).drop 24).drop 24).take 24).all (fun c => isCode c || c.before args0 about1) = true := by decide +kernel
set_option maxRecDepth 65536 in
theorem w_t12 : ((((((((((((words1.drop 24).drop 24).drop 24).drop 24).drop 24).drop 24).drop 24).drop 24).drop 24).drop 24).drop 24).take 24).all (fun c => isCode c || c.before args0 about1) = true := by decide +kernel
set_option maxRecDepth 65536 in
theorem w_t13 : (((((((((((((words1.drop 24).drop 24).drop 24).drop 24).drop 24).drop 24).drop 24).drop 24).drop 24).drop 24).drop 24).drop 24).take 24).all (fun c => isCode c || c.before args0 about1) = true := by decide +kernel
set_option maxRecDepth 65536 in
theorem w_t14 : (((((((((((((words1.drop 24).drop 24).drop 24).drop 24).drop 24).drop 24).drop 24).drop 24).drop 24).drop 24).drop 24).drop 24).drop 24).all (fun c => isCode c || c.before args0 about1) = true := by decide +kernel
theorem w_tables : (allAtoms (Jvm.Cond.code x code maxLocals ret :: tables_1)).before args0 about1 = true := by
  rw [allAtoms_all]
  show words1.all (fun c => c.before args0 about1) = true
  refine all_split ?_ w_codes
  rw [← List.take_append_drop 24 words1, List.all_append, w_t1, ← List.take_append_drop 24 (words1.drop 24), List.all_append, w_t2, ← List.take_append_drop 24 ((words1.drop 24).drop 24), List.all_append, w_t3, ← List.take_append_drop 24 (((words1.drop 24).drop 24).drop 24), List.all_append, w_t4, ← List.take_append_drop 24 ((((words1.drop 24).drop 24).drop 24).drop 24), List.all_append, w_t5, ← List.take_append_drop 24 (((((words1.drop 24).drop 24).drop 24).drop 24).drop 24), List.all_append, w_t6, ← List.take_append_drop 24 ((((((words1.drop 24).drop 24).drop 24).drop 24).drop 24).drop 24), List.all_append, w_t7, ← List.take_append_drop 24 (((((((words1.drop 24).drop 24).drop 24).drop 24).drop 24).drop 24).drop 24), List.all_append, w_t8, ← List.take_append_drop 24 ((((((((words1.drop 24).drop 24).drop 24).drop 24).drop 24).drop 24).drop 24).drop 24), List.all_append, w_t9, ← List.take_append_drop 24 (((((((((words1.drop 24).drop 24).drop 24).drop 24).drop 24).drop 24).drop 24).drop 24).drop 24), List.all_append, w_t10, ← List.take_append_drop 24 ((((((((((words1.drop 24).drop 24).drop 24).drop 24).drop 24).drop 24).drop 24).drop 24).drop 24).drop 24), List.all_append, w_t11, ← List.take_append_drop 24 (((((((((((words1.drop 24).drop 24).drop 24).drop 24).drop 24).drop 24).drop 24).drop 24).drop 24).drop 24).drop 24), List.all_append, w_t12, ← List.take_append_drop 24 ((((((((((((words1.drop 24).drop 24).drop 24).drop 24).drop 24).drop 24).drop 24).drop 24).drop 24).drop 24).drop 24).drop 24), List.all_append, w_t13, w_t14]
  rfl
set_option maxRecDepth 65536 in
theorem w_rest : rest_1_c.before args0 about1 = true := by decide +kernel
set_option maxRecDepth 65536 in
theorem w_case : (Jvm.Cond.and given_1 narrow_1).before args0 about1 = true := by decide +kernel
set_option maxRecDepth 65536 in
theorem w_consts : constsHeld consts_1 about1 := Jvm.Lit.constsHeldB_iff.mp (by decide +kernel)
theorem w_applies : (headSpec (Jvm.Cond.code x code maxLocals ret :: tables_1) room_1).applies x e0.platform about1 = true :=
  (Spec.applies_iff w_frames).mpr ⟨w_running, w_runnable, w_alone, w_named, w_hears, w_ripe, w_room, w_tables⟩
theorem atStart : AtStart classFile x code maxLocals ret World_1 tables_1 room_1 Calls_1 rest_1 Pre_1 launch0 p0 e0 about1 theMethod args0 below0 :=
  ⟨lists_1, trivial, launch0.admits_env _ _ _, launch0.least_env, fairChoices_fair.cas, fairChoices_fair.clock, w_frames, w_args, w_heap, w_applies, ⟨w_consts, trivial⟩, w_rest, w_case⟩
end start1
theorem witness_1 : WitnessClaimed_1 := ⟨start1.p0, start1.e0, start1.about1, start1.theMethod, start1.args0, start1.below0, start1.atStart⟩
end Jvm.Pilot.@@N@@
