import JvmDerived
import JvmDerived.Pilot.@@N@@Statement
import JvmDerived.Pilot.@@N@@Code
set_option linter.unusedVariables false
set_option linter.unusedSimpArgs false
/- laws to paste: Road.backV, Road.codOf (cut by pick.py; bodies as the Statement names them) -/
namespace Jvm.Pilot.@@N@@
namespace StrChars
open Jvm Sem ClassFile Op Lib Jvm.Stand Jvm.Free.XT Jvm.Free.ALB Jvm.Free.JM Jvm.Free
open Jvm.Lib.Cold (StaticIs)
/-- a char array whose places are chars -/
def Ch (a : Addr) (A : Cell) (U : State) : Prop := Arr .char a A U ∧ Typed .char A
theorem Ch.mv {a : Addr} {A : Cell} {U U' : State} (h : Ch a A U) (hal : U.vm.Alike U'.vm) (hh : U'.heap = U.heap) : Ch a A U' := ⟨h.1.mv hal hh, h.2⟩
theorem Ch.keep {a : Addr} {A : Cell} {U U' : State} (h : Ch a A U) (hal : U.vm.Alike U'.vm) (hk : U'.heap[a]? = some A) : Ch a A U' := ⟨h.1.keep hal hk, h.2⟩
/-- what place i of a char[]'s cell holds -/
def cv (A : Cell) (i : Nat) : Int32 := match A.slots[i]? with | some (.int x) => x | _ => 0
theorem Ch.get {a : Addr} {A : Cell} {U : State} (h : Ch a A U) {i : Nat} (hi : i < A.slots.size) : A.slots[i]? = some (.int (cv A i)) := by
  have e := Array.getElem?_eq_getElem hi
  have f := h.2 i _ e
  unfold cv; rw [e]
  generalize A.slots[i] = v at f
  cases v <;> simp [fits] at f ⊢
/-- the byte that i2b leaves of a char -/
def lo8 (x : Int32) : Int32 := x.toInt8.toInt32
theorem fits_lo8 (y : Int32) : fits .byte (.int (lo8 y)) = true := by
  have h1 := y.toInt8.le_toInt
  have h2 := y.toInt8.toInt_lt
  simp only [lo8, fits, Bool.and_eq_true, decide_eq_true_eq, Int32.le_iff_toInt_le, Int8.toInt_toInt32, show (-128 : Int32).toInt = -128 from by decide, show (127 : Int32).toInt = 127 from by decide]
  omega
/-- A' is A but that each place j of lo .. hi - 1 holds f j -/
def Laid (A A' : Cell) (lo hi : Nat) (f : Nat → Value) : Prop := A'.cls = A.cls ∧ A'.vm = A.vm ∧ A'.slots.size = A.slots.size ∧ ∀ i, A'.slots[i]? = if lo ≤ i ∧ i < hi then some (f i) else A.slots[i]?
theorem Laid.zero (A : Cell) (lo : Nat) (f : Nat → Value) : Laid A A lo (lo + 0) f := ⟨rfl, rfl, rfl, fun i => by rw [if_neg (by omega)]⟩
theorem Laid.step {A Ak : Cell} {lo k : Nat} {f : Nat → Value} {v : Value} (h : Laid A Ak lo k f) (hlo : lo ≤ k) (hk : k < Ak.slots.size) (hv : v = f k) : Laid A (Ak.setSlot k v) lo (k + 1) f := by
  refine ⟨h.1, h.2.1, by simpa [Cell.setSlot] using h.2.2.1, fun i => ?_⟩
  by_cases e : k = i
  · subst e; rw [Cell.slots_setSlot_self v hk, if_pos (by omega), hv]
  · rw [Cell.slots_setSlot_ne v e, h.2.2.2 i]
    by_cases q : lo ≤ i ∧ i < k
    · rw [if_pos q, if_pos (by omega)]
    · rw [if_neg q, if_neg (by omega)]
def U16 : String := "java/lang/StringUTF16"
namespace Cmp5
def yN : MethodName := ⟨"java/lang/StringUTF16", "compress", "([CI[BII)I"⟩
abbrev yB : ByteArray := jdk_52_method_21_code
theorem d0 : decode yB 0 = .ok (.iconst 0, 1) := by decide +kernel
theorem d1 : decode yB 1 = .ok (.istore 5, 2) := by decide +kernel
theorem d3 : decode yB 3 = .ok (.iload 5, 2) := by decide +kernel
theorem d5 : decode yB 5 = .ok (.iload 4, 2) := by decide +kernel
theorem d7 : decode yB 7 = .ok (.if_icmp (.ge) 37, 3) := by decide +kernel
theorem d10 : decode yB 10 = .ok (.aload_n 0, 1) := by decide +kernel
theorem d11 : decode yB 11 = .ok (.iload_n 1, 1) := by decide +kernel
theorem d12 : decode yB 12 = .ok (.caload, 1) := by decide +kernel
theorem d13 : decode yB 13 = .ok (.istore 6, 2) := by decide +kernel
theorem d15 : decode yB 15 = .ok (.iload 6, 2) := by decide +kernel
theorem d17 : decode yB 17 = .ok (.sipush 255, 3) := by decide +kernel
theorem d20 : decode yB 20 = .ok (.if_icmp (.le) 6, 3) := by decide +kernel
theorem d26 : decode yB 26 = .ok (.aload_n 2, 1) := by decide +kernel
theorem d27 : decode yB 27 = .ok (.iload_n 3, 1) := by decide +kernel
theorem d28 : decode yB 28 = .ok (.iload 6, 2) := by decide +kernel
theorem d30 : decode yB 30 = .ok (.i2b, 1) := by decide +kernel
theorem d31 : decode yB 31 = .ok (.bastore, 1) := by decide +kernel
theorem d32 : decode yB 32 = .ok (.iinc 1 1, 3) := by decide +kernel
theorem d35 : decode yB 35 = .ok (.iinc 3 1, 3) := by decide +kernel
theorem d38 : decode yB 38 = .ok (.iinc 5 1, 3) := by decide +kernel
theorem d41 : decode yB 41 = .ok (.goto (-38), 3) := by decide +kernel
theorem d44 : decode yB 44 = .ok (.iload 4, 2) := by decide +kernel
theorem d46 : decode yB 46 = .ok (.ireturn, 1) := by decide +kernel
def site : List Cond := []
def tab : Cond := tabOf yN yB 7 (some .int) site
def P (b : Addr) (A : Cell) (d : Addr) (B : Cell) (o q len : Nat) (args : Array Value) (s : State) : Prop := args = #[.ref b, .int (Int32.ofNat o), .ref d, .int (Int32.ofNat q), .int (Int32.ofNat len)] ∧ Ch b A s ∧ Arr .byte d B s ∧ b ≠ d ∧ o + len ≤ A.slots.size ∧ q + len ≤ B.slots.size ∧ ∀ i, i < len → ¬ 255 < cv A (o + i)
def E (b : Addr) (A : Cell) (d : Addr) (B : Cell) (o q len : Nat) (r : Option Value) (s u : State) : Prop := r = some (.int (Int32.ofNat len)) ∧ ∃ B', Put d B' s u ∧ Laid B B' q (q + len) (fun j => Value.int (lo8 (cv A (o + (j - q)))))
/-- no char of the range above 255: len; the places written hold each char's low byte -/
theorem law (l : Launch) (b : Addr) (A : Cell) (d : Addr) (B : Cell) (o q len : Nat) : Law l yN 5 5 0 0 yB 7 (some .int) site (P b A d B o q len) (E b A d B o q len) (copyLocs d q len) 0 0 := by
  refine Law.of_walk (plainFor_of_name (by decide +kernel)) (by decide +kernel) (by decide +kernel) (by decide) (fun _ _ h => by rw [h.1]; rfl) (fun _ U U' hal hh h => ⟨h.1, h.2.1.mv hal hh, h.2.2.1.mv hal hh, h.2.2.2⟩) (fun r U U' V V' h1 hal h2 h => ⟨h.1, h.2.elim fun B' q => ⟨B', q.1.mv h1 h2, q.2⟩⟩) ?_
  intro p e s m args below meth c s₁ X0 hexec hbytes hml hret hlk hnm hown hh0 W hP
  obtain ⟨rfl, hA, hB, hne, l1, l2, hp⟩ := hP
  have c1 : Steps p.tables e below (s₁.setTop (entryFrame m #[.ref b, .int (Int32.ofNat o), .ref d, .int (Int32.ofNat q), .int (Int32.ofNat len)] 7)) (s₁.setTop (mkF m 0 #[.val (.ref b), .val (.int (Int32.ofNat o)), .val (.ref d), .val (.int (Int32.ofNat q)), .val (.int (Int32.ofNat len)), .unset, .unset] [])) := entry rfl
  have hA0 := hA.1.mv X0.warmed.alike hh0
  have hB0 := hB.mv X0.warmed.alike hh0
  have a31 := hA.1.2.2.2
  have c2 : Steps p.tables e below (s₁.setTop (entryFrame m #[.ref b, .int (Int32.ofNat o), .ref d, .int (Int32.ofNat q), .int (Int32.ofNat len)] 7)) (s₁.setTop (mkF m 3 #[.val (.ref b), .val (.int (Int32.ofNat o)), .val (.ref d), .val (.int (Int32.ofNat q)), .val (.int (Int32.ofNat len)), .val (.int 0), .unset] [])) := c1.trans (by
    refine iconstV X0.here hexec rfl 0 (hb hbytes d0) (by decide) ?_
    refine XS.istore X0.here hexec rfl (hb hbytes d1) rfl rfl ?_
    exact Steps.refl _)
  have loop : ∀ (r i : Nat), i + r = len → ∀ (z : Slot), (z = .unset ∨ ∃ w, z = .val w ∧ w.category = 1) → ∀ (Tl : State) (Bk : Cell), Stand p l e { frames := 0, locals := 0, cells := 0, slots := 0 } s m #[.ref b, .int (Int32.ofNat o), .ref d, .int (Int32.ofNat q), .int (Int32.ofNat len)] below meth c Tl ([] ++ copyLocs d q i) 0 0 → Put d Bk s₁ Tl → Laid B Bk q (q + i) (fun j => Value.int (lo8 (cv A (o + (j - q))))) →
      Steps p.tables e below (s₁.setTop (entryFrame m #[.ref b, .int (Int32.ofNat o), .ref d, .int (Int32.ofNat q), .int (Int32.ofNat len)] 7)) (Tl.setTop (mkF m 3 #[.val (.ref b), .val (.int (Int32.ofNat (o + i))), .val (.ref d), .val (.int (Int32.ofNat (q + i))), .val (.int (Int32.ofNat len)), .val (.int (Int32.ofNat i)), z] [])) → ∃ (T' : State) (B' : Cell) (z' : Slot), Stand p l e { frames := 0, locals := 0, cells := 0, slots := 0 } s m #[.ref b, .int (Int32.ofNat o), .ref d, .int (Int32.ofNat q), .int (Int32.ofNat len)] below meth c T' ([] ++ copyLocs d q len) 0 0 ∧ Put d B' s₁ T' ∧ Laid B B' q (q + len) (fun j => Value.int (lo8 (cv A (o + (j - q))))) ∧
      Steps p.tables e below (s₁.setTop (entryFrame m #[.ref b, .int (Int32.ofNat o), .ref d, .int (Int32.ofNat q), .int (Int32.ofNat len)] 7)) (T'.setTop (mkF m 3 #[.val (.ref b), .val (.int (Int32.ofNat (o + len))), .val (.ref d), .val (.int (Int32.ofNat (q + len))), .val (.int (Int32.ofNat len)), .val (.int (Int32.ofNat len)), z'] [])) := by
    intro r
    induction r with
    | zero =>
      intro i hi z hz Tl Bk Xl pl fl cl
      have hil : i = len := by omega
      rw [hil] at Xl fl cl
      exact ⟨Tl, Bk, z, Xl, pl, fl, cl⟩
    | succ r ih =>
      intro i hi z hz Tl Bk Xl pl fl cl
      have all := X0.warmed.alike.symm.trans Xl.warmed.alike
      have hAl := hA0.keep all (pl.other hne hA0.1)
      have hBk := hB0.like all pl.1 fl.1 fl.2.1 fl.2.2.1
      have hlt : q + i < Bk.slots.size := by rw [fl.2.2.1]; omega
      have c3 : Steps p.tables e below (s₁.setTop (entryFrame m #[.ref b, .int (Int32.ofNat o), .ref d, .int (Int32.ofNat q), .int (Int32.ofNat len)] 7)) (Tl.setTop (mkF m 12 #[.val (.ref b), .val (.int (Int32.ofNat (o + i))), .val (.ref d), .val (.int (Int32.ofNat (q + i))), .val (.int (Int32.ofNat len)), .val (.int (Int32.ofNat i)), z] [.int (Int32.ofNat (o + i)), .ref b])) := cl.trans (by
        refine XS.iload Xl.here hexec rfl (hb hbytes d3) rfl ?_
        refine XS.iload Xl.here hexec rfl (hb hbytes d5) rfl ?_
        refine XS.icmpNo Xl.here hexec rfl (hb hbytes d7) rfl (ii_ge_f (lt32 (by omega) (by omega))) ?_
        refine XS.aloadN Xl.here hexec rfl (hb hbytes d10) rfl rfl ?_
        refine XS.iloadN Xl.here hexec rfl (hb hbytes d11) rfl ?_
        exact Steps.refl _)
      have c4 : Steps p.tables e below (s₁.setTop (entryFrame m #[.ref b, .int (Int32.ofNat o), .ref d, .int (Int32.ofNat q), .int (Int32.ofNat len)] 7)) (Tl.setTop (mkF m 13 #[.val (.ref b), .val (.int (Int32.ofNat (o + i))), .val (.ref d), .val (.int (Int32.ofNat (q + i))), .val (.int (Int32.ofNat len)), .val (.int (Int32.ofNat i)), z] [.int (cv A (o + i))])) := c3.trans (by
        refine Xl.aget hexec hAl rfl (hA.get (i := o + i) (by omega)) rfl rfl (hb hbytes d12) ?_
        exact Steps.refl _)
      have c5 : Steps p.tables e below (s₁.setTop (entryFrame m #[.ref b, .int (Int32.ofNat o), .ref d, .int (Int32.ofNat q), .int (Int32.ofNat len)] 7)) (Tl.setTop (mkF m 15 #[.val (.ref b), .val (.int (Int32.ofNat (o + i))), .val (.ref d), .val (.int (Int32.ofNat (q + i))), .val (.int (Int32.ofNat len)), .val (.int (Int32.ofNat i)), .val (.int (cv A (o + i)))] [])) := c4.trans (by
        refine XS.istoreS Xl.here hexec rfl (hb hbytes d13) rfl rfl hz ?_
        exact Steps.refl _)
      have c6 : Steps p.tables e below (s₁.setTop (entryFrame m #[.ref b, .int (Int32.ofNat o), .ref d, .int (Int32.ofNat q), .int (Int32.ofNat len)] 7)) (Tl.setTop (mkF m 31 #[.val (.ref b), .val (.int (Int32.ofNat (o + i))), .val (.ref d), .val (.int (Int32.ofNat (q + i))), .val (.int (Int32.ofNat len)), .val (.int (Int32.ofNat i)), .val (.int (cv A (o + i)))] [.int (lo8 (cv A (o + i))), .int (Int32.ofNat (q + i)), .ref d])) := c5.trans (by
        refine XS.iload Xl.here hexec rfl (hb hbytes d15) rfl ?_
        refine sipushV Xl.here hexec rfl 255 (hb hbytes d17) (by decide) ?_
        refine XS.icmpYes Xl.here hexec rfl (pc0 := 20) rfl (hb hbytes d20) rfl (ii_le_t (hp i (by omega))) (by decide) rfl ?_
        refine XS.aloadN Xl.here hexec rfl (hb hbytes d26) rfl rfl ?_
        refine XS.iloadN Xl.here hexec rfl (hb hbytes d27) rfl ?_
        refine XS.iload Xl.here hexec rfl (hb hbytes d28) rfl ?_
        refine i2b Xl.here hexec rfl (hb hbytes d30) rfl ?_
        exact Steps.refl _)
      obtain ⟨T7, X7, p7, st7⟩ := Xl.aput hexec hBk rfl hlt rfl (fits_lo8 (cv A (o + i))) (g := (mkF m 31 #[.val (.ref b), .val (.int (Int32.ofNat (o + i))), .val (.ref d), .val (.int (Int32.ofNat (q + i))), .val (.int (Int32.ofNat len)), .val (.int (Int32.ofNat i)), .val (.int (cv A (o + i)))] [.int (lo8 (cv A (o + i))), .int (Int32.ofNat (q + i)), .ref d])) rfl (rest := []) rfl (hb hbytes d31)
      have c8 : Steps p.tables e below (s₁.setTop (entryFrame m #[.ref b, .int (Int32.ofNat o), .ref d, .int (Int32.ofNat q), .int (Int32.ofNat len)] 7)) (T7.setTop (mkF m 32 #[.val (.ref b), .val (.int (Int32.ofNat (o + i))), .val (.ref d), .val (.int (Int32.ofNat (q + i))), .val (.int (Int32.ofNat len)), .val (.int (Int32.ofNat i)), .val (.int (cv A (o + i)))] [])) := c6.trans (st7 _ (Steps.refl _))
      have c9 : Steps p.tables e below (s₁.setTop (entryFrame m #[.ref b, .int (Int32.ofNat o), .ref d, .int (Int32.ofNat q), .int (Int32.ofNat len)] 7)) (T7.setTop (mkF m 3 #[.val (.ref b), .val (.int (Int32.ofNat (o + i) + 1)), .val (.ref d), .val (.int (Int32.ofNat (q + i) + 1)), .val (.int (Int32.ofNat len)), .val (.int (Int32.ofNat i + 1)), .val (.int (cv A (o + i)))] [])) := c8.trans (by
        refine iincV X7.here hexec rfl 1 (hb hbytes d32) (by decide) rfl rfl ?_
        refine iincV X7.here hexec rfl 1 (hb hbytes d35) (by decide) rfl rfl ?_
        refine iincV X7.here hexec rfl 1 (hb hbytes d38) (by decide) rfl rfl ?_
        refine XS.goto X7.here hexec rfl (pc0 := 41) rfl (hb hbytes d41) (by decide) rfl ?_
        exact Steps.refl _)
      have c10 : Steps p.tables e below (s₁.setTop (entryFrame m #[.ref b, .int (Int32.ofNat o), .ref d, .int (Int32.ofNat q), .int (Int32.ofNat len)] 7)) (T7.setTop (mkF m 3 #[.val (.ref b), .val (.int (Int32.ofNat (o + (i + 1)))), .val (.ref d), .val (.int (Int32.ofNat (q + (i + 1)))), .val (.int (Int32.ofNat len)), .val (.int (Int32.ofNat (i + 1))), .val (.int (cv A (o + i)))] [])) := by
        have := c9
        rw [succ32, succ32, succ32] at this
        exact this
      exact ih (i + 1) (by omega) _ (Or.inr ⟨_, rfl, rfl⟩) T7 _ (by rw [copyLocs_step, ← List.append_assoc]; exact X7) (pl.trans p7) (fl.step (by omega) hlt (by simp)) c10
  obtain ⟨T9, B9, z9, X9, p9, f9, g9⟩ := loop len 0 (by omega) .unset (Or.inl rfl) s₁ B (by simpa [copyLocs] using X0) ⟨hB0.1, fun _ _ => rfl, rfl⟩ (Laid.zero _ _ _) c2
  have c11 : Steps p.tables e below (s₁.setTop (entryFrame m #[.ref b, .int (Int32.ofNat o), .ref d, .int (Int32.ofNat q), .int (Int32.ofNat len)] 7)) (T9.setTop (mkF m 46 #[.val (.ref b), .val (.int (Int32.ofNat (o + len))), .val (.ref d), .val (.int (Int32.ofNat (q + len))), .val (.int (Int32.ofNat len)), .val (.int (Int32.ofNat len)), z9] [.int (Int32.ofNat len)])) := g9.trans (by
    refine XS.iload X9.here hexec rfl (hb hbytes d3) rfl ?_
    refine XS.iload X9.here hexec rfl (hb hbytes d5) rfl ?_
    refine XS.icmpYes X9.here hexec rfl (pc0 := 7) rfl (hb hbytes d7) rfl (ii_ge_t (nlt32 (by omega) (Nat.le_refl _))) (by decide) rfl ?_
    refine XS.iload X9.here hexec rfl (hb hbytes d44) rfl ?_
    exact Steps.refl _)
  exact ⟨T9, some (.int (Int32.ofNat len)), _, _, _, X9, by simp, rfl, rfl, (fun h => by cases h), ⟨rfl, B9, p9.from hh0, f9⟩, fun fs hl => c11.trans (X9.ireturnOut hexec hret rfl (Or.inl rfl) (hb hbytes d46) hl)⟩
end Cmp5
namespace Cmp3
def yN : MethodName := ⟨"java/lang/StringUTF16", "compress", "([CII)[B"⟩
abbrev yB : ByteArray := jdk_52_method_16_code
theorem d0 : decode yB 0 = .ok (.iload_n 2, 1) := by decide +kernel
theorem d1 : decode yB 1 = .ok (.newarray .byte, 2) := by decide +kernel
theorem d3 : decode yB 3 = .ok (.astore_n 3, 1) := by decide +kernel
theorem d4 : decode yB 4 = .ok (.aload_n 0, 1) := by decide +kernel
theorem d5 : decode yB 5 = .ok (.iload_n 1, 1) := by decide +kernel
theorem d6 : decode yB 6 = .ok (.aload_n 3, 1) := by decide +kernel
theorem d7 : decode yB 7 = .ok (.iconst 0, 1) := by decide +kernel
theorem d8 : decode yB 8 = .ok (.iload_n 2, 1) := by decide +kernel
theorem d9 : decode yB 9 = .ok (.invokestatic 115, 3) := by decide +kernel
theorem d12 : decode yB 12 = .ok (.istore 4, 2) := by decide +kernel
theorem d14 : decode yB 14 = .ok (.iload 4, 2) := by decide +kernel
theorem d16 : decode yB 16 = .ok (.iload_n 2, 1) := by decide +kernel
theorem d17 : decode yB 17 = .ok (.if_icmp (.eq) 40, 3) := by decide +kernel
theorem d57 : decode yB 57 = .ok (.aload_n 3, 1) := by decide +kernel
theorem d58 : decode yB 58 = .ok (.areturn, 1) := by decide +kernel
def site : List Cond := [.arrayClass .byte, Cmp5.tab] ++ staticW U16 115 Cmp5.yN
def tab : Cond := tabOf yN yB 6 (some (.array .byte)) site
def P (b : Addr) (A : Cell) (o len : Nat) (args : Array Value) (s : State) : Prop := args = #[.ref b, .int (Int32.ofNat o), .int (Int32.ofNat len)] ∧ Ch b A s ∧ o + len ≤ A.slots.size ∧ len ≤ 536870912 ∧ ∀ i, i < len → ¬ 255 < cv A (o + i)
def E (b : Addr) (A : Cell) (o len : Nat) (r : Option Value) (s u : State) : Prop := NewArr .byte "[B" len (fun j => .int (lo8 (cv A (o + j)))) r s u ∧ u.heap.size = s.heap.size + 1
/-- no char of the range above 255: a new byte[] of their low bytes -/
theorem law (l : Launch) (b : Addr) (A : Cell) (o len : Nat) : Law l yN 3 3 1 18 yB 6 (some (.array .byte)) site (P b A o len) (E b A o len) [] 1 len := by
  refine Law.of_walk (plainFor_of_name (by decide +kernel)) (by decide +kernel) (by decide +kernel) (by decide) (fun _ _ h => by rw [h.1]; rfl) (fun _ U U' hal hh h => ⟨h.1, h.2.1.mv hal hh, h.2.2⟩) (fun r U U' V V' h1 hal h2 h => ⟨NewArr.mv r U U' V V' h1 hal h2 h.1, by rw [h1, h2]; exact h.2⟩) ?_
  intro p e s m args below meth c s₁ X0 hexec hbytes hml hret hlk hnm hown hh0 W hP
  obtain ⟨rfl, hA, l1, l2, hp⟩ := hP
  have a31 := hA.1.2.2.2
  have c1 : Steps p.tables e below (s₁.setTop (entryFrame m #[.ref b, .int (Int32.ofNat o), .int (Int32.ofNat len)] 6)) (s₁.setTop (mkF m 0 #[.val (.ref b), .val (.int (Int32.ofNat o)), .val (.int (Int32.ofNat len)), .unset, .unset, .unset] [])) := entry rfl
  have c2 : Steps p.tables e below (s₁.setTop (entryFrame m #[.ref b, .int (Int32.ofNat o), .int (Int32.ofNat len)] 6)) (s₁.setTop (mkF m 1 #[.val (.ref b), .val (.int (Int32.ofNat o)), .val (.int (Int32.ofNat len)), .unset, .unset, .unset] [.int (Int32.ofNat len)])) := c1.trans (by
    refine XS.iloadN X0.here hexec rfl (hb hbytes d0) rfl ?_
    exact Steps.refl _)
  obtain ⟨T3, B3, X3, ba3, bs3, bv3, bh3, bf3, st3⟩ := X0.anew hexec (atype := .byte) (wk W (.arrayClass .byte)) rfl (by show len * 1 ≤ _; omega) (by omega) (g := (mkF m 1 #[.val (.ref b), .val (.int (Int32.ofNat o)), .val (.int (Int32.ofNat len)), .unset, .unset, .unset] [.int (Int32.ofNat len)])) rfl (hb hbytes d1) (rest := []) rfl (Nat.le_refl _) (by show 0 + len ≤ len; omega)
  rw [hh0] at ba3 st3
  have kp3 : XT.Kept s T3 := (XT.Kept.of_eq hh0).push bh3
  have hA3 := hA.keep X3.warmed.alike (kp3 _ _ hA.1.1)
  have hne : b ≠ s.heap.size := hA.1.ne
  have c4 : Steps p.tables e below (s₁.setTop (entryFrame m #[.ref b, .int (Int32.ofNat o), .int (Int32.ofNat len)] 6)) (T3.setTop (mkF m 3 #[.val (.ref b), .val (.int (Int32.ofNat o)), .val (.int (Int32.ofNat len)), .unset, .unset, .unset] [.ref s.heap.size])) := c2.trans (st3 _ (Steps.refl _))
  have c5 : Steps p.tables e below (s₁.setTop (entryFrame m #[.ref b, .int (Int32.ofNat o), .int (Int32.ofNat len)] 6)) (T3.setTop (mkF m 9 #[.val (.ref b), .val (.int (Int32.ofNat o)), .val (.int (Int32.ofNat len)), .val (.ref s.heap.size), .unset, .unset] [.int (Int32.ofNat len), .int 0, .ref s.heap.size, .int (Int32.ofNat o), .ref b])) := c4.trans (by
    refine XS.astoreN X3.here hexec rfl (hb hbytes d3) rfl rfl rfl ?_
    refine XS.aloadN X3.here hexec rfl (hb hbytes d4) rfl rfl ?_
    refine XS.iloadN X3.here hexec rfl (hb hbytes d5) rfl ?_
    refine XS.aloadN X3.here hexec rfl (hb hbytes d6) rfl rfl ?_
    refine iconstV X3.here hexec rfl 0 (hb hbytes d7) (by decide) ?_
    refine XS.iloadN X3.here hexec rfl (hb hbytes d8) rfl ?_
    exact Steps.refl _)
  obtain ⟨v6, T6, X6, E6, g6⟩ := X3.callS hexec (Cmp5.law l b A s.heap.size B3 o 0 len) hown (wks W (staticW U16 115 Cmp5.yN)) (wk W Cmp5.tab) (W := 0) (Nat.le_of_ble_eq_true rfl) (Nat.le_of_ble_eq_true rfl) (Nat.le_refl _) (by show 0 + len + 0 ≤ len; omega) (g := (mkF m 9 #[.val (.ref b), .val (.int (Int32.ofNat o)), .val (.int (Int32.ofNat len)), .val (.ref s.heap.size), .unset, .unset] [.int (Int32.ofNat len), .int (Int32.ofNat 0), .ref s.heap.size, .int (Int32.ofNat o), .ref b])) rfl (by rw [hml]; rfl) c5 (argsL := [.ref b, .int (Int32.ofNat o), .ref s.heap.size, .int (Int32.ofNat 0), .int (Int32.ofNat len)]) (rest := []) rfl rfl (by show 2 * 0 + 0 ≤ _; decide) (hb hbytes d9) (⟨rfl, hA3, ba3, hne, l1, by rw [bs3]; simp, hp⟩)
  obtain ⟨rfl, B6, p6, f6⟩ := E6
  have c7 : Steps p.tables e below (s₁.setTop (entryFrame m #[.ref b, .int (Int32.ofNat o), .int (Int32.ofNat len)] 6)) (T6.setTop (mkF m 12 #[.val (.ref b), .val (.int (Int32.ofNat o)), .val (.int (Int32.ofNat len)), .val (.ref s.heap.size), .unset, .unset] [.int (Int32.ofNat len)])) := g6
  have c8 : Steps p.tables e below (s₁.setTop (entryFrame m #[.ref b, .int (Int32.ofNat o), .int (Int32.ofNat len)] 6)) (T6.setTop (mkF m 58 #[.val (.ref b), .val (.int (Int32.ofNat o)), .val (.int (Int32.ofNat len)), .val (.ref s.heap.size), .val (.int (Int32.ofNat len)), .unset] [.ref s.heap.size])) := c7.trans (by
    refine XS.istore X6.here hexec rfl (hb hbytes d12) rfl rfl ?_
    refine XS.iload X6.here hexec rfl (hb hbytes d14) rfl ?_
    refine XS.iloadN X6.here hexec rfl (hb hbytes d16) rfl ?_
    refine XS.icmpYes X6.here hexec rfl (pc0 := 17) rfl (hb hbytes d17) rfl (ii_eq_t rfl) (by decide) rfl ?_
    refine XS.aloadN X6.here hexec rfl (hb hbytes d57) rfl rfl ?_
    exact Steps.refl _)
  have X8 := X6.wide (L' := []) (cells' := 1) (slots' := len) (fun x hx hlt => by
    simp only [List.nil_append, copyLocs, List.mem_map, List.mem_range] at hx
    obtain ⟨i, -, rfl⟩ := hx
    exact absurd hlt (Nat.lt_irrefl _)) (Nat.le_refl _) (by omega)
  exact ⟨T6, some (.ref s.heap.size), _, _, _, X8, rfl, rfl, rfl, (fun h => by cases h), ⟨⟨rfl, B6, ba3.like (X3.warmed.alike.symm.trans X6.warmed.alike) p6.1 f6.1 f6.2.1 f6.2.2.1, f6.2.1.trans bv3, by rw [X6.warmed.alike.findClass, f6.1]; exact bf3, by rw [f6.2.2.1, bs3]; simp, fun j hj => by rw [f6.2.2.2 j, if_pos (by omega)]; rfl, kp3.put p6 (Nat.le_refl _)⟩, by rw [p6.2.2, bh3, hh0]; simp⟩, fun fs hl => c8.trans (X8.areturnOut hexec rfl hret rfl (hb hbytes d58) hl)⟩
end Cmp3
namespace CodL
def yN : MethodName := ⟨"java/lang/StringUTF16", "coderFromArrayLen", "([BI)B"⟩
abbrev yB : ByteArray := jdk_52_method_15_code
theorem d0 : decode yB 0 = .ok (.iload_n 1, 1) := by decide +kernel
theorem d1 : decode yB 1 = .ok (.aload_n 0, 1) := by decide +kernel
theorem d2 : decode yB 2 = .ok (.arraylength, 1) := by decide +kernel
theorem d3 : decode yB 3 = .ok (.isub, 1) := by decide +kernel
theorem d4 : decode yB 4 = .ok (.bipush 31, 2) := by decide +kernel
theorem d6 : decode yB 6 = .ok (.iushr, 1) := by decide +kernel
theorem d7 : decode yB 7 = .ok (.i2b, 1) := by decide +kernel
theorem d8 : decode yB 8 = .ok (.ireturn, 1) := by decide +kernel
def site : List Cond := []
def tab : Cond := tabOf yN yB 2 (some .byte) site
def P (d : Addr) (B : Cell) (args : Array Value) (s : State) : Prop := args = #[.ref d, .int (Int32.ofNat B.slots.size)] ∧ Arr .byte d B s
def E (r : Option Value) (s u : State) : Prop := XT.PureE (some (.int 0)) r s u
/-- an array as long as the number of chars: LATIN1 -/
theorem law (l : Launch) (d : Addr) (B : Cell) : Law l yN 2 2 0 0 yB 2 (some .byte) site (P d B) E [] 0 0 := by
  refine Law.of_walk (plainFor_of_name (by decide +kernel)) (by decide +kernel) (by decide +kernel) (by decide) (fun _ _ h => by rw [h.1]; rfl) (fun _ U U' hal hh h => ⟨h.1, h.2.mv hal hh⟩) (fun r U U' V V' h1 hal h2 h => XT.PureE.mv r U U' V V' h1 hal h2 h) ?_
  intro p e s m args below meth c s₁ X0 hexec hbytes hml hret hlk hnm hown hh0 W hP
  obtain ⟨rfl, hB⟩ := hP
  have hB0 := hB.mv X0.warmed.alike hh0
  have c1 : Steps p.tables e below (s₁.setTop (entryFrame m #[.ref d, .int (Int32.ofNat B.slots.size)] 2)) (s₁.setTop (mkF m 0 #[.val (.ref d), .val (.int (Int32.ofNat B.slots.size))] [])) := entry rfl
  have c2 : Steps p.tables e below (s₁.setTop (entryFrame m #[.ref d, .int (Int32.ofNat B.slots.size)] 2)) (s₁.setTop (mkF m 2 #[.val (.ref d), .val (.int (Int32.ofNat B.slots.size))] [.ref d, .int (Int32.ofNat B.slots.size)])) := c1.trans (by
    refine XS.iloadN X0.here hexec rfl (hb hbytes d0) rfl ?_
    refine XS.aloadN X0.here hexec rfl (hb hbytes d1) rfl rfl ?_
    exact Steps.refl _)
  have c3 : Steps p.tables e below (s₁.setTop (entryFrame m #[.ref d, .int (Int32.ofNat B.slots.size)] 2)) (s₁.setTop (mkF m 8 #[.val (.ref d), .val (.int (Int32.ofNat B.slots.size))] [.int (lo8 (ushr (Int32.ofNat B.slots.size - Int32.ofNat B.slots.size) 31))])) := c2.trans (by
    refine X0.alen hexec hB0 rfl rfl (hb hbytes d2) ?_
    refine XS.isub X0.here hexec rfl (hb hbytes d3) rfl ?_
    refine bipushV X0.here hexec rfl 31 (hb hbytes d4) (by decide) ?_
    refine iushr X0.here hexec rfl (hb hbytes d6) rfl ?_
    refine i2b X0.here hexec rfl (hb hbytes d7) rfl ?_
    exact Steps.refl _)
  have e0 : lo8 (ushr (Int32.ofNat B.slots.size - Int32.ofNat B.slots.size) 31) = 0 := by rw [Int32.sub_self]; decide
  rw [e0] at c3
  exact ⟨s₁, some (.int 0), _, _, _, X0, rfl, rfl, rfl, (fun h => by cases h), ⟨rfl, hh0⟩, fun fs hl => c3.trans (X0.ireturnOut hexec hret rfl (Or.inr (Or.inr (Or.inl rfl))) (hb hbytes d8) hl)⟩
end CodL
/-- the String at a is Latin-1 over a new byte[] (the heap's one new cell): the low bytes of the len chars of A from o on; every cell but a is kept -/
def Got (a : Addr) (D : Cell) (fV fC : Field) (A : Cell) (o len : Nat) (r : Option Value) (s u : State) : Prop := r = none ∧ ∃ D' V : Cell, Blank "java/lang/String" a D' u ∧ Same D D' [fV.slot, fC.slot] ∧ D'.slots[fV.slot]? = some (.ref s.heap.size) ∧ D'.slots[fC.slot]? = some (.int 0) ∧ Arr .byte s.heap.size V u ∧ V.vm = .none ∧ u.vm.findClass "[B" = some V.cls ∧ V.slots.size = len ∧ (∀ j, j < len → V.slots[j]? = some (.int (lo8 (cv A (o + j))))) ∧ (∀ (y : Addr) (c : Cell), y ≠ a → s.heap[y]? = some c → u.heap[y]? = some c) ∧ u.heap.size = s.heap.size + 1
theorem Got.mv {a : Addr} {D A : Cell} {fV fC : Field} {o len : Nat} : ∀ r (U U' V V' : State), U'.heap = U.heap → V.vm.Alike V'.vm → V'.heap = V.heap → Got a D fV fC A o len r U V → Got a D fV fC A o len r U' V' :=
  fun r U U' V V' h1 hal h2 ⟨e0, D', X, a1, a2, a3, a4, a5, a6, a7, a8, a9, a10, a11⟩ => ⟨e0, D', X, a1.mv hal h2, a2, by rw [h1]; exact a3, a4, by rw [h1]; exact a5.mv hal h2, a6, by rw [hal.findClass]; exact a7, a8, a9, by rw [h1, h2]; exact a10, by rw [h1, h2]; exact a11⟩
namespace New4
def yN : MethodName := ⟨"java/lang/String", "<init>", "([CIILjava/lang/Void;)V"⟩
abbrev yB : ByteArray := jdk_42_method_149_code
theorem d0 : decode yB 0 = .ok (.aload_n 0, 1) := by decide +kernel
theorem d1 : decode yB 1 = .ok (.invokespecial 1, 3) := by decide +kernel
theorem d4 : decode yB 4 = .ok (.iload_n 3, 1) := by decide +kernel
theorem d5 : decode yB 5 = .ok (.ifCond (.ne) 22, 3) := by decide +kernel
theorem d27 : decode yB 27 = .ok (.getstatic 38, 3) := by decide +kernel
theorem d30 : decode yB 30 = .ok (.ifCond (.eq) 28, 3) := by decide +kernel
theorem d33 : decode yB 33 = .ok (.aload_n 1, 1) := by decide +kernel
theorem d34 : decode yB 34 = .ok (.iload_n 2, 1) := by decide +kernel
theorem d35 : decode yB 35 = .ok (.iload_n 3, 1) := by decide +kernel
theorem d36 : decode yB 36 = .ok (.invokestatic 177, 3) := by decide +kernel
theorem d39 : decode yB 39 = .ok (.astore 5, 2) := by decide +kernel
theorem d41 : decode yB 41 = .ok (.aload_n 0, 1) := by decide +kernel
theorem d42 : decode yB 42 = .ok (.aload 5, 2) := by decide +kernel
theorem d44 : decode yB 44 = .ok (.iload_n 3, 1) := by decide +kernel
theorem d45 : decode yB 45 = .ok (.invokestatic 47, 3) := by decide +kernel
theorem d48 : decode yB 48 = .ok (.putfield 15, 3) := by decide +kernel
theorem d51 : decode yB 51 = .ok (.aload_n 0, 1) := by decide +kernel
theorem d52 : decode yB 52 = .ok (.aload 5, 2) := by decide +kernel
theorem d54 : decode yB 54 = .ok (.putfield 9, 3) := by decide +kernel
theorem d57 : decode yB 57 = .ok (.return_, 1) := by decide +kernel
def site : List Cond := [.fieldLink "java/lang/String" 38 "java/lang/String" "COMPACT_STRINGS" "Z", Cmp3.tab, CodL.tab, .laysFinal "java/lang/String" "java/lang/String" "value" "[B", .fieldLink "java/lang/String" 9 "java/lang/String" "value" "[B", .laysFinal "java/lang/String" "java/lang/String" "coder" "B", .fieldLink "java/lang/String" 15 "java/lang/String" "coder" "B"] ++ objW "java/lang/String" 1 ++ staticW "java/lang/String" 177 Cmp3.yN ++ staticW "java/lang/String" 47 CodL.yN
def tab : Cond := tabOf yN yB 6 none site
def P (a : Addr) (D : Cell) (fV fC : Field) (b : Addr) (A : Cell) (z : Int32) (o len : Nat) (args : Array Value) (s : State) : Prop := args = #[.ref a, .ref b, .int (Int32.ofNat o), .int (Int32.ofNat len), .null] ∧ Blank "java/lang/String" a D s ∧ Found "java/lang/String" "value" "[B" fV s ∧ Found "java/lang/String" "coder" "B" fC s ∧ Ch b A s ∧ StaticIs s "java/lang/String" "COMPACT_STRINGS" "Z" (.int z) ∧ ¬ z = 0 ∧ 0 < len ∧ o + len ≤ A.slots.size ∧ len ≤ 536870912 ∧ ∀ i, i < len → ¬ 255 < cv A (o + i)
def E (a : Addr) (D : Cell) (fV fC : Field) (A : Cell) (o len : Nat) (r : Option Value) (s u : State) : Prop := Got a D fV fC A o len r s u
/-- len > 0, no char of the range above 255: a Latin-1 String of their low bytes -/
theorem law (l : Launch) (a : Addr) (D : Cell) (fV fC : Field) (b : Addr) (A : Cell) (z : Int32) (o len : Nat) : Law l yN 5 4 2 35 yB 6 none site (P a D fV fC b A z o len) (E a D fV fC A o len) [⟨a, fC.slot⟩, ⟨a, fV.slot⟩] 1 len := by
  refine Law.of_walk (plainFor_of_name (by decide +kernel)) (by decide +kernel) (by decide +kernel) (by decide) (fun _ _ h => by rw [h.1]; rfl) (fun _ U U' hal hh h => ⟨h.1, h.2.1.mv hal hh, h.2.2.1.al hal, h.2.2.2.1.al hal, h.2.2.2.2.1.mv hal hh, h.2.2.2.2.2.1.there hal hh, h.2.2.2.2.2.2⟩) (fun r U U' V V' h1 hal h2 h => Got.mv r U U' V V' h1 hal h2 h) ?_
  intro p e s m args below meth c s₁ X0 hexec hbytes hml hret hlk hnm hown hh0 W hP
  obtain ⟨rfl, hB, f1, f2, hA, s1, hz, l0, l1, l2, hp⟩ := hP
  have a31 := hA.1.2.2.2
  have c1 : Steps p.tables e below (s₁.setTop (entryFrame m #[.ref a, .ref b, .int (Int32.ofNat o), .int (Int32.ofNat len), .null] 6)) (s₁.setTop (mkF m 0 #[.val (.ref a), .val (.ref b), .val (.int (Int32.ofNat o)), .val (.int (Int32.ofNat len)), .val .null, .unset] [])) := entry rfl
  have c2 : Steps p.tables e below (s₁.setTop (entryFrame m #[.ref a, .ref b, .int (Int32.ofNat o), .int (Int32.ofNat len), .null] 6)) (s₁.setTop (mkF m 1 #[.val (.ref a), .val (.ref b), .val (.int (Int32.ofNat o)), .val (.int (Int32.ofNat len)), .val .null, .unset] [.ref a])) := c1.trans (by
    refine XS.aloadN X0.here hexec rfl (hb hbytes d0) rfl rfl ?_
    exact Steps.refl _)
  obtain ⟨T3, X3, q3, st3⟩ := X0.oinit hexec hown (wks W (objW "java/lang/String" 1)) (g := (mkF m 1 #[.val (.ref a), .val (.ref b), .val (.int (Int32.ofNat o)), .val (.int (Int32.ofNat len)), .val .null, .unset] [.ref a])) rfl (by rw [hml]; rfl) (rest := []) rfl (hb hbytes d1) (W := 0) (by show 2 * 0 + 0 ≤ _; decide) (Nat.le_of_ble_eq_true rfl) (Nat.le_of_ble_eq_true rfl)
  have hh3 := q3.trans hh0
  have c4 : Steps p.tables e below (s₁.setTop (entryFrame m #[.ref a, .ref b, .int (Int32.ofNat o), .int (Int32.ofNat len), .null] 6)) (T3.setTop (mkF m 27 #[.val (.ref a), .val (.ref b), .val (.int (Int32.ofNat o)), .val (.int (Int32.ofNat len)), .val .null, .unset] [])) := (c2.trans (st3 _ (Steps.refl _))).trans (by
    refine XS.iloadN X3.here hexec rfl (hb hbytes d4) rfl ?_
    refine XS.ifYes X3.here hexec rfl (pc0 := 5) rfl (hb hbytes d5) rfl (i0_ne_t (nz32 (by omega) l0)) (by decide) rfl ?_
    exact Steps.refl _)
  obtain ⟨T5, X5, q5, st5⟩ := X3.sget hexec hown (wk W (.fieldLink "java/lang/String" 38 "java/lang/String" "COMPACT_STRINGS" "Z")) s1 (fun _ _ h => by rw [hh3]; exact h) (g := (mkF m 27 #[.val (.ref a), .val (.ref b), .val (.int (Int32.ofNat o)), .val (.int (Int32.ofNat len)), .val .null, .unset] [])) rfl (hb hbytes d27)
  have hh5 := q5.trans hh3
  have c6 : Steps p.tables e below (s₁.setTop (entryFrame m #[.ref a, .ref b, .int (Int32.ofNat o), .int (Int32.ofNat len), .null] 6)) (T5.setTop (mkF m 30 #[.val (.ref a), .val (.ref b), .val (.int (Int32.ofNat o)), .val (.int (Int32.ofNat len)), .val .null, .unset] [.int z])) := c4.trans (st5 _ (Steps.refl _))
  have c7 : Steps p.tables e below (s₁.setTop (entryFrame m #[.ref a, .ref b, .int (Int32.ofNat o), .int (Int32.ofNat len), .null] 6)) (T5.setTop (mkF m 36 #[.val (.ref a), .val (.ref b), .val (.int (Int32.ofNat o)), .val (.int (Int32.ofNat len)), .val .null, .unset] [.int (Int32.ofNat len), .int (Int32.ofNat o), .ref b])) := c6.trans (by
    refine XS.ifNo X5.here hexec rfl (hb hbytes d30) rfl (i0_eq_f hz) ?_
    refine XS.aloadN X5.here hexec rfl (hb hbytes d33) rfl rfl ?_
    refine XS.iloadN X5.here hexec rfl (hb hbytes d34) rfl ?_
    refine XS.iloadN X5.here hexec rfl (hb hbytes d35) rfl ?_
    exact Steps.refl _)
  obtain ⟨v8, T8, X8, E8, g8⟩ := X5.callS hexec (Cmp3.law l b A o len) hown (wks W (staticW "java/lang/String" 177 Cmp3.yN)) (wk W Cmp3.tab) (W := 0) (Nat.le_of_ble_eq_true rfl) (Nat.le_of_ble_eq_true rfl) (Nat.le_refl _) (by show 0 + len ≤ len; omega) (g := (mkF m 36 #[.val (.ref a), .val (.ref b), .val (.int (Int32.ofNat o)), .val (.int (Int32.ofNat len)), .val .null, .unset] [.int (Int32.ofNat len), .int (Int32.ofNat o), .ref b])) rfl (by rw [hml]; rfl) c7 (argsL := [.ref b, .int (Int32.ofNat o), .int (Int32.ofNat len)]) (rest := []) rfl rfl (by show 2 * 0 + 0 ≤ _; decide) (hb hbytes d36) (⟨rfl, hA.mv X5.warmed.alike hh5, l1, l2, hp⟩)
  obtain ⟨e8, z8⟩ := E8
  obtain ⟨rfl, N, n1, n2, n3, n4, n5, n6⟩ := NewArr.mv _ T5 s _ _ hh5.symm (Vm.Alike.refl _) rfl e8
  rw [hh5] at z8
  have hB1 := hB.keep X8.warmed.alike (n6 _ _ hB.1)
  have hne : s.heap.size ≠ a := (Nat.ne_of_lt (Array.getElem?_eq_some_iff.mp hB.1).1).symm
  have c9 : Steps p.tables e below (s₁.setTop (entryFrame m #[.ref a, .ref b, .int (Int32.ofNat o), .int (Int32.ofNat len), .null] 6)) (T8.setTop (mkF m 39 #[.val (.ref a), .val (.ref b), .val (.int (Int32.ofNat o)), .val (.int (Int32.ofNat len)), .val .null, .unset] [.ref s.heap.size])) := g8
  have c10 : Steps p.tables e below (s₁.setTop (entryFrame m #[.ref a, .ref b, .int (Int32.ofNat o), .int (Int32.ofNat len), .null] 6)) (T8.setTop (mkF m 45 #[.val (.ref a), .val (.ref b), .val (.int (Int32.ofNat o)), .val (.int (Int32.ofNat len)), .val .null, .val (.ref s.heap.size)] [.int (Int32.ofNat N.slots.size), .ref s.heap.size, .ref a])) := by
    have hc : Steps p.tables e below (s₁.setTop (entryFrame m #[.ref a, .ref b, .int (Int32.ofNat o), .int (Int32.ofNat len), .null] 6)) (T8.setTop (mkF m 45 #[.val (.ref a), .val (.ref b), .val (.int (Int32.ofNat o)), .val (.int (Int32.ofNat len)), .val .null, .val (.ref s.heap.size)] [.int (Int32.ofNat len), .ref s.heap.size, .ref a])) := c9.trans (by
      refine XS.astore X8.here hexec rfl (hb hbytes d39) rfl rfl rfl ?_
      refine XS.aloadN X8.here hexec rfl (hb hbytes d41) rfl rfl ?_
      refine XS.aload X8.here hexec rfl (hb hbytes d42) rfl rfl ?_
      refine XS.iloadN X8.here hexec rfl (hb hbytes d44) rfl ?_
      exact Steps.refl _)
    rw [n4]; exact hc
  obtain ⟨v11, T11, X11, E11, g11⟩ := X8.callS hexec (CodL.law l s.heap.size N) hown (wks W (staticW "java/lang/String" 47 CodL.yN)) (wk W CodL.tab) (W := 1) (Nat.le_of_ble_eq_true rfl) (Nat.le_of_ble_eq_true rfl) (Nat.le_refl _) (by show 0 + len + 0 ≤ len; omega) (g := (mkF m 45 #[.val (.ref a), .val (.ref b), .val (.int (Int32.ofNat o)), .val (.int (Int32.ofNat len)), .val .null, .val (.ref s.heap.size)] [.int (Int32.ofNat N.slots.size), .ref s.heap.size, .ref a])) rfl (by rw [hml]; rfl) c10 (argsL := [.ref s.heap.size, .int (Int32.ofNat N.slots.size)]) (rest := [.ref a]) rfl rfl (by show 2 * 0 + (1 + 0) ≤ _; decide) (hb hbytes d45) (⟨rfl, n1⟩)
  obtain ⟨rfl, q11⟩ := E11
  have hB11 := hB1.mv (X8.warmed.alike.symm.trans X11.warmed.alike) q11
  have c12 : Steps p.tables e below (s₁.setTop (entryFrame m #[.ref a, .ref b, .int (Int32.ofNat o), .int (Int32.ofNat len), .null] 6)) (T11.setTop (mkF m 48 #[.val (.ref a), .val (.ref b), .val (.int (Int32.ofNat o)), .val (.int (Int32.ofNat len)), .val .null, .val (.ref s.heap.size)] [.int 0, .ref a])) := g11
  obtain ⟨T13, X13, p13, bl13, sl13, st13⟩ := X11.finit hexec hown (wk W (.fieldLink "java/lang/String" 15 "java/lang/String" "coder" "B")) (Or.inr ⟨_, (wk W (.laysFinal "java/lang/String" "java/lang/String" "coder" "B"))⟩) (Or.inl ⟨rfl, hnm⟩) f2 (Or.inl rfl) hB11 (t := .byte) (by decide +kernel) rfl (g := (mkF m 48 #[.val (.ref a), .val (.ref b), .val (.int (Int32.ofNat o)), .val (.int (Int32.ofNat len)), .val .null, .val (.ref s.heap.size)] [.int 0, .ref a])) rfl (rest := []) rfl (hb hbytes d48)
  have c14 : Steps p.tables e below (s₁.setTop (entryFrame m #[.ref a, .ref b, .int (Int32.ofNat o), .int (Int32.ofNat len), .null] 6)) (T13.setTop (mkF m 54 #[.val (.ref a), .val (.ref b), .val (.int (Int32.ofNat o)), .val (.int (Int32.ofNat len)), .val .null, .val (.ref s.heap.size)] [.ref s.heap.size, .ref a])) := (c12.trans (st13 _ (Steps.refl _))).trans (by
    refine XS.aloadN X13.here hexec rfl (hb hbytes d51) rfl rfl ?_
    refine XS.aload X13.here hexec rfl (hb hbytes d52) rfl rfl ?_
    exact Steps.refl _)
  obtain ⟨T15, X15, p15, bl15, sl15, st15⟩ := X13.finit hexec hown (wk W (.fieldLink "java/lang/String" 9 "java/lang/String" "value" "[B")) (Or.inr ⟨_, (wk W (.laysFinal "java/lang/String" "java/lang/String" "value" "[B"))⟩) (Or.inl ⟨rfl, hnm⟩) f1 (Or.inl rfl) bl13 (t := (.array .byte)) (by decide +kernel) rfl (g := (mkF m 54 #[.val (.ref a), .val (.ref b), .val (.int (Int32.ofNat o)), .val (.int (Int32.ofNat len)), .val .null, .val (.ref s.heap.size)] [.ref s.heap.size, .ref a])) rfl (rest := []) rfl (hb hbytes d54)
  have c16 : Steps p.tables e below (s₁.setTop (entryFrame m #[.ref a, .ref b, .int (Int32.ofNat o), .int (Int32.ofNat len), .null] 6)) (T15.setTop (mkF m 57 #[.val (.ref a), .val (.ref b), .val (.int (Int32.ofNat o)), .val (.int (Int32.ofNat len)), .val .null, .val (.ref s.heap.size)] [])) := c14.trans (st15 _ (Steps.refl _))
  have ap := apart (Or.inr ⟨_, (wk W (.laysFinal "java/lang/String" "java/lang/String" "value" "[B"))⟩) (Or.inr ⟨_, (wk W (.laysFinal "java/lang/String" "java/lang/String" "coder" "B"))⟩) f1 f2 (t₁ := .array .byte) (t₂ := .byte) (by decide +kernel) (by decide +kernel) (by decide)
  have al := X8.warmed.alike.symm.trans X15.warmed.alike
  have n7 : T11.heap[s.heap.size]? = some N := by rw [q11]; exact n1.1
  exact ⟨T15, none, _, _, _, X15, by simp, rfl, by omega, (fun _ => rfl), ⟨rfl, _, N, bl15, ((Same.refl D _).set _ (by simp)).set _ (by simp), sl15, (Cell.slots_setSlot_ne _ ap).trans sl13, n1.keep al (p15.other hne (p13.other hne n7)), n2, by rw [al.findClass]; exact n3, n4, n5, fun y c h1 h2 => p15.other h1 (p13.other h1 (by rw [q11]; exact n6 y c h2)), by rw [p15.2.2, p13.2.2, q11]; exact z8⟩, fun fs hl => c16.trans (X15.returnOut hexec hret (hb hbytes d57) hl)⟩
end New4
namespace New1
def yN : MethodName := ⟨"java/lang/String", "<init>", "([C)V"⟩
abbrev yB : ByteArray := jdk_42_method_3_code
theorem d0 : decode yB 0 = .ok (.aload_n 0, 1) := by decide +kernel
theorem d1 : decode yB 1 = .ok (.aload_n 1, 1) := by decide +kernel
theorem d2 : decode yB 2 = .ok (.iconst 0, 1) := by decide +kernel
theorem d3 : decode yB 3 = .ok (.aload_n 1, 1) := by decide +kernel
theorem d4 : decode yB 4 = .ok (.arraylength, 1) := by decide +kernel
theorem d5 : decode yB 5 = .ok (.aconst_null, 1) := by decide +kernel
theorem d6 : decode yB 6 = .ok (.invokespecial 27, 3) := by decide +kernel
theorem d9 : decode yB 9 = .ok (.return_, 1) := by decide +kernel
def site : List Cond := [New4.tab] ++ initW "java/lang/String" 27 New4.yN
def tab : Cond := tabOf yN yB 2 none site
def P (a : Addr) (D : Cell) (fV fC : Field) (b : Addr) (A : Cell) (z : Int32) (args : Array Value) (s : State) : Prop := args = #[.ref a, .ref b] ∧ Blank "java/lang/String" a D s ∧ Found "java/lang/String" "value" "[B" fV s ∧ Found "java/lang/String" "coder" "B" fC s ∧ Ch b A s ∧ StaticIs s "java/lang/String" "COMPACT_STRINGS" "Z" (.int z) ∧ ¬ z = 0 ∧ 0 < A.slots.size ∧ A.slots.size ≤ 536870912 ∧ ∀ i, i < A.slots.size → ¬ 255 < cv A i
def E (a : Addr) (D : Cell) (fV fC : Field) (A : Cell) (r : Option Value) (s u : State) : Prop := Got a D fV fC A 0 A.slots.size r s u
/-- new String(chars), not empty, no char above 255: a Latin-1 String of their low bytes -/
theorem law (l : Launch) (a : Addr) (D : Cell) (fV fC : Field) (b : Addr) (A : Cell) (z : Int32) : Law l yN 2 1 3 52 yB 2 none site (P a D fV fC b A z) (E a D fV fC A) [⟨a, fC.slot⟩, ⟨a, fV.slot⟩] 1 A.slots.size := by
  refine Law.of_walk (plainFor_of_name (by decide +kernel)) (by decide +kernel) (by decide +kernel) (by decide) (fun _ _ h => by rw [h.1]; rfl) (fun _ U U' hal hh h => ⟨h.1, h.2.1.mv hal hh, h.2.2.1.al hal, h.2.2.2.1.al hal, h.2.2.2.2.1.mv hal hh, h.2.2.2.2.2.1.there hal hh, h.2.2.2.2.2.2⟩) (fun r U U' V V' h1 hal h2 h => Got.mv r U U' V V' h1 hal h2 h) ?_
  intro p e s m args below meth c s₁ X0 hexec hbytes hml hret hlk hnm hown hh0 W hP
  obtain ⟨rfl, hB, f1, f2, hA, s1, hz, l0, l2, hp⟩ := hP
  have c1 : Steps p.tables e below (s₁.setTop (entryFrame m #[.ref a, .ref b] 2)) (s₁.setTop (mkF m 0 #[.val (.ref a), .val (.ref b)] [])) := entry rfl
  have c2 : Steps p.tables e below (s₁.setTop (entryFrame m #[.ref a, .ref b] 2)) (s₁.setTop (mkF m 6 #[.val (.ref a), .val (.ref b)] [.null, .int (Int32.ofNat A.slots.size), .int 0, .ref b, .ref a])) := c1.trans (by
    refine XS.aloadN X0.here hexec rfl (hb hbytes d0) rfl rfl ?_
    refine XS.aloadN X0.here hexec rfl (hb hbytes d1) rfl rfl ?_
    refine iconstV X0.here hexec rfl 0 (hb hbytes d2) (by decide) ?_
    refine XS.aloadN X0.here hexec rfl (hb hbytes d3) rfl rfl ?_
    refine X0.alen hexec (hA.1.mv X0.warmed.alike hh0) rfl rfl (hb hbytes d4) ?_
    refine XS.aconstNull X0.here hexec rfl (hb hbytes d5) ?_
    exact Steps.refl _)
  obtain ⟨v3, T3, X3, E3, g3⟩ := X0.callN hexec (New4.law l a D fV fC b A z 0 A.slots.size) rfl hown (wks W (initW "java/lang/String" 27 New4.yN)) (W New4.tab (by simp only [site, List.mem_cons, List.mem_append, true_or, or_true])) (W := 0) (Nat.le_of_ble_eq_true rfl) (Nat.le_of_ble_eq_true rfl) (Nat.le_refl _) (by show 0 + A.slots.size ≤ A.slots.size; omega) (g := (mkF m 6 #[.val (.ref a), .val (.ref b)] [.null, .int (Int32.ofNat A.slots.size), .int (Int32.ofNat 0), .ref b, .ref a])) rfl (by rw [hml]; rfl) c2 (argsL := [.ref b, .int (Int32.ofNat 0), .int (Int32.ofNat A.slots.size), .null]) (rest := []) rfl rfl (by show 2 * 0 + 0 ≤ _; decide) (hb hbytes d6) (⟨rfl, hB.mv X0.warmed.alike hh0, f1.al X0.warmed.alike, f2.al X0.warmed.alike, hA.mv X0.warmed.alike hh0, s1.there X0.warmed.alike hh0, hz, l0, by omega, l2, fun i hi => by rw [Nat.zero_add]; exact hp i hi⟩)
  have e0 := Got.mv _ s₁ s _ _ hh0.symm (Vm.Alike.refl _) rfl E3
  obtain rfl := e0.1
  have c4 : Steps p.tables e below (s₁.setTop (entryFrame m #[.ref a, .ref b] 2)) (T3.setTop (mkF m 9 #[.val (.ref a), .val (.ref b)] [])) := g3
  exact ⟨T3, none, _, _, _, X3, by simp, rfl, by omega, (fun _ => rfl), e0, fun fs hl => c4.trans (X3.returnOut hexec hret (hb hbytes d9) hl)⟩
theorem pays {l : Launch} {R : Room} {p : Program} {e : Env} {below : List Frame} {s : State} {sargs : Array Value} {len W : Nat} (a : Addr) (D : Cell) (fV fC : Field) (b : Addr) (A : Cell) (z : Int32) (htab : tab.before sargs s = true) (hfr : 4 ≤ R.frames) (hlo : W + 65 ≤ R.locals) :
    Back l R p e below s sargs yN len W (fun A₁ a₁ => A₁.cells + 1 ≤ R.cells ∧ A₁.slots + A.slots.size ≤ R.slots ∧ P a D fV fC b A z a₁ A₁.U) (fun A₁ _ v₁ B₁ => E a D fV fC A v₁ A₁.U B₁.U ∧ B₁.locs = A₁.locs ++ [⟨a, fC.slot⟩, ⟨a, fV.slot⟩] ∧ B₁.cells = A₁.cells + 1 ∧ B₁.slots = A₁.slots + A.slots.size) :=
  (law l a D fV fC b A z).pays htab hfr (by omega)
end New1
end StrChars
namespace StrChars.Road
open Jvm Sem ClassFile Op Lib Jvm.Stand Jvm.Free Jvm.Free.XT
open Jvm.Lib.Cold (StaticIs)
abbrev ST : String := "java/lang/String"
/-- every table word that New1's law asks, flat -/
abbrev words : List Jvm.Cond := [.code New1.yN New1.yB 2 none, .initialized ST, .methodLink ST 27 New4.yN, .instanceMethod New4.yN,
  .code New4.yN New4.yB 6 none, .fieldLink ST 38 ST "COMPACT_STRINGS" "Z", .laysFinal ST ST "value" "[B", .fieldLink ST 9 ST "value" "[B", .laysFinal ST ST "coder" "B", .fieldLink ST 15 ST "coder" "B",
  .methodLink ST 1 Lib.objectInit, .instanceMethod Lib.objectInit, .code Lib.objectInit ⟨#[0xb1]⟩ 1 none, .methodLink ST 177 Cmp3.yN, .static Cmp3.yN, .methodLink ST 47 CodL.yN, .static CodL.yN,
  .code Cmp3.yN Cmp3.yB 6 (some (.array .byte)), .initialized U16, .arrayClass .byte, .methodLink U16 115 Cmp5.yN, .static Cmp5.yN, .code Cmp5.yN Cmp5.yB 7 (some .int), .code CodL.yN CodL.yB 2 (some .byte)]
theorem tab_of {a : Array Value} {s : State} (h : ∀ w ∈ words, w.before a s = true) : New1.tab.before a s = true := by
  have h5 : Cmp5.tab.before a s = true := unparts (wk h (.code Cmp5.yN Cmp5.yB 7 (some .int))) (wks h (.initialized Cmp5.yN.cls :: Cmp5.site))
  have hc : CodL.tab.before a s = true := unparts (wk h (.code CodL.yN CodL.yB 2 (some .byte))) (wks h (.initialized CodL.yN.cls :: CodL.site))
  have q5 : ∀ w ∈ Cmp5.tab :: words, w.before a s = true := fun w hw => (List.mem_cons.mp hw).elim (fun e => e ▸ h5) (h w)
  have h3 : Cmp3.tab.before a s = true := unparts (wk q5 (.code Cmp3.yN Cmp3.yB 6 (some (.array .byte)))) (wks q5 (.initialized Cmp3.yN.cls :: Cmp3.site))
  have q3 : ∀ w ∈ Cmp3.tab :: CodL.tab :: words, w.before a s = true := fun w hw => (List.mem_cons.mp hw).elim (fun e => e ▸ h3) fun hw => (List.mem_cons.mp hw).elim (fun e => e ▸ hc) (h w)
  have h4 : New4.tab.before a s = true := unparts (wk q3 (.code New4.yN New4.yB 6 none)) (wks q3 (.initialized New4.yN.cls :: New4.site))
  have q4 : ∀ w ∈ New4.tab :: words, w.before a s = true := fun w hw => (List.mem_cons.mp hw).elim (fun e => e ▸ h4) (h w)
  exact unparts (wk q4 (.code New1.yN New1.yB 2 none)) (wks q4 (.initialized New1.yN.cls :: New1.site))
/-- the words ride from the start Z to the walk's own state -/
theorem moved {Z s : State} {a0 args : Array Value} (hZ : Z.Warmed39 s.vm) (hw : ∀ d ∈ words, d.before a0 Z = true) : ∀ d ∈ words, d.before args s = true := fun d hd => by
  have q := hw d hd
  have t : ∀ d ∈ words, d = .arrayClass .byte ∨ (d.onTables && d.keepsFace) = true := by decide +kernel
  rcases t d hd with rfl | t
  · exact RoadKit.mvA hZ q
  · exact RoadKit.mv hZ q t
/-- WHAT COMES BACK, over the tables of the start Z: h the heap at the call, h' behind it -/
def Q (Z : State) (x : Addr) (A : Cell) (h : Heap) (v : Option Value) (h' : Heap) (L : List Loc) : Prop := v = none ∧ (∀ y ∈ L, y.base = x) ∧ RoadKit.Keep h h' [x] ∧ h'.size = h.size + 1 ∧ RoadKit.Exa Z h' x ST ∧ RoadKit.Fld Z h' x ST "value" "[B" (.ref h.size) ∧ RoadKit.Fld Z h' x ST "coder" "B" (.int 0) ∧
  (∃ V : Cell, RoadKit.Arr Z h' h.size V .byte ∧ V.vm = .none ∧ Z.vm.findClass "[B" = some V.cls ∧ V.slots.size = A.slots.size ∧ ∀ j, j < A.slots.size → V.slots[j]? = some (.int (lo8 (cv A j)))) ∧
  ∀ (O n d : String) (w : Value), RoadKit.Fld Z h x O n d w → RoadKit.slotOf Z O n d ≠ RoadKit.slotOf Z ST "value" "[B" → RoadKit.slotOf Z O n d ≠ RoadKit.slotOf Z ST "coder" "B" → RoadKit.Fld Z h' x O n d w
/-- **new String(chars) AT A CALL, IN THE ROAD'S FORM**: for specialBack behind newO: x the fresh String, b the char[] with the cell A -/
theorem back {p : Program} {l : Launch} {e : Env} {R : Room} {s : State} {args : Array Value} {below : List Frame} {len W : Nat} {Z : State} {a0 : Array Value} {h : Heap} (hZ : Z.Warmed39 s.vm) (hw : ∀ d ∈ words, d.before a0 Z = true) {kI : Nat} (wi : (Jvm.Cond.instantiable ST kI).before a0 Z = true)
    {x b : Addr} {A : Cell} {z : Int32} {v0 c0 : Value} (E : RoadKit.Exa Z h x ST) (V : RoadKit.Fld Z h x ST "value" "[B" v0) (C : RoadKit.Fld Z h x ST "coder" "B" c0) (K : RoadKit.Arr Z h b A .char) (hty : Typed .char A) (S : RoadKit.Sta Z h ST "COMPACT_STRINGS" "Z" (.int z)) (hz : ¬ z = 0)
    (l0 : 0 < A.slots.size) (l2 : A.slots.size ≤ 536870912) (hp : ∀ i, i < A.slots.size → ¬ 255 < cv A i) (hfr : 4 ≤ R.frames) (hlo : W + 65 ≤ R.locals) :
    Back l R p e below s args New1.yN len W (fun P a => a = #[.ref x, .ref b] ∧ P.U.heap = h ∧ P.cells + 1 ≤ R.cells ∧ P.slots + A.slots.size ≤ R.slots)
      (fun P _ v B => ∃ L, Q Z x A h v B.U.heap L ∧ B.locs = P.locs ++ L ∧ B.cells = P.cells + 1 ∧ B.slots = P.slots + A.slots.size) := by
  intro m meth c P g ig mk a X hg hsize hdg hW hn hp'
  obtain ⟨rfl, rfl, r1, r2⟩ := hp'
  have al : Z.vm.Alike P.U.vm := hZ.alike.trans X.warmed.alike
  obtain ⟨D, cfV, kV, iV, fV, hD, gV, stV, knV, obV, asV, slV⟩ := id V
  obtain ⟨D', cfC, kC, iC, fC, hD', gC, stC, -, -, asC, slC⟩ := id C
  cases hD.symm.trans hD'
  obtain ⟨D2, kD, e1, e2, e3, e4, e5⟩ := id E
  cases hD.symm.trans e1
  obtain ⟨c2, k2, i1, i2, i3, -⟩ := Cond.instantiable_spec wi
  cases e2.symm.trans i1
  cases e3.symm.trans i2
  obtain ⟨kU, u1, u2⟩ := al.2.2 _ _ e3
  have hB : Blank ST x D P.U := ⟨hD, ⟨knV, fun q hq => by rw [hq] at obV; cases obV⟩, by rw [al.findClass]; exact e2, kU, u1, by rw [u2]; exact i3, by rw [u2]; exact e5 i3⟩
  have F1 : Found ST "value" "[B" fV P.U := ⟨SBG.found_only al ⟨cfV, kV, iV, gV⟩, stV⟩
  have F2 : Found ST "coder" "B" fC P.U := ⟨SBG.found_only al ⟨cfC, kC, iC, gC⟩, stC⟩
  have hA : Ch b A P.U := ⟨⟨K.1, State.isArrayOf_alike al K.2.1, K.2.2, by omega⟩, hty⟩
  have hS : StaticIs P.U ST "COMPACT_STRINGS" "Z" (.int z) := by
    obtain ⟨cfS, iS, kS, fS, st, cS, t1, t2, t3, t4, t5, t6, t7⟩ := S
    exact StaticIs.there (s := { Z with heap := P.U.heap }) ⟨cfS, iS, kS, fS, st, cS, t1, t2, t3, t4, t5, (fun q => by rw [q] at t6; cases t6), t7⟩ al rfl
  obtain ⟨v, B, X', ⟨⟨hv, E', V', q1, q2, q3, q4, q5, q6, q7, q8, q9, q10, q11⟩, hl, hc, hs⟩, st⟩ := New1.pays x D fV fC b A z (tab_of (moved hZ hw)) hfr hlo m meth c P g ig mk _ X hg hsize hdg hW hn ⟨r1, r2, rfl, hB, F1, F2, hA, hS, hz, l0, l2, hp⟩
  have al' : Z.vm.Alike B.U.vm := hZ.alike.trans X'.warmed.alike
  have hsz : E'.slots.size = D.slots.size := by
    obtain ⟨-, -, -, kB, w1, w2, w3⟩ := q1
    obtain ⟨kB', y1, y2⟩ := al'.2.2 _ _ e3
    rw [q2.2.1] at w1
    cases w1.symm.trans y1
    rw [w3, e5 i3, y2]
  refine ⟨v, B, X', ⟨_, ⟨hv, ?_, ⟨by omega, fun y cy hy hn' => q10 y cy (by simpa using hn') hy, fun y cy hy => ?_⟩, q11, ⟨E', _, q1.1, by rw [q2.2.1]; exact e2, by rw [q2.2.1]; exact e3, by rw [q2.1]; exact obV, fun _ => by rw [hsz]; exact e5 i3⟩,
    ⟨E', cfV, kV, iV, fV, q1.1, gV, stV, by rw [q2.1]; exact knV, by rw [q2.1]; exact obV, by rw [q2.2.1]; exact asV, q3⟩, ⟨E', cfC, kC, iC, fC, q1.1, gC, stC, by rw [q2.1]; exact knV, by rw [q2.1]; exact obV, by rw [q2.2.1]; exact asC, q4⟩,
    ⟨V', ⟨q5.1, State.isArrayOf_alike al'.symm q5.2.1, q5.2.2.1⟩, q6, by rw [← al'.findClass]; exact q7, q8, fun j hj => by have := q9 j hj; rwa [Nat.zero_add] at this⟩, fun O n d w F n1 n2 => ?_⟩, hl, hc, hs⟩, st⟩
  · intro y hy
    simp only [List.mem_cons, List.not_mem_nil, or_false] at hy
    rcases hy with rfl | rfl <;> rfl
  · by_cases q : y = x
    · subst q
      cases hD.symm.trans hy
      exact ⟨E', q1.1, q2.2.1, q2.1, hsz⟩
    · exact ⟨cy, q10 y cy q hy, rfl, rfl, rfl⟩
  · obtain ⟨D3, cf, k, i, f, g1, g2, g3, g4, g5, g6, g7⟩ := F
    cases hD.symm.trans g1
    simp only [RoadKit.slotOf, g2, gV, gC, Option.map_some, Option.getD_some] at n1 n2
    exact ⟨E', cf, k, i, f, q1.1, g2, g3, by rw [q2.1]; exact g4, by rw [q2.1]; exact g5, by rw [q2.2.1]; exact g6, by rw [q2.2.2 f.slot (by simp [n1, n2])]; exact g7⟩
end StrChars.Road
namespace StrChars.Road
open Jvm Sem ClassFile Op Lib Jvm.Stand Jvm.Free Jvm.Free.XT
/-- WHAT COMES BACK, the byte[] as a list of values -/
def QA (Z : State) (x : Addr) (zn : Int32) (cs : List Int32) (h : Heap) (v : Option Value) (h' : Heap) (L : List Loc) : Prop := v = none ∧ (∀ y ∈ L, y.base = x) ∧ RoadKit.Keep h h' [x] ∧ h'.size = h.size + 1 ∧ RoadKit.Exa Z h' x ST ∧ RoadKit.Fld Z h' x ST "value" "[B" (.ref h.size) ∧ RoadKit.Fld Z h' x ST "coder" "B" (.int 0) ∧
  (∃ kb, Z.vm.findClass "[B" = some kb ∧ RoadKit.Arv Z h' h.size kb .byte zn (cs.map fun c => .int (lo8 c)) (.int 0)) ∧
  ∀ (O n d : String) (w : Value), RoadKit.Fld Z h x O n d w → RoadKit.slotOf Z O n d ≠ RoadKit.slotOf Z ST "value" "[B" → RoadKit.slotOf Z O n d ≠ RoadKit.slotOf Z ST "coder" "B" → RoadKit.Fld Z h' x O n d w
/-- **new String(chars) AT A CALL, THE ARRAYS AS LISTS**: the char[] at b holds cs, not empty, no char above 255 -/
theorem backArv {p : Program} {l : Launch} {e : Env} {R : Room} {s : State} {args : Array Value} {below : List Frame} {len W : Nat} {Z : State} {a0 : Array Value} {h : Heap} (hZ : Z.Warmed39 s.vm) (hw : ∀ d ∈ words, d.before a0 Z = true) {kI : Nat} (wi : (Jvm.Cond.instantiable ST kI).before a0 Z = true)
    {x b : Addr} {k : ClassId} {zn z : Int32} {cs : List Int32} {dv v0 c0 : Value} (E : RoadKit.Exa Z h x ST) (V : RoadKit.Fld Z h x ST "value" "[B" v0) (C : RoadKit.Fld Z h x ST "coder" "B" c0) (K : RoadKit.Arv Z h b k .char zn (cs.map Value.int) dv) (S : RoadKit.Sta Z h ST "COMPACT_STRINGS" "Z" (.int z)) (hz : ¬ z = 0)
    (hlen : zn.toNatClampNeg = cs.length) (h0 : 0 < cs.length) (hbig : cs.length ≤ 536870912) (hall : ∀ c ∈ cs, ¬ 255 < c) (hfr : 4 ≤ R.frames) (hlo : W + 65 ≤ R.locals) :
    Back l R p e below s args New1.yN len W (fun P a => a = #[.ref x, .ref b] ∧ P.U.heap = h ∧ P.cells + 1 ≤ R.cells ∧ P.slots + cs.length ≤ R.slots)
      (fun P _ v B => ∃ L, QA Z x zn cs h v B.U.heap L ∧ B.locs = P.locs ++ L ∧ B.cells = P.cells + 1 ∧ B.slots = P.slots + cs.length) := by
  obtain ⟨A, K1, K2, K3, K4, K5, K6⟩ := K
  have e : A.slots.size = cs.length := K3.trans hlen
  have hat : ∀ (i : Nat) (hi : i < cs.length), A.slots[i]? = some (.int cs[i]) := fun i hi => by rw [K5 i (by omega)]; simp [List.getD_eq_getElem?_getD, hi]
  have hcv : ∀ (i : Nat) (hi : i < cs.length), cv A i = cs[i] := fun i hi => by unfold cv; rw [hat i hi]
  have hty : Typed .char A := fun i v hv => by
    have hi : i < A.slots.size := (Array.getElem?_eq_some_iff.mp hv).1
    have q := K5 i hi
    rw [hv] at q
    rw [Option.some.inj q]
    exact K6 i hi
  refine Back.mono (back hZ hw wi E V C K1 hty S hz (by omega) (by omega) (fun i hi => by rw [hcv i (by omega)]; exact hall _ (List.getElem_mem _)) hfr hlo) (fun P a hp => ⟨hp.1, hp.2.1, hp.2.2.1, by rw [e]; exact hp.2.2.2⟩) (fun P a v B hp hq => ?_)
  obtain ⟨L, ⟨q1, q2, q3, q4, q5, q6, q7, ⟨V', v1, v2, v3, v4, v5⟩, q9⟩, hl, hc, hs⟩ := hq
  refine ⟨L, ⟨q1, q2, q3, q4, q5, q6, q7, ⟨V'.cls, v3, V', v1, rfl, by rw [v4, e, hlen], K4, fun i hi => ?_, fun i hi => ?_⟩, q9⟩, hl, hc, by rw [hs, e]⟩
  · have hi' : i < cs.length := by omega
    rw [v5 i (by omega), hcv i hi']; simp [List.getD_eq_getElem?_getD, hi']
  · have hi' : i < cs.length := by omega
    simp only [List.getD_eq_getElem?_getD, List.getElem?_map, List.getElem?_eq_getElem hi', Option.map_some, Option.getD_some]
    exact fits_lo8 _
end StrChars.Road
namespace StrChars.Road
open Jvm Sem ClassFile Op Lib Jvm.Stand Jvm.Free Jvm.Free.XT
/-- WHAT COMES BACK, in the writer's own shape -/
def QV (Z : State) (x : Addr) (N : Int32) (bs : List Int32) (h : Heap) (n0 : Nat) (v : Option Value) (h' : Heap) (L : List Loc) : Prop := v = none ∧ RoadKit.Fr n0 L ∧ RoadKit.Keep h h' [x] ∧ RoadKit.Exa Z h' x ST ∧ RoadKit.Fld Z h' x ST "coder" "B" (.int 0) ∧
  ∃ (t : Addr) (kb : ClassId), n0 ≤ t ∧ h.size ≤ t ∧ ¬ t = x ∧ RoadKit.Fld Z h' x ST "value" "[B" (.ref t) ∧ RoadKit.Arv Z h' t kb .byte N (bs.map Value.int) (.int 0)
/-- **new String(chars) AT A CALL, FOR THE WRITER**: a char[] of n known ints, each 0 to 255 -/
theorem backV {p : Program} {l : Launch} {e : Env} {R : Room} {s : State} {args : Array Value} {below : List Frame} {len W : Nat} {Z : State} {a0 : Array Value} {h : Heap} (hZ : Z.Warmed39 s.vm) (hw : ∀ d ∈ words, d.before a0 Z = true) {kI : Nat} (wi : (Jvm.Cond.instantiable ST kI).before a0 Z = true)
    {x b : Addr} {kC : ClassId} {cs bs : List Int32} {d v0 c0 : Value} {z N : Int32} {n n0 : Nat} (hx0 : n0 ≤ x) (hh0 : n0 ≤ h.size) (E : RoadKit.Exa Z h x ST) (V : RoadKit.Fld Z h x ST "value" "[B" v0) (C : RoadKit.Fld Z h x ST "coder" "B" c0) (K : RoadKit.Arv Z h b kC .char N (cs.map Value.int) d) (S : RoadKit.Sta Z h ST "COMPACT_STRINGS" "Z" (.int z)) (hz : ¬ z = 0)
    (hn : cs.length = n) (hN : N = Int32.ofNat n) (l0 : 0 < n) (l2 : n ≤ 4000) (hp : ∀ c ∈ cs, ¬ c < 0 ∧ ¬ (255 : Int32) < c) (hb : bs = cs.map (fun c => c.toInt8.toInt32)) (hfr : 4 ≤ R.frames) (hlo : W + 65 ≤ R.locals) :
    Back l R p e below s args (⟨"java/lang/String", "<init>", "([C)V"⟩ : MethodName) len W (fun P a => a = #[.ref x, .ref b] ∧ P.U.heap = h ∧ P.cells + 1 ≤ R.cells ∧ P.slots + n ≤ R.slots)
      (fun P _ v B => ∃ L, QV Z x N bs h n0 v B.U.heap L ∧ B.locs = P.locs ++ L ∧ B.cells = P.cells + 1 ∧ B.slots = P.slots + n) := by
  subst hn hN hb
  refine Back.mono (backArv hZ hw wi E V C K S hz (n32 (by omega)) l0 (by omega) (fun c hc => (hp c hc).2) hfr hlo) (fun P a hp => hp) (fun P a v B hp hq => ?_)
  obtain ⟨L, ⟨q1, q2, q3, q4, q5, q6, q7, ⟨kb, v1, v2⟩, q9⟩, hl, hc, hs⟩ := hq
  exact ⟨L, ⟨q1, fun y hy => by rw [q2 y hy]; exact hx0, q3, q5, q7, h.size, kb, hh0, Nat.le_refl _, Nat.ne_of_gt E.lt, q6, by rw [List.map_map]; exact v2⟩, hl, hc, hs⟩
end StrChars.Road
namespace StrChars
open Jvm Sem ClassFile Op Lib Jvm.Stand Jvm.Free.XT Jvm.Free.ALB Jvm.Free.JM Jvm.Free
open Jvm.Lib.Cold (StaticIs)
def hi8 (x : Int32) : Int32 := lo8 (x >>> ((8 : Int32) &&& 31))
end StrChars
namespace StrChars.Road
open Jvm Sem ClassFile Op Lib Jvm.Stand Jvm.Free Jvm.Free.XT
open Jvm.Lib.Cold (StaticIs)
/-- the bytes of the chars cs, low before high -/
def wideBytes : List Int32 → List Value
  | [] => []
  | c :: cs => .int (lo8 c) :: .int (hi8 c) :: wideBytes cs
/-- an array of N2 bytes vs codes the chars cs by the coder cd -/
def CodA (cs : List Int32) (cd N2 : Int32) (vs : List Value) : Prop := (cd = 0 ∧ N2 = Int32.ofNat cs.length ∧ vs = (cs.map fun c => Value.int (lo8 c)) ∧ ∀ c ∈ cs, ¬ 255 < c) ∨ (cd = 1 ∧ N2 = Int32.ofNat (2 * cs.length) ∧ vs = wideBytes cs ∧ ∃ c ∈ cs, 255 < c)
end StrChars.Road
namespace StrChars.Road
open Jvm Sem ClassFile Op Lib Jvm.Stand Jvm.Free Jvm.Free.XT
open Jvm.Lib.Cold (StaticIs)
/-- what backV says of its String, as the contracts of this text ask it: cs's low bytes, coder 0 -/
theorem codOf {cs : List Int32} {n : Nat} (hn : cs.length = n) (hb : ∀ c ∈ cs, ¬ 255 < c) : CodA cs 0 (Int32.ofNat n) ((cs.map lo8).map Value.int) := Or.inl ⟨rfl, by rw [hn], by simp [List.map_map, Function.comp_def], hb⟩
end StrChars.Road
end Jvm.Pilot.@@N@@
namespace Jvm.Pilot.@@N@@
open Jvm Jvm.ClassFile Sem Op Lib Jvm.Free Jvm.Stand Jvm.LawKit Jvm.RoadKit Bundle Jvm.Pilot.@@N@@.Jvm.D
set_option maxRecDepth 65536
set_option maxHeartbeats 40000000
section OwnKit
variable {p : Program} {l : Launch} {e : Env} {R : Room} {s : State} {m : MethodId} {args : Array Value} {below : List Frame} {meth : Method} {c : Code} {T : State} {locs : List Loc} {cells slots : Nat} {Z : State} {a0 : Array Value} {h : Heap} {own : String} {cd : ByteArray} {maxL : Nat} {ret : Option FieldType} {nm : String} {n0 : Nat} {F : Option Value → Heap → Prop} {kc ks : Nat} {En : Outcome → State → Prop} {pc : Nat} {ls : Array Slot} {st : List Value}
/-- from the frame g over T the method runs to its end, returns v, leaves a heap, F holds of both; only new cells are written -/
def own_Go (p : Program) (e : Env) (below : List Frame) (En : Outcome → State → Prop) (T : State) (g : JFrame) : Prop :=
  ∃ s₂ o, Steps p.tables e below (T.setTop g) s₂ ∧ s₂.status = .running ∧ Ended s₂ below o ∧ En o s₂
def own_En (s : State) (n0 : Nat) (F : Option Value → Heap → Prop) (kc ks : Nat) (o : Outcome) (s₂ : State) : Prop := ∃ v L, o = .returned v ∧ (F v s₂.heap ∧ Fr n0 L) ∧ FrameEnd s o s₂ L kc ks
theorem own_step {T' : State} {g g' : JFrame} (st : ∀ t, Steps p.tables e below (T'.setTop g') t → Steps p.tables e below (T.setTop g) t) (k : own_Go p e below En T' g') : own_Go p e below En T g := by
  obtain ⟨s₂, o, h1, h2⟩ := k
  exact ⟨s₂, o, st _ h1, h2⟩
/-- what stays the same in one body -/
def own_Cx (p : Program) (s : State) (m : MethodId) (meth : Method) (c : Code) (Z : State) (own : String) (cd : ByteArray) (maxL : Nat) (ret : Option FieldType) (nm : String) : Prop :=
  p.tables.exec = Jvm.exec ∧ c.code = cd ∧ c.maxLocals = maxL ∧ s.vm.findClass own = some m.cls ∧ meth.name = nm ∧ meth.sig.returnType = ret ∧ meth.locks = false ∧ Z.Warmed39 s.vm
/-- where the walk stands: the heap is h, at most so many cells and slots have been made, nothing old was written -/
def own_S (p : Program) (l : Launch) (e : Env) (R : Room) (s : State) (m : MethodId) (args : Array Value) (below : List Frame) (meth : Method) (c : Code) (n0 : Nat) (T : State) (h : Heap) (cells slots : Nat) : Prop :=
  ∃ locs k n, Stand p l e R s m args below meth c T locs k n ∧ T.heap = h ∧ Fr n0 locs ∧ k ≤ cells ∧ n ≤ slots
theorem own_S.mono {c' s' : Nat} (S : own_S p l e R s m args below meth c n0 T h cells slots) (h1 : cells ≤ c') (h2 : slots ≤ s') : own_S p l e R s m args below meth c n0 T h c' s' := by
  obtain ⟨locs, k, n, X, e1, N, q1, q2⟩ := S
  exact ⟨locs, k, n, X, e1, N, Nat.le_trans q1 h1, Nat.le_trans q2 h2⟩
theorem own_hd (C : own_Cx p s m meth c Z own cd maxL ret nm) {i : Instr} {len : Nat} (hd : decode cd pc = .ok (i, len)) : decode c.code pc = .ok (i, len) := by rw [C.2.1]; exact hd
theorem own_hsz (C : own_Cx p s m meth c Z own cd maxL ret nm) (hsz : ls.size = maxL) : ls.size = c.maxLocals := by rw [C.2.2.1]; exact hsz
/-- the k-th table word -/
theorem own_wd {L : List Jvm.Cond} (hw : ∀ d ∈ L, d.before a0 Z = true) (i : Nat) {d : Jvm.Cond} (hi : L[i]? = some d) : d.before a0 Z = true := hw d (List.mem_of_getElem? hi)
/-- one plain instruction -/
def own_st (i : Instr) (len pc : Nat) (ls : Array Slot) (st : List Value) : Option (Nat × Array Slot × List Value) :=
  match i with
  | .iload_n k => match len, ls[k.val]? with | 1, some (.val (.int v)) => some (pc + 1, ls, .int v :: st) | _, _ => none
  | .iload k => match len, ls[k]? with | 2, some (.val (.int v)) => some (pc + 2, ls, .int v :: st) | _, _ => none
  | .lload_n k => match len, ls[k.val]? with | 1, some (.val (.long v)) => some (pc + 1, ls, .long v :: st) | _, _ => none
  | .lload k => match len, ls[k]? with | 2, some (.val (.long v)) => some (pc + 2, ls, .long v :: st) | _, _ => none
  | .dload_n k => match len, ls[k.val]? with | 1, some (.val (.double v)) => some (pc + 1, ls, .double v :: st) | _, _ => none
  | .dload k => match len, ls[k]? with | 2, some (.val (.double v)) => some (pc + 2, ls, .double v :: st) | _, _ => none
  | .aload_n k => match len, ls[k.val]? with | 1, some (.val (.ref v)) => some (pc + 1, ls, .ref v :: st) | 1, some (.val .null) => some (pc + 1, ls, .null :: st) | _, _ => none
  | .aload k => match len, ls[k]? with | 2, some (.val (.ref v)) => some (pc + 2, ls, .ref v :: st) | 2, some (.val .null) => some (pc + 2, ls, .null :: st) | _, _ => none
  | .istore_n k => match len, st with | 1, .int x :: r => (match storeLocals ls k.val (.int x) with | some l' => some (pc + 1, l', r) | none => none) | _, _ => none
  | .istore k => match len, st with | 2, .int x :: r => (match storeLocals ls k (.int x) with | some l' => some (pc + 2, l', r) | none => none) | _, _ => none
  | .lstore_n k => match len, st with | 1, .long x :: r => (match storeLocals ls k.val (.long x) with | some l' => some (pc + 1, l', r) | none => none) | _, _ => none
  | .lstore k => match len, st with | 2, .long x :: r => (match storeLocals ls k (.long x) with | some l' => some (pc + 2, l', r) | none => none) | _, _ => none
  | .dstore_n k => match len, st with | 1, .double x :: r => (match storeLocals ls k.val (.double x) with | some l' => some (pc + 1, l', r) | none => none) | _, _ => none
  | .dstore k => match len, st with | 2, .double x :: r => (match storeLocals ls k (.double x) with | some l' => some (pc + 2, l', r) | none => none) | _, _ => none
  | .astore_n k => match len, st with
    | 1, .ref x :: r => (match storeLocals ls k.val (.ref x) with | some l' => some (pc + 1, l', r) | none => none)
    | 1, .null :: r => (match storeLocals ls k.val .null with | some l' => some (pc + 1, l', r) | none => none)
    | _, _ => none
  | .astore k => match len, st with
    | 2, .ref x :: r => (match storeLocals ls k (.ref x) with | some l' => some (pc + 2, l', r) | none => none)
    | 2, .null :: r => (match storeLocals ls k .null with | some l' => some (pc + 2, l', r) | none => none)
    | _, _ => none
  | .iinc k d => match len, ls[k]? with | 3, some (.val (.int x)) => (match storeLocals ls k (.int (x + Int32.ofInt d)) with | some l' => some (pc + 3, l', st) | none => none) | _, _ => none
  | .iconst i => match len with | 1 => some (pc + 1, ls, .int (Int32.ofInt i) :: st) | _ => none
  | .bipush i => match len with | 2 => some (pc + 2, ls, .int (Int8.ofInt i).toInt32 :: st) | _ => none
  | .sipush i => match len with | 3 => some (pc + 3, ls, .int (Int16.ofInt i).toInt32 :: st) | _ => none
  | .lconst k => match len with | 1 => some (pc + 1, ls, .long (Int64.ofNat k) :: st) | _ => none
  | .aconst_null => match len with | 1 => some (pc + 1, ls, .null :: st) | _ => none
  | .iadd => match len, st with | 1, .int y :: .int x :: r => some (pc + 1, ls, .int (x + y) :: r) | _, _ => none
  | .isub => match len, st with | 1, .int y :: .int x :: r => some (pc + 1, ls, .int (x - y) :: r) | _, _ => none
  | .imul => match len, st with | 1, .int y :: .int x :: r => some (pc + 1, ls, .int (x * y) :: r) | _, _ => none
  | .iand => match len, st with | 1, .int y :: .int x :: r => some (pc + 1, ls, .int (x &&& y) :: r) | _, _ => none
  | .ior => match len, st with | 1, .int y :: .int x :: r => some (pc + 1, ls, .int (x ||| y) :: r) | _, _ => none
  | .ixor => match len, st with | 1, .int y :: .int x :: r => some (pc + 1, ls, .int (x ^^^ y) :: r) | _, _ => none
  | .ishl => match len, st with | 1, .int y :: .int x :: r => some (pc + 1, ls, .int (x <<< (y &&& 31)) :: r) | _, _ => none
  | .ishr => match len, st with | 1, .int y :: .int x :: r => some (pc + 1, ls, .int (x >>> (y &&& 31)) :: r) | _, _ => none
  | .iushr => match len, st with | 1, .int y :: .int x :: r => some (pc + 1, ls, .int (Jvm.Free.XT.ushr x y) :: r) | _, _ => none
  | .ineg => match len, st with | 1, .int x :: r => some (pc + 1, ls, .int (-x) :: r) | _, _ => none
  | .ladd => match len, st with | 1, .long y :: .long x :: r => some (pc + 1, ls, .long (x + y) :: r) | _, _ => none
  | .lsub => match len, st with | 1, .long y :: .long x :: r => some (pc + 1, ls, .long (x - y) :: r) | _, _ => none
  | .lmul => match len, st with | 1, .long y :: .long x :: r => some (pc + 1, ls, .long (x * y) :: r) | _, _ => none
  | .land => match len, st with | 1, .long y :: .long x :: r => some (pc + 1, ls, .long (x &&& y) :: r) | _, _ => none
  | .lor => match len, st with | 1, .long y :: .long x :: r => some (pc + 1, ls, .long (x ||| y) :: r) | _, _ => none
  | .lshl => match len, st with | 1, .int y :: .long x :: r => some (pc + 1, ls, .long (x <<< (y.toInt64 &&& 63)) :: r) | _, _ => none
  | .lshr => match len, st with | 1, .int y :: .long x :: r => some (pc + 1, ls, .long (x >>> (y.toInt64 &&& 63)) :: r) | _, _ => none
  | .lushr => match len, st with | 1, .int y :: .long x :: r => some (pc + 1, ls, .long (Jvm.Free.XT.ushrL x y) :: r) | _, _ => none
  | .lcmp => match len, st with | 1, .long y :: .long x :: r => some (pc + 1, ls, .int (Jvm.Free.XT.cmpL x y) :: r) | _, _ => none
  | .i2l => match len, st with | 1, .int x :: r => some (pc + 1, ls, .long x.toInt64 :: r) | _, _ => none
  | .l2i => match len, st with | 1, .long x :: r => some (pc + 1, ls, .int x.toInt32 :: r) | _, _ => none
  | .i2b => match len, st with | 1, .int x :: r => some (pc + 1, ls, .int x.toInt8.toInt32 :: r) | _, _ => none
  | .i2c => match len, st with | 1, .int x :: r => some (pc + 1, ls, .int x.toUInt32.toUInt16.toUInt32.toInt32 :: r) | _, _ => none
  | .i2s => match len, st with | 1, .int x :: r => some (pc + 1, ls, .int x.toInt16.toInt32 :: r) | _, _ => none
  | .i2d => match len, st with | 1, .int x :: r => some (pc + 1, ls, .double (FP.i2d x) :: r) | _, _ => none
  | .dup => match len, st with | 1, .int x :: r => some (pc + 1, ls, .int x :: .int x :: r) | 1, .ref x :: r => some (pc + 1, ls, .ref x :: .ref x :: r) | 1, .null :: r => some (pc + 1, ls, .null :: .null :: r) | _, _ => none
  | .pop => match len, st with | 1, .int x :: r => some (pc + 1, ls, r) | 1, .ref x :: r => some (pc + 1, ls, r) | 1, .null :: r => some (pc + 1, ls, r) | _, _ => none
  | .dup_x1 => match len, st with | 1, .int x :: .ref y :: r => some (pc + 1, ls, .int x :: .ref y :: .int x :: r) | 1, .int x :: .int y :: r => some (pc + 1, ls, .int x :: .int y :: .int x :: r) | 1, .ref x :: .ref y :: r => some (pc + 1, ls, .ref x :: .ref y :: .ref x :: r) | _, _ => none
  | .dup2 => match len, st with | 1, .int x :: .ref y :: r => some (pc + 1, ls, .int x :: .ref y :: .int x :: .ref y :: r) | 1, .int x :: .int y :: r => some (pc + 1, ls, .int x :: .int y :: .int x :: .int y :: r) | 1, .long x :: r => some (pc + 1, ls, .long x :: .long x :: r) | _, _ => none
  | .goto o => match len, decide (0 ≤ (pc : Int) + o) with | 3, true => some (((pc : Int) + o).toNat, ls, st) | _, _ => none
  | .ifnull o => match len, st, decide (0 ≤ (pc : Int) + o) with | 3, .null :: r, true => some (((pc : Int) + o).toNat, ls, r) | 3, .ref _ :: r, _ => some (pc + 3, ls, r) | _, _, _ => none
  | .ifnonnull o => match len, st, decide (0 ≤ (pc : Int) + o) with | 3, .ref _ :: r, true => some (((pc : Int) + o).toNat, ls, r) | 3, .null :: r, _ => some (pc + 3, ls, r) | _, _, _ => none
  | _ => none
theorem own_st_ok (X : Stand p l e R s m args below meth c T locs cells slots) (hx : p.tables.exec = Jvm.exec) {i : Instr} {len pc' : Nat} {ls' : Array Slot} {st' : List Value} (hd : decode c.code pc = .ok (i, len)) (hs : own_st i len pc ls st = some (pc', ls', st')) (t : State)
    (k : Steps p.tables e below (T.setTop (mkF m pc' ls' st')) t) : Steps p.tables e below (T.setTop (mkF m pc ls st)) t := by
  unfold own_st at hs
  split at hs
  · split at hs <;> first | cases hs | skip
    rename_i q; exact XS.iloadN X.here hx rfl hd q k
  · split at hs <;> first | cases hs | skip
    rename_i q; exact XS.iload X.here hx rfl hd q k
  · split at hs <;> first | cases hs | skip
    rename_i q; exact Jvm.Free.XT.lloadN X.here hx rfl hd q k
  · split at hs <;> first | cases hs | skip
    rename_i q; exact Jvm.Free.XT.lload X.here hx rfl hd q k
  · split at hs <;> first | cases hs | skip
    rename_i q; exact XS.dloadN X.here hx rfl hd q k
  · split at hs <;> first | cases hs | skip
    rename_i q; exact XS.dload X.here hx rfl hd q k
  · split at hs <;> first | cases hs | skip
    · rename_i q; exact XS.aloadN X.here hx rfl hd q rfl k
    · rename_i q; exact XS.aloadN X.here hx rfl hd q rfl k
  · split at hs <;> first | cases hs | skip
    · rename_i q; exact XS.aload X.here hx rfl hd q rfl k
    · rename_i q; exact XS.aload X.here hx rfl hd q rfl k
  · split at hs <;> first | cases hs | skip
    split at hs <;> first | cases hs | skip
    rename_i q; exact XS.istoreN X.here hx rfl hd rfl q k
  · split at hs <;> first | cases hs | skip
    split at hs <;> first | cases hs | skip
    rename_i q; exact XS.istore X.here hx rfl hd rfl q k
  · split at hs <;> first | cases hs | skip
    split at hs <;> first | cases hs | skip
    rename_i q; exact Jvm.Free.XT.lstoreN X.here hx rfl hd rfl q k
  · split at hs <;> first | cases hs | skip
    split at hs <;> first | cases hs | skip
    rename_i q; exact Jvm.Free.XT.lstore X.here hx rfl hd rfl q k
  · split at hs <;> first | cases hs | skip
    split at hs <;> first | cases hs | skip
    rename_i q; exact XS.dstoreN X.here hx rfl hd rfl q k
  · split at hs <;> first | cases hs | skip
    split at hs <;> first | cases hs | skip
    rename_i q; exact XS.dstore X.here hx rfl hd rfl q k
  · split at hs <;> first | cases hs | skip
    all_goals
      split at hs <;> first | cases hs | skip
      rename_i q; exact XS.astoreN X.here hx rfl hd rfl rfl q k
  · split at hs <;> first | cases hs | skip
    all_goals
      split at hs <;> first | cases hs | skip
      rename_i q; exact XS.astore X.here hx rfl hd rfl rfl q k
  · split at hs <;> first | cases hs | skip
    rename_i q0
    split at hs <;> first | cases hs | skip
    rename_i q; exact XS.iinc X.here hx rfl hd q0 q k
  · split at hs <;> first | cases hs | skip
    exact XS.iconst X.here hx rfl hd k
  · split at hs <;> first | cases hs | skip
    exact XS.bipush X.here hx rfl hd k
  · split at hs <;> first | cases hs | skip
    exact XS.sipush X.here hx rfl hd k
  · split at hs <;> first | cases hs | skip
    exact Jvm.Free.XT.lconst X.here hx rfl hd k
  · split at hs <;> first | cases hs | skip
    exact XS.aconstNull X.here hx rfl hd k
  · split at hs <;> first | cases hs | skip
    exact XS.iadd X.here hx rfl hd rfl k
  · split at hs <;> first | cases hs | skip
    exact XS.isub X.here hx rfl hd rfl k
  · split at hs <;> first | cases hs | skip
    exact XS.imul X.here hx rfl hd rfl k
  · split at hs <;> first | cases hs | skip
    exact XS.iand X.here hx rfl hd rfl k
  · split at hs <;> first | cases hs | skip
    exact Jvm.Free.XT.ior X.here hx rfl hd rfl k
  · split at hs <;> first | cases hs | skip
    exact Jvm.Free.XT.ixor X.here hx rfl hd rfl k
  · split at hs <;> first | cases hs | skip
    exact Jvm.Free.XT.ishl X.here hx rfl hd rfl k
  · split at hs <;> first | cases hs | skip
    exact Jvm.Free.XT.ishr X.here hx rfl hd rfl k
  · split at hs <;> first | cases hs | skip
    exact Jvm.Free.XT.iushr X.here hx rfl hd rfl k
  · split at hs <;> first | cases hs | skip
    exact XS.ineg X.here hx rfl hd rfl k
  · split at hs <;> first | cases hs | skip
    exact Jvm.Free.XT.ladd X.here hx rfl hd rfl k
  · split at hs <;> first | cases hs | skip
    exact Jvm.Free.XT.lsub X.here hx rfl hd rfl k
  · split at hs <;> first | cases hs | skip
    exact Jvm.Free.XT.lmul X.here hx rfl hd rfl k
  · split at hs <;> first | cases hs | skip
    exact Jvm.Free.XT.land X.here hx rfl hd rfl k
  · split at hs <;> first | cases hs | skip
    exact Jvm.Free.XT.lor X.here hx rfl hd rfl k
  · split at hs <;> first | cases hs | skip
    exact Jvm.Free.XT.lshl X.here hx rfl hd rfl k
  · split at hs <;> first | cases hs | skip
    exact Jvm.Free.XT.lshr X.here hx rfl hd rfl k
  · split at hs <;> first | cases hs | skip
    exact Jvm.Free.XT.lushr X.here hx rfl hd rfl k
  · split at hs <;> first | cases hs | skip
    exact Jvm.Free.XT.lcmp X.here hx rfl hd rfl k
  · split at hs <;> first | cases hs | skip
    exact Jvm.Free.XT.i2l X.here hx rfl hd rfl k
  · split at hs <;> first | cases hs | skip
    exact Jvm.Free.XT.l2i X.here hx rfl hd rfl k
  · split at hs <;> first | cases hs | skip
    exact Jvm.Free.XT.i2b X.here hx rfl hd rfl k
  · split at hs <;> first | cases hs | skip
    exact Jvm.Free.XT.i2c X.here hx rfl hd rfl k
  · split at hs <;> first | cases hs | skip
    exact Jvm.Free.XT.i2s X.here hx rfl hd rfl k
  · split at hs <;> first | cases hs | skip
    exact XS.i2dS X.here hx rfl hd rfl rfl k
  · split at hs <;> first | cases hs | skip
    all_goals exact XS.dup X.here hx rfl hd rfl rfl k
  · split at hs <;> first | cases hs | skip
    all_goals exact Jvm.Free.XT.pop X.here hx rfl hd rfl rfl k
  · split at hs <;> first | cases hs | skip
    all_goals exact Jvm.Free.XT.dupX1 X.here hx rfl hd rfl rfl rfl k
  · split at hs <;> first | cases hs | skip
    · exact Jvm.Free.XT.dup2 X.here hx rfl hd rfl rfl rfl k
    · exact Jvm.Free.XT.dup2 X.here hx rfl hd rfl rfl rfl k
    · exact Jvm.Free.XT.dup2L X.here hx rfl hd rfl k
  · split at hs <;> first | cases hs | skip
    rename_i q; exact XS.goto X.here hx rfl rfl hd (of_decide_eq_true q) rfl k
  · split at hs <;> first | cases hs | skip
    · rename_i q; exact XS.ifnullYes X.here hx rfl rfl hd rfl (of_decide_eq_true q) rfl k
    · exact XS.ifnullNo X.here hx rfl hd rfl k
  · split at hs <;> first | cases hs | skip
    · rename_i q; exact Jvm.Free.XT.ifnonnullYes X.here hx rfl rfl hd rfl (of_decide_eq_true q) rfl k
    · exact Jvm.Free.XT.ifnonnullNo X.here hx rfl hd rfl k
  · cases hs
/-- a row of plain instructions -/
def own_run : List (Nat × Instr × Nat) → Nat → Array Slot → List Value → Option (Nat × Array Slot × List Value)
  | [], pc, ls, st => some (pc, ls, st)
  | x :: seg, pc, ls, st => match decide (pc = x.1) with
    | true => (match own_st x.2.1 x.2.2 x.1 ls st with | some (pc', ls', st') => own_run seg pc' ls' st' | none => none)
    | false => none
def own_dec (cd : ByteArray) (seg : List (Nat × Instr × Nat)) : Bool := seg.all fun x => decide (decode cd x.1 = .ok x.2)
theorem own_run_ok (X : Stand p l e R s m args below meth c T locs cells slots) (hx : p.tables.exec = Jvm.exec) (hby : c.code = cd) : ∀ (seg : List (Nat × Instr × Nat)) {pc pc' : Nat} {ls ls' : Array Slot} {st st' : List Value}, own_dec cd seg = true → own_run seg pc ls st = some (pc', ls', st') → ∀ t,
    Steps p.tables e below (T.setTop (mkF m pc' ls' st')) t → Steps p.tables e below (T.setTop (mkF m pc ls st)) t := by
  intro seg
  induction seg with
  | nil =>
    intro pc pc' ls ls' st st' _ hr t k
    simp only [own_run, Option.some.injEq, Prod.mk.injEq] at hr
    obtain ⟨rfl, rfl, rfl⟩ := hr
    exact k
  | cons x seg ih =>
    intro pc pc' ls ls' st st' hd hr t k
    simp only [own_dec, List.all_cons, Bool.and_eq_true, decide_eq_true_eq] at hd
    simp only [own_run] at hr
    split at hr
    · rename_i q
      have q' : pc = x.1 := of_decide_eq_true q
      subst q'
      split at hr
      · rename_i a1 b1 c1 q2
        exact own_st_ok X hx (by rw [hby]; exact hd.1) q2 t (ih hd.2 hr t k)
      · cases hr
    · cases hr
theorem own_seg (C : own_Cx p s m meth c Z own cd maxL ret nm) (S : own_S p l e R s m args below meth c n0 T h cells slots) (seg : List (Nat × Instr × Nat)) (hd : own_dec cd seg = true) (pc' : Nat) (ls' : Array Slot) (st' : List Value)
    (hr : own_run seg pc ls st = some (pc', ls', st')) (k : own_Go p e below En T (mkF m pc' ls' st')) : own_Go p e below En T (mkF m pc ls st) := by
  obtain ⟨locs, kk, n, X, -⟩ := S
  exact own_step (own_run_ok X C.1 C.2.1 seg hd hr) k
def own_P : ClassFile.Cond → Int32 → Int32 → Prop
  | .eq, x, y => x = y | .ne, x, y => ¬ x = y | .lt, x, y => x < y | .ge, x, y => ¬ x < y | .gt, x, y => y < x | .le, x, y => ¬ y < x
def own_N : ClassFile.Cond → Int32 → Int32 → Prop
  | .eq, x, y => ¬ x = y | .ne, x, y => x = y | .lt, x, y => ¬ x < y | .ge, x, y => x < y | .gt, x, y => ¬ y < x | .le, x, y => y < x
theorem own_holds (q : ClassFile.Cond) (x y : Int32) : (own_P q x y ∧ if_icmp.holds q x y = true) ∨ (own_N q x y ∧ if_icmp.holds q x y = false) := by
  cases q
  · by_cases g : x = y
    · exact Or.inl ⟨g, (teq g).1⟩
    · exact Or.inr ⟨g, (feq g).1⟩
  · by_cases g : x = y
    · exact Or.inr ⟨g, (teq g).2⟩
    · exact Or.inl ⟨g, (feq g).2⟩
  · by_cases g : x < y
    · exact Or.inl ⟨g, (tlt g).1⟩
    · exact Or.inr ⟨g, (flt g).1⟩
  · by_cases g : x < y
    · exact Or.inr ⟨g, (tlt g).2.1⟩
    · exact Or.inl ⟨g, (flt g).2.1⟩
  · by_cases g : y < x
    · exact Or.inl ⟨g, (tlt g).2.2.1⟩
    · exact Or.inr ⟨g, (flt g).2.2.1⟩
  · by_cases g : y < x
    · exact Or.inr ⟨g, (tlt g).2.2.2⟩
    · exact Or.inl ⟨g, (flt g).2.2.2⟩
theorem own_icmp (C : own_Cx p s m meth c Z own cd maxL ret nm) (S : own_S p l e R s m args below meth c n0 T h cells slots) {q : ClassFile.Cond} {o : Int} {x y : Int32} (hd : decode cd pc = .ok (.if_icmp q o, 3)) (pc' : Nat) (ho : 0 ≤ (pc : Int) + o) (hp : ((pc : Int) + o).toNat = pc')
    (k1 : own_P q x y → own_Go p e below En T (mkF m pc' ls st)) (k2 : own_N q x y → own_Go p e below En T (mkF m (pc + 3) ls st)) : own_Go p e below En T (mkF m pc ls (.int y :: .int x :: st)) := by
  obtain ⟨locs, kk, n, X, -⟩ := S
  rcases own_holds q x y with ⟨g, hc⟩ | ⟨g, hc⟩
  · exact own_step (fun t k => XS.icmpYes X.here C.1 rfl rfl (own_hd C hd) rfl hc ho hp k) (k1 g)
  · exact own_step (fun t k => XS.icmpNo X.here C.1 rfl (own_hd C hd) rfl hc k) (k2 g)
theorem own_if (C : own_Cx p s m meth c Z own cd maxL ret nm) (S : own_S p l e R s m args below meth c n0 T h cells slots) {q : ClassFile.Cond} {o : Int} {x : Int32} (hd : decode cd pc = .ok (.ifCond q o, 3)) (pc' : Nat) (ho : 0 ≤ (pc : Int) + o) (hp : ((pc : Int) + o).toNat = pc')
    (k1 : own_P q x 0 → own_Go p e below En T (mkF m pc' ls st)) (k2 : own_N q x 0 → own_Go p e below En T (mkF m (pc + 3) ls st)) : own_Go p e below En T (mkF m pc ls (.int x :: st)) := by
  obtain ⟨locs, kk, n, X, -⟩ := S
  rcases own_holds q x 0 with ⟨g, hc⟩ | ⟨g, hc⟩ <;> rw [← if0] at hc
  · exact own_step (fun t k => XS.ifYes X.here C.1 rfl rfl (own_hd C hd) rfl hc ho hp k) (k1 g)
  · exact own_step (fun t k => XS.ifNo X.here C.1 rfl (own_hd C hd) rfl hc k) (k2 g)
def own_A : ClassFile.ACond → Value → Value → Prop
  | .eq, x, y => x = y | .ne, x, y => ¬ x = y
def own_B : ClassFile.ACond → Value → Value → Prop
  | .eq, x, y => ¬ x = y | .ne, x, y => x = y
theorem own_acmp (C : own_Cx p s m meth c Z own cd maxL ret nm) (S : own_S p l e R s m args below meth c n0 T h cells slots) {q : ClassFile.ACond} {o : Int} {x y : Value} (hx' : x.isRef = true) (hy' : y.isRef = true) (hd : decode cd pc = .ok (.if_acmp q o, 3)) (pc' : Nat) (ho : 0 ≤ (pc : Int) + o) (hp : ((pc : Int) + o).toNat = pc')
    (k1 : own_A q x y → own_Go p e below En T (mkF m pc' ls st)) (k2 : own_B q x y → own_Go p e below En T (mkF m (pc + 3) ls st)) : own_Go p e below En T (mkF m pc ls (y :: x :: st)) := by
  obtain ⟨locs, kk, n, X, -⟩ := S
  cases q <;> by_cases g : x = y
  · exact own_step (fun t k => Jvm.Free.XT.acmpYes X.here C.1 rfl rfl (own_hd C hd) rfl hx' hy' (Jvm.Free.XT.aa_eq_t g) ho hp k) (k1 g)
  · exact own_step (fun t k => Jvm.Free.XT.acmpNo X.here C.1 rfl (own_hd C hd) rfl hx' hy' (Jvm.Free.XT.aa_eq_f g) k) (k2 g)
  · exact own_step (fun t k => Jvm.Free.XT.acmpNo X.here C.1 rfl (own_hd C hd) rfl hx' hy' (Jvm.Free.XT.aa_ne_f g) k) (k2 g)
  · exact own_step (fun t k => Jvm.Free.XT.acmpYes X.here C.1 rfl rfl (own_hd C hd) rfl hx' hy' (Jvm.Free.XT.aa_ne_t g) ho hp k) (k1 g)
theorem own_ldc (C : own_Cx p s m meth c Z own cd maxL ret nm) (S : own_S p l e R s m args below meth c n0 T h cells slots) {index : Nat} {v : Int32} (w : (Jvm.Cond.constant own index v).before a0 Z = true) (hd : decode cd pc = .ok (.ldc index, 2)) (k : own_Go p e below En T (mkF m (pc + 2) ls (.int v :: st))) : own_Go p e below En T (mkF m pc ls st) := by
  obtain ⟨locs, kk, n, X, -⟩ := S
  exact own_step (fun t k => X.ldcInt C.1 C.2.2.2.1 (mv C.2.2.2.2.2.2.2 w) (g := mkF m pc ls st) rfl (own_hd C hd) t k) k
theorem own_getF (C : own_Cx p s m meth c Z own cd maxL ret nm) (S : own_S p l e R s m args below meth c n0 T h cells slots) {index : Nat} {R0 O n d host : String} {a : Addr} {v : Value} (w : (Jvm.Cond.fieldLink own index R0 n d).before a0 Z = true ∨ (Jvm.Cond.fieldLinkNest own index R0 n d host).before a0 Z = true) (via : Via Z R0 O n d) (FF : Fld Z h a O n d v) (hd : decode cd pc = .ok (.getfield index, 3))
    (k : ∀ T', own_S p l e R s m args below meth c n0 T' h cells slots → own_Go p e below En T' (mkF m (pc + 3) ls (v :: st))) : own_Go p e below En T (mkF m pc ls (.ref a :: st)) := by
  obtain ⟨locs, kk, nn, X, eT, N, q1, q2⟩ := S
  obtain ⟨T', X', e', stp⟩ := getF X C.1 C.2.2.2.2.2.2.2 C.2.2.2.1 w via eT FF (g := mkF m pc ls (.ref a :: st)) rfl rfl (own_hd C hd)
  exact own_step stp (k T' ⟨_, _, _, X', e', N, q1, q2⟩)
theorem own_getS (C : own_Cx p s m meth c Z own cd maxL ret nm) (S : own_S p l e R s m args below meth c n0 T h cells slots) {index : Nat} {R0 O n d : String} {v : Value} (w : (Jvm.Cond.fieldLink own index R0 n d).before a0 Z = true) (via : Via Z R0 O n d) (FF : Sta Z h O n d v) (hd : decode cd pc = .ok (.getstatic index, 3))
    (k : ∀ T', own_S p l e R s m args below meth c n0 T' h cells slots → own_Go p e below En T' (mkF m (pc + 3) ls (v :: st))) : own_Go p e below En T (mkF m pc ls st) := by
  obtain ⟨locs, kk, nn, X, eT, N, q1, q2⟩ := S
  obtain ⟨T', X', e', stp⟩ := getS X C.1 C.2.2.2.2.2.2.2 (host := "") C.2.2.2.1 w via eT FF (g := mkF m pc ls st) rfl (own_hd C hd)
  exact own_step stp (k T' ⟨_, _, _, X', e', N, q1, q2⟩)
theorem own_putF (C : own_Cx p s m meth c Z own cd maxL ret nm) (S : own_S p l e R s m args below meth c n0 T h cells slots) {index ki : Nat} {R0 O n d host Cl : String} {a : Addr} {v old : Value} {ty : FieldType} (w : (Jvm.Cond.fieldLink own index R0 n d).before a0 Z = true ∨ (Jvm.Cond.fieldLinkNest own index R0 n d host).before a0 Z = true) (via : Via Z R0 O n d) (FF : Fld Z h a O n d old) (E : Exa Z h a Cl)
    (L : (Jvm.Cond.lays Cl O n d).before a0 Z = true ∨ ((Jvm.Cond.laysFinal Cl O n d).before a0 Z = true ∧ own = O ∧ nm = "<init>")) (wi : (Jvm.Cond.instantiable Cl ki).before a0 Z = true) (hty : parseFieldDescriptor d = some ty) (hn : narrow ty v = v) (hf : fits ty v = true) (hge : n0 ≤ a) (hd : decode cd pc = .ok (.putfield index, 3))
    (k : ∀ T' h', own_S p l e R s m args below meth c n0 T' h' cells slots → Wr h h' a (Jvm.RoadKit.slotOf Z O n d) v → own_Go p e below En T' (mkF m (pc + 3) ls st)) : own_Go p e below En T (mkF m pc ls (v :: .ref a :: st)) := by
  obtain ⟨locs, kk, nn, X, eT, N, q1, q2⟩ := S
  obtain ⟨T', h', X', e', W, stp⟩ := putF X C.1 C.2.2.2.2.2.2.2 C.2.2.2.1 w via eT FF E (L.imp id (fun q => ⟨q.1, q.2.1, C.2.2.2.2.1.trans q.2.2⟩)) wi hty hn hf (g := mkF m pc ls (v :: .ref a :: st)) rfl rfl (own_hd C hd)
  exact own_step stp (k T' h' ⟨_, _, _, X', e', Fr.snoc X' N hge, q1, q2⟩ W)
theorem own_new (C : own_Cx p s m meth c Z own cd maxL ret nm) (S : own_S p l e R s m args below meth c n0 T h cells slots) {index ki : Nat} {Cl : String} (w : (Jvm.Cond.classLink own index Cl).before a0 Z = true) (wi : (Jvm.Cond.instantiable Cl ki).before a0 Z = true) (wz : (Jvm.Cond.initialized Cl).before a0 Z = true) (hd : decode cd pc = .ok (.new index, 3)) (hc : cells + 1 ≤ R.cells) (hl : slots + ki ≤ R.slots)
    (k : ∀ T' h' a, own_S p l e R s m args below meth c n0 T' h' (cells + 1) (slots + ki) → a = h.size → Ext h h' → Exa Z h' a Cl → (∀ {O nm d : String} {ty : FieldType}, Laid Z a0 Cl O nm d → parseFieldDescriptor d = some ty → Fld Z h' a O nm d (defaultValue ty)) → own_Go p e below En T' (mkF m (pc + 3) ls (.ref a :: st))) : own_Go p e below En T (mkF m pc ls st) := by
  obtain ⟨locs, kk, nn, X, eT, N, q1, q2⟩ := S
  obtain ⟨T', h', X', e', E, A, D, -, stp⟩ := newO X C.1 C.2.2.2.2.2.2.2 C.2.2.2.1 w wi wz eT (g := mkF m pc ls st) rfl (own_hd C hd) (by omega) (by omega)
  exact own_step stp (k T' h' _ ⟨_, _, _, X', e', N, by omega, by omega⟩ rfl E A D)
theorem own_initO (C : own_Cx p s m meth c Z own cd maxL ret nm) (S : own_S p l e R s m args below meth c n0 T h cells slots) {index : Nat} (w1 : (Jvm.Cond.methodLink own index Lib.objectInit).before a0 Z = true) (w2 : (Jvm.Cond.instanceMethod Lib.objectInit).before a0 Z = true) (w3 : (Jvm.Cond.code Lib.objectInit ⟨#[0xb1]⟩ 1 none).before a0 Z = true) {a : Addr} (hsz : ls.size = maxL) (hd : decode cd pc = .ok (.invokespecial index, 3)) (hf : 1 ≤ R.frames) (W : Nat) (hW : (st.map fun v => v.category).sum ≤ W) (hl : W + 12 ≤ R.locals)
    (k : ∀ T', own_S p l e R s m args below meth c n0 T' h cells slots → own_Go p e below En T' (mkF m (pc + 3) ls st)) : own_Go p e below En T (mkF m pc ls (.ref a :: st)) := by
  obtain ⟨locs, kk, nn, X, eT, N, q1, q2⟩ := S
  obtain ⟨T', X', e', stp⟩ := initO X C.1 C.2.2.2.2.2.2.2 C.2.2.2.1 w1 w2 w3 eT (g := mkF m pc ls (.ref a :: st)) rfl (own_hsz C hsz) rfl (own_hd C hd) hf (W := W) (by show 2 * 0 + _ ≤ W; omega) hl
  exact own_step stp (k T' ⟨_, _, _, X', e', N, q1, q2⟩)
theorem own_newP (C : own_Cx p s m meth c Z own cd maxL ret nm) (S : own_S p l e R s m args below meth c n0 T h cells slots) {aty : ArrayType} (w : (Jvm.Cond.arrayClass (newarray.typeOf aty)).before a0 Z = true) (hd : decode cd pc = .ok (.newarray aty, 2)) {n : Int32} (hn : ¬ n < 0) (cap : Nat) (hcap : n.toNatClampNeg ≤ cap) (hb : cap * 8 ≤ 536870912) (hc : cells + 1 ≤ R.cells) (hl : slots + cap ≤ R.slots)
    (k : ∀ T' h' a cA, own_S p l e R s m args below meth c n0 T' h' (cells + 1) (slots + cap) → a = h.size → Ext h h' → Arv Z h' a cA (newarray.typeOf aty) n [] (defaultValue (newarray.typeOf aty)) → own_Go p e below En T' (mkF m (pc + 2) ls (.ref a :: st))) : own_Go p e below En T (mkF m pc ls (.int n :: st)) := by
  obtain ⟨locs, kk, nn, X, eT, N, q1, q2⟩ := S
  obtain ⟨T', h', cA, X', e', E, A, stp⟩ := newP X C.1 C.2.2.2.2.2.2.2 w eT (g := mkF m pc ls (.int n :: st)) rfl (own_hd C hd) rfl hn hcap hb (by omega) (by omega)
  exact own_step stp (k T' h' _ cA ⟨_, _, _, X', e', N, by omega, by omega⟩ rfl E (Arv.new A hn))
theorem own_alen (C : own_Cx p s m meth c Z own cd maxL ret nm) (S : own_S p l e R s m args below meth c n0 T h cells slots) {a : Addr} {ka : ClassId} {ty : FieldType} {N : Int32} {vs : List Value} {dv : Value} (FF : Arv Z h a ka ty N vs dv) (hd : decode cd pc = .ok (.arraylength, 1)) (k : own_Go p e below En T (mkF m (pc + 1) ls (.int N :: st))) : own_Go p e below En T (mkF m pc ls (.ref a :: st)) := by
  obtain ⟨locs, kk, nn, X, eT, -⟩ := S
  obtain ⟨cl, A, -, sz, hN, -⟩ := FF
  rw [← len_of sz hN] at k
  exact own_step (fun t k => X.arraylength C.1 (by rw [eT]; exact A.1) (State.isArrayOf_alike C.2.2.2.2.2.2.2.alike A.2.1) (g := mkF m pc ls (.ref a :: st)) rfl rfl (own_hd C hd) t k) k
theorem own_baload (C : own_Cx p s m meth c Z own cd maxL ret nm) (S : own_S p l e R s m args below meth c n0 T h cells slots) {a : Addr} {ka : ClassId} {N j : Int32} {vs : List Value} {dv : Value} (FF : Arv Z h a ka .byte N vs dv) (hin : ¬ j < 0 ∧ j < N) (v : Value) (hv : vs.getD j.toNatClampNeg dv = v) (hd : decode cd pc = .ok (.baload, 1)) (k : own_Go p e below En T (mkF m (pc + 1) ls (v :: st))) : own_Go p e below En T (mkF m pc ls (.int j :: .ref a :: st)) := by
  obtain ⟨locs, kk, nn, X, eT, -⟩ := S
  obtain ⟨cl, A, -, sz, hN, H, -⟩ := FF
  exact own_step (fun t k => X.baloadBytes C.1 (by rw [eT]; exact A.1) (State.isArrayOf_alike C.2.2.2.2.2.2.2.alike A.2.1) A.2.2 (inb_of sz hin) (Has.at H (inb_of sz hin) hv) (g := mkF m pc ls (.int j :: .ref a :: st)) rfl rfl (own_hd C hd) t k) k
theorem own_castore (C : own_Cx p s m meth c Z own cd maxL ret nm) (S : own_S p l e R s m args below meth c n0 T h cells slots) {a : Addr} {ka : ClassId} {N j x : Int32} {vs : List Value} {dv : Value} (FF : Arv Z h a ka .char N vs dv) (hin : ¬ j < 0 ∧ j < N) (i : Nat) (hj : j.toNatClampNeg = i) (hi : i < vs.length) (x' : Int32) (hx' : nar .char x = x') (hge : n0 ≤ a) (hd : decode cd pc = .ok (.castore, 1))
    (k : ∀ T' h', own_S p l e R s m args below meth c n0 T' h' cells slots → Wr h h' a j.toNatClampNeg (.int x') → Arv Z h' a ka .char N (vs.set i (.int x')) dv → own_Go p e below En T' (mkF m (pc + 1) ls st)) : own_Go p e below En T (mkF m pc ls (.int x :: .int j :: .ref a :: st)) := by
  subst hx'
  obtain ⟨locs, kk, nn, X, eT, N, q1, q2⟩ := S
  obtain ⟨cl, A, ck, sz, hN, H, G⟩ := FF
  obtain ⟨T', h', X', e', W, stp⟩ := stC X C.1 C.2.2.2.2.2.2.2 eT A (inb_of sz hin) (g := mkF m pc ls (.int x :: .int j :: .ref a :: st)) rfl rfl (own_hd C hd)
  exact own_step stp (k T' h' ⟨_, _, _, X', e', Fr.snoc X' N hge, q1, q2⟩ W (Arv.set A ck sz hN H G (fits_nar_char x) W i hj hi))
theorem own_bastore (C : own_Cx p s m meth c Z own cd maxL ret nm) (S : own_S p l e R s m args below meth c n0 T h cells slots) {a : Addr} {ka : ClassId} {N j x : Int32} {vs : List Value} {dv : Value} (FF : Arv Z h a ka .byte N vs dv) (hin : ¬ j < 0 ∧ j < N) (i : Nat) (hj : j.toNatClampNeg = i) (hi : i < vs.length) (x' : Int32) (hx' : nar .byte x = x') (hge : n0 ≤ a) (hd : decode cd pc = .ok (.bastore, 1))
    (k : ∀ T' h', own_S p l e R s m args below meth c n0 T' h' cells slots → Wr h h' a j.toNatClampNeg (.int x') → Arv Z h' a ka .byte N (vs.set i (.int x')) dv → own_Go p e below En T' (mkF m (pc + 1) ls st)) : own_Go p e below En T (mkF m pc ls (.int x :: .int j :: .ref a :: st)) := by
  subst hx'
  obtain ⟨locs, kk, nn, X, eT, N, q1, q2⟩ := S
  obtain ⟨cl, A, ck, sz, hN, H, G⟩ := FF
  obtain ⟨T', h', X', e', W, stp⟩ := stB X C.1 C.2.2.2.2.2.2.2 eT A (inb_of sz hin) (g := mkF m pc ls (.int x :: .int j :: .ref a :: st)) rfl rfl (own_hd C hd)
  exact own_step stp (k T' h' ⟨_, _, _, X', e', Fr.snoc X' N hge, q1, q2⟩ W (Arv.set A ck sz hN H G (fits_nar_byte x) W i hj hi))
theorem own_cast (C : own_Cx p s m meth c Z own cd maxL ret nm) (S : own_S p l e R s m args below meth c n0 T h cells slots) {index : Nat} {K : String} {a : Addr} (w : (Jvm.Cond.classLink own index K).before a0 Z = true) (FF : Ins Z h a K true) (hd : decode cd pc = .ok (.checkcast index, 3))
    (k : ∀ T', own_S p l e R s m args below meth c n0 T' h cells slots → own_Go p e below En T' (mkF m (pc + 3) ls (.ref a :: st))) : own_Go p e below En T (mkF m pc ls (.ref a :: st)) := by
  obtain ⟨locs, kk, nn, X, eT, N, q1, q2⟩ := S
  obtain ⟨T', X', e', stp⟩ := castY X C.1 C.2.2.2.2.2.2.2 C.2.2.2.1 w eT FF (g := mkF m pc ls (.ref a :: st)) rfl rfl (own_hd C hd)
  exact own_step stp (k T' ⟨_, _, _, X', e', N, q1, q2⟩)
theorem own_inst (C : own_Cx p s m meth c Z own cd maxL ret nm) (S : own_S p l e R s m args below meth c n0 T h cells slots) {index : Nat} {K : String} {a : Addr} (w : (Jvm.Cond.classLink own index K).before a0 Z = true) (FF : Ins Z h a K true) (hd : decode cd pc = .ok (.instanceof index, 3))
    (k : ∀ T', own_S p l e R s m args below meth c n0 T' h cells slots → own_Go p e below En T' (mkF m (pc + 3) ls (.int 1 :: st))) : own_Go p e below En T (mkF m pc ls (.ref a :: st)) := by
  obtain ⟨locs, kk, nn, X, eT, N, q1, q2⟩ := S
  obtain ⟨T', X', e', stp⟩ := instY X C.1 C.2.2.2.2.2.2.2 C.2.2.2.1 w eT FF (g := mkF m pc ls (.ref a :: st)) rfl rfl (own_hd C hd)
  exact own_step stp (k T' ⟨_, _, _, X', e', N, q1, q2⟩)
theorem own_ret {t : FieldType} (C : own_Cx p s m meth c Z own cd maxL (some t) nm) (S : own_S p l e R s m args below meth c n0 T h cells slots) {i : Instr} {w : Value} (hd : decode cd pc = .ok (i, 1)) (hn : narrow t w = w)
    (hi : (i = .ireturn ∧ (t = .int ∨ t = .boolean ∨ t = .byte ∨ t = .char ∨ t = .short) ∧ ∃ z, w = .int z) ∨ (i = .lreturn ∧ t = .long ∧ ∃ z, w = .long z) ∨ (i = .dreturn ∧ t = .double ∧ ∃ z, w = .double z) ∨ (i = .freturn ∧ t = .float ∧ ∃ z, w = .float z) ∨ (i = .areturn ∧ t.isReference = true ∧ w.isRef = true))
    (hc : cells ≤ kc) (hs : slots ≤ ks) (hF : F (some w) h) : own_Go p e below (own_En s n0 F kc ks) T (mkF m pc ls (w :: st)) := by
  obtain ⟨locs, kk, nn, X, eT, N, q1, q2⟩ := S
  obtain ⟨fs, hr, hrun, hended, hW, hsame⟩ := X.leave (v := some w) (fun q => by rw [C.2.2.2.2.2.1] at q; cases q) C.2.2.2.2.2.2.1
  refine ⟨_, _, retOut X C.1 C.2.2.2.2.2.1 hn hi (own_hd C hd) hr, hrun, hended, _, _, rfl, ⟨?_, N⟩, ⟨_, rfl⟩, hW, hsame.mono (Nat.le_trans q1 hc) (Nat.le_trans q2 hs)⟩
  show F (some w) T.heap
  rw [eT]; exact hF
theorem own_retI (C : own_Cx p s m meth c Z own cd maxL (some .int) nm) (S : own_S p l e R s m args below meth c n0 T h cells slots) {z : Int32} (hd : decode cd pc = .ok (.ireturn, 1)) (hc : cells ≤ kc) (hs : slots ≤ ks) (hF : F (some (.int z)) h) : own_Go p e below (own_En s n0 F kc ks) T (mkF m pc ls (.int z :: st)) :=
  own_ret C S hd rfl (Or.inl ⟨rfl, Or.inl rfl, z, rfl⟩) hc hs hF
theorem own_retZ (C : own_Cx p s m meth c Z own cd maxL (some .boolean) nm) (S : own_S p l e R s m args below meth c n0 T h cells slots) {z : Int32} (hd : decode cd pc = .ok (.ireturn, 1)) (hz : z &&& 1 = z) (hc : cells ≤ kc) (hs : slots ≤ ks) (hF : F (some (.int z)) h) : own_Go p e below (own_En s n0 F kc ks) T (mkF m pc ls (.int z :: st)) :=
  own_ret C S hd (by show Value.int (z &&& 1) = _; rw [hz]) (Or.inl ⟨rfl, Or.inr (Or.inl rfl), z, rfl⟩) hc hs hF
theorem own_retC (C : own_Cx p s m meth c Z own cd maxL (some .char) nm) (S : own_S p l e R s m args below meth c n0 T h cells slots) {z : Int32} (hd : decode cd pc = .ok (.ireturn, 1)) (hz : z.toUInt32.toUInt16.toUInt32.toInt32 = z) (hc : cells ≤ kc) (hs : slots ≤ ks) (hF : F (some (.int z)) h) : own_Go p e below (own_En s n0 F kc ks) T (mkF m pc ls (.int z :: st)) :=
  own_ret C S hd (by show Value.int (z.toUInt32.toUInt16.toUInt32.toInt32) = _; rw [hz]) (Or.inl ⟨rfl, by simp, z, rfl⟩) hc hs hF
theorem own_retA {t : FieldType} (C : own_Cx p s m meth c Z own cd maxL (some t) nm) (S : own_S p l e R s m args below meth c n0 T h cells slots) {w : Value} (ht : t.isReference = true) (hr : w.isRef = true) (hd : decode cd pc = .ok (.areturn, 1)) (hc : cells ≤ kc) (hs : slots ≤ ks) (hF : F (some w) h) : own_Go p e below (own_En s n0 F kc ks) T (mkF m pc ls (w :: st)) :=
  own_ret C S hd (by cases w <;> simp [Value.isRef] at hr <;> cases t <;> first | rfl | (simp [FieldType.isReference] at ht)) (by simp [ht, hr]) hc hs hF
theorem own_retV (C : own_Cx p s m meth c Z own cd maxL none nm) (S : own_S p l e R s m args below meth c n0 T h cells slots) (hd : decode cd pc = .ok (.return_, 1)) (hc : cells ≤ kc) (hs : slots ≤ ks) (hF : F none h) : own_Go p e below (own_En s n0 F kc ks) T (mkF m pc ls []) := by
  obtain ⟨locs, kk, nn, X, eT, N, q1, q2⟩ := S
  obtain ⟨fs, hr, hrun, hended, hW, hsame⟩ := X.leave (v := none) (fun _ => rfl) C.2.2.2.2.2.2.1
  refine ⟨_, _, X.returnOut C.1 C.2.2.2.2.2.1 (own_hd C hd) hr, hrun, hended, _, _, rfl, ⟨?_, N⟩, ⟨_, rfl⟩, hW, hsame.mono (Nat.le_trans q1 hc) (Nat.le_trans q2 hs)⟩
  show F none T.heap
  rw [eT]; exact hF
def own_Met (l : Launch) (Z : State) (y : MethodName) (cd : ByteArray) (maxL : Nat) (ret : Option FieldType) (rm : Room) (n0 : Nat) (as' : Array Value) (h0 : Heap) (Q : Option Value → Heap → Prop) : Prop :=
  ∀ ws, MetFree l y (head1 (Jvm.Cond.code y cd maxL ret :: ws) rm) (fun a U => a = as' ∧ Z.Warmed39 U.vm ∧ U.heap = h0) (fun _ _ _ _ _ => True) (fun _ U o U' => ∃ v L, o = .returned v ∧ (Q v U'.heap ∧ Fr n0 L) ∧ FrameEnd U o U' L rm.cells rm.slots)
theorem own_met {y : MethodName} {rm : Room} {as' : Array Value} {h0 : Heap} {Q : Option Value → Heap → Prop} (hp : plainFor y = true) (ls : Array Slot) (hef : ∀ m, entryFrame m as' maxL = mkF m 0 ls [])
    (H : ∀ (p : Program) (e : Env) (s : State) (m : MethodId) (below : List Frame) (meth : Method) (c : Code) (T : State), own_Cx p s m meth c Z y.cls cd maxL ret y.name → own_S p l e rm s m as' below meth c n0 T h0 0 0 → own_Go p e below (own_En s n0 Q rm.cells rm.slots) T (mkF m 0 ls [])) : own_Met l Z y cd maxL ret rm n0 as' h0 Q := by
  intro ws
  refine MetFree.of_bodySF hp hisR ?_
  intro p e s m args below meth c s₁ Bd hml hP hK
  obtain ⟨rfl, hZ, hh⟩ := hP
  have e0 : s₁.heap = h0 := by rw [← hh, Bd.state]; rfl
  have G := H p e s m below meth c s₁ ⟨Bd.exec, Bd.bytes, hml, findClass_of_methodNamed Bd.named, (name_of_methodNamed Bd.named Bd.method).1, Bd.returns, BodyLoose.notSynchronized Bd, hZ⟩ ⟨_, _, _, Stand.of_body Bd, e0, Fr.nil n0, Nat.le_refl _, Nat.le_refl _⟩
  rw [← hef m] at G
  exact G
/-- who pays a call -/
abbrev own_Pay (l : Launch) (R : Room) (p : Program) (e : Env) (below : List Frame) (s : State) (args : Array Value) (y : MethodName) (len W : Nat) (as' : Array Value) (h : Heap) (k1 k2 : Nat) (Q : Option Value → Heap → List Loc → Prop) : Prop :=
  Back l R p e below s args y len W (fun P a => a = as' ∧ P.U.heap = h ∧ P.cells + k1 ≤ R.cells ∧ P.slots + k2 ≤ R.slots) (fun P _ v B => ∃ L, Q v B.U.heap L ∧ B.locs = P.locs ++ L ∧ B.cells = P.cells + k1 ∧ B.slots = P.slots + k2)
theorem own_Met.pay {y : MethodName} {cdy : ByteArray} {maxy : Nat} {rety : Option FieldType} {rm : Room} {as' : Array Value} {Q : Option Value → Heap → Prop} (M : own_Met l Z y cdy maxy rety rm n0 as' h Q) (C : own_Cx p s m meth c Z own cd maxL ret nm) {len : Nat} (W : Nat) (wc : (Jvm.Cond.code y cdy maxy rety).before a0 Z = true) (wz : (Jvm.Cond.initialized y.cls).before a0 Z = true) (hf : rm.frames + 1 ≤ R.frames) (hl : W + (maxy + 11) + rm.locals ≤ R.locals) :
    own_Pay l R p e below s args y len W as' h rm.cells rm.slots (fun v h' L => Q v h' ∧ Fr n0 L) := backOf (Q := fun v h' L => Q v h' ∧ Fr n0 L) (M []) C.2.2.2.2.2.2.2 wc wz hf hl
theorem own_callS (C : own_Cx p s m meth c Z own cd maxL ret nm) (S : own_S p l e R s m args below meth c n0 T h cells slots) {y : MethodName} {index : Nat} {cdy : ByteArray} {maxy : Nat} {rety : Option FieldType} {W k1 k2 : Nat} {as' : Array Value} {Q : Option Value → Heap → List Loc → Prop}
    (w1 : (Jvm.Cond.methodLink own index y).before a0 Z = true) (w2 : (Jvm.Cond.static y).before a0 Z = true) (w3 : (Jvm.Cond.initialized y.cls).before a0 Z = true) (w4 : (Jvm.Cond.code y cdy maxy rety).before a0 Z = true) (hy : y.cls ≠ "java/lang/invoke/MethodHandle" ∧ y.cls ≠ "java/lang/invoke/VarHandle")
    (hK : own_Pay l R p e below s args y 3 W as' h k1 k2 Q) (hfr : ∀ v h' L, Q v h' L → Fr n0 L) (argsL rest : List Value) {ps : List FieldType} {rr : Option FieldType} (has : argsL.toArray = as') (hpd : parseMethodDescriptor y.desc = some ⟨ps, rr⟩) (hlen : argsL.length = ps.length) (hstk : st = argsL.reverse ++ rest) (hsz : ls.size = maxL) (hW : (rest.map fun v => v.category).sum ≤ W)
    (hc : cells + k1 ≤ R.cells) (hs : slots + k2 ≤ R.slots) (hd : decode cd pc = .ok (.invokestatic index, 3))
    (k : ∀ T' h' v L, own_S p l e R s m args below meth c n0 T' h' (cells + k1) (slots + k2) → Q v h' L → own_Go p e below En T' (mkF m (pc + 3) ls (v.toList ++ rest))) : own_Go p e below En T (mkF m pc ls st) := by
  obtain ⟨locs, kk, nn, X, eT, N, q1, q2⟩ := S
  have hZ := C.2.2.2.2.2.2.2
  obtain ⟨v, vm1, B, -, X', ⟨L, hQ, l1, l2, l3⟩, stp⟩ := Jvm.LawKit.callS X C.1 C.2.2.2.1 (mvT hZ w1) (mvT hZ w2) (mvT hZ w3) (mvT hZ w4) hy hK (g := mkF m pc ls st) rfl (own_hsz C hsz) (argsL := argsL) (rest := rest) (lenOf hpd hlen) hstk (by show 2 * 0 + _ ≤ W; omega) (own_hd C hd) (fun _ _ => ⟨has, eT, by show kk + k1 ≤ _; omega, by show nn + k2 ≤ _; omega⟩)
  refine own_step stp (k B.U _ v L ⟨B.locs, B.cells, B.slots, X', rfl, ?_, ?_, ?_⟩ hQ)
  · rw [l1]; exact Fr.app N (hfr _ _ _ hQ)
  · rw [l2]; show kk + k1 ≤ _; omega
  · rw [l3]; show nn + k2 ≤ _; omega
theorem own_callI (C : own_Cx p s m meth c Z own cd maxL ret nm) (S : own_S p l e R s m args below meth c n0 T h cells slots) {y : MethodName} {index : Nat} {cdy : ByteArray} {maxy : Nat} {W k1 k2 : Nat} {as' : Array Value} {Q : Option Value → Heap → List Loc → Prop}
    (hy1 : y.name = "<init>") (w1 : (Jvm.Cond.methodLink own index y).before a0 Z = true) (w2 : (Jvm.Cond.instanceMethod y).before a0 Z = true) (w4 : (Jvm.Cond.code y cdy maxy none).before a0 Z = true) (hy : y.cls ≠ "java/lang/invoke/MethodHandle" ∧ y.cls ≠ "java/lang/invoke/VarHandle")
    (hK : own_Pay l R p e below s args y 3 W as' h k1 k2 Q) (hfr : ∀ v h' L, Q v h' L → Fr n0 L) {a : Addr} (argsL rest : List Value) {ps : List FieldType} {rr : Option FieldType} (has : (.ref a :: argsL).toArray = as') (hpd : parseMethodDescriptor y.desc = some ⟨ps, rr⟩) (hlen : argsL.length = ps.length) (hstk : st = argsL.reverse ++ .ref a :: rest) (hsz : ls.size = maxL) (hW : (rest.map fun v => v.category).sum ≤ W)
    (hc : cells + k1 ≤ R.cells) (hs : slots + k2 ≤ R.slots) (hd : decode cd pc = .ok (.invokespecial index, 3))
    (k : ∀ T' h' v L, own_S p l e R s m args below meth c n0 T' h' (cells + k1) (slots + k2) → Q v h' L → own_Go p e below En T' (mkF m (pc + 3) ls (v.toList ++ rest))) : own_Go p e below En T (mkF m pc ls st) := by
  obtain ⟨locs, kk, nn, X, eT, N, q1, q2⟩ := S
  have hZ := C.2.2.2.2.2.2.2
  obtain ⟨v, vm1, B, -, X', ⟨L, hQ, l1, l2, l3⟩, stp⟩ := X.specialBack C.1 hy1 C.2.2.2.1 (mvT hZ w1) (mvT hZ w2) (mvT hZ w4) hy hK (g := mkF m pc ls st) rfl (own_hsz C hsz) (Steps.refl _) (a := a) (argsL := argsL) (rest := rest) (lenOf hpd hlen) hstk (by show 2 * 0 + _ ≤ W; omega) (own_hd C hd) (fun _ _ => ⟨has, eT, by show kk + k1 ≤ _; omega, by show nn + k2 ≤ _; omega⟩)
  refine own_step (fun t k => stp.trans k) (k B.U _ v L ⟨B.locs, B.cells, B.slots, X', rfl, ?_, ?_, ?_⟩ hQ)
  · rw [l1]; exact Fr.app N (hfr _ _ _ hQ)
  · rw [l2]; show kk + k1 ≤ _; omega
  · rw [l3]; show nn + k2 ≤ _; omega
theorem own_nf {args : Array Value} {s : State} {C : String} {y y' : MethodName} (hyc : y'.cls = y.cls) (hsel : (Jvm.Cond.selects C y' y').before args s = true) : NotFace s y := fun r0 h0 => by
  obtain ⟨c2, r2, m2, q1, q2, q3, q4, kP, hkP, hkPi⟩ := Cond.selects_spec hsel
  have e1 := findClass_of_methodNamed h0
  have e2 := findClass_of_methodNamed q3
  rw [hyc, e1] at e2
  rw [Option.some.inj e2]
  exact ⟨kP, hkP, hkPi⟩
theorem own_selfP {C : String} {y : MethodName} (w1 : (Jvm.Cond.instanceMethod y).before a0 Z = true) (w2 : (Jvm.Cond.privateMethod y).before a0 Z = true) (w3 : (Jvm.Cond.selects C y y).before a0 Z = true) (hy : y.cls ≠ "java/lang/invoke/MethodHandle" ∧ y.cls ≠ "java/lang/invoke/VarHandle") : (Jvm.Cond.selects y.cls y y).before a0 Z = true := by
  obtain ⟨mk, methM, hnamed, hmethM, -, -⟩ := Cond.instanceMethod_spec w1
  obtain ⟨k, hk, hki⟩ := notFace_of_selects w3 mk hnamed
  exact selects_self_of_private (findClass_of_methodNamed hnamed) hk hki (Cond.privateMethod_at w2) w1 hy
theorem own_same {C : String} {y y' : MethodName} (w1 : (Jvm.Cond.instanceMethod y).before a0 Z = true) (w3 : (Jvm.Cond.selects C y' y').before a0 Z = true) (hyc : y'.cls = y.cls) (hy : y.cls ≠ "java/lang/invoke/MethodHandle" ∧ y.cls ≠ "java/lang/invoke/VarHandle") : (Jvm.Cond.sameMethod y.cls y.cls y.name y.desc).before a0 Z = true := by
  obtain ⟨mk, methM, hnamed, hmethM, -, -⟩ := Cond.instanceMethod_spec w1
  obtain ⟨k, hk, hki⟩ := own_nf hyc w3 mk hnamed
  have hf : Z.methodFound? y.cls y.name y.desc = some mk := State.methodFound?_of_named hnamed hy
  have hc := findClass_of_methodNamed hnamed
  have hn' : Z.methodNamed? ⟨y.cls, y.name, y.desc⟩ = some mk := hnamed
  simp only [Cond.before, Cond.holds, Cond.value, hc, hf, hn', hk]
  simp [hki]
theorem own_callV (C : own_Cx p s m meth c Z own cd maxL ret nm) (S : own_S p l e R s m args below meth c n0 T h cells slots) {y z : MethodName} {Cl : String} {index : Nat} {W k1 k2 : Nat} {as' : Array Value} {Q : Option Value → Heap → List Loc → Prop}
    (w1 : (Jvm.Cond.methodLink own index y).before a0 Z = true) (w2 : (Jvm.Cond.declares y).before a0 Z = true) (w3 : (Jvm.Cond.selects Cl y z).before a0 Z = true) {Cl' : String} {y' : MethodName} (w3' : (Jvm.Cond.selects Cl' y' y').before a0 Z = true) (hyc : y'.cls = y.cls) (w4 : (Jvm.Cond.instanceMethod z).before a0 Z = true) (hy : y.cls ≠ "java/lang/invoke/MethodHandle" ∧ y.cls ≠ "java/lang/invoke/VarHandle")
    (hK : own_Pay l R p e below s args z 3 W as' h k1 k2 Q) (hfr : ∀ v h' L, Q v h' L → Fr n0 L) {a : Addr} (E : Exa Z h a Cl) (argsL rest : List Value) {ps : List FieldType} {rr : Option FieldType} (has : (.ref a :: argsL).toArray = as') (hpd : parseMethodDescriptor y.desc = some ⟨ps, rr⟩) (hlen : argsL.length = ps.length) (hstk : st = argsL.reverse ++ .ref a :: rest) (hsz : ls.size = maxL) (hW : (rest.map fun v => v.category).sum ≤ W)
    (hc : cells + k1 ≤ R.cells) (hs : slots + k2 ≤ R.slots) (hd : decode cd pc = .ok (.invokevirtual index, 3))
    (k : ∀ T' h' v L, own_S p l e R s m args below meth c n0 T' h' (cells + k1) (slots + k2) → Q v h' L → own_Go p e below En T' (mkF m (pc + 3) ls (v.toList ++ rest))) : own_Go p e below En T (mkF m pc ls st) := by
  obtain ⟨locs, kk, nn, X, eT, N, q1, q2⟩ := S
  have hZ := C.2.2.2.2.2.2.2
  obtain ⟨cq, kq, qa, qb, qc⟩ := isOf (T := T) hZ eT E
  obtain ⟨v, vm1, B, -, X', ⟨L, hQ, l1, l2, l3⟩, stp⟩ := X.virtualBack C.1 C.2.2.2.1 (mvT hZ w1) (mvT hZ w2) (own_nf (args := #[]) hyc (mvT hZ w3')) (mvT hZ w3) (mvT hZ w4) hy hK qa qc (g := mkF m pc ls st) rfl (own_hsz C hsz) (Steps.refl _) (argsL := argsL) (rest := rest) (lenOf hpd hlen) hstk (by show 2 * 0 + _ ≤ W; omega) (own_hd C hd) (fun _ _ => ⟨has, eT, by show kk + k1 ≤ _; omega, by show nn + k2 ≤ _; omega⟩)
  refine own_step (fun t k => stp.trans k) (k B.U _ v L ⟨B.locs, B.cells, B.slots, X', rfl, ?_, ?_, ?_⟩ hQ)
  · rw [l1]; exact Fr.app N (hfr _ _ _ hQ)
  · rw [l2]; show kk + k1 ≤ _; omega
  · rw [l3]; show nn + k2 ≤ _; omega
theorem own_callP (C : own_Cx p s m meth c Z own cd maxL ret nm) (S : own_S p l e R s m args below meth c n0 T h cells slots) {y : MethodName} {index : Nat} {cdy : ByteArray} {maxy : Nat} {rety : Option FieldType} {W k1 k2 : Nat} {as' : Array Value} {Q : Option Value → Heap → List Loc → Prop}
    (w1 : (Jvm.Cond.methodLink own index y).before a0 Z = true) (w2 : (Jvm.Cond.instanceMethod y).before a0 Z = true) (w3 : (Jvm.Cond.selects y.cls y y).before a0 Z = true) (w4 : (Jvm.Cond.privateMethod y).before a0 Z = true) (w5 : (Jvm.Cond.code y cdy maxy rety).before a0 Z = true) (hy : y.cls ≠ "java/lang/invoke/MethodHandle" ∧ y.cls ≠ "java/lang/invoke/VarHandle")
    (hK : own_Pay l R p e below s args y 3 W as' h k1 k2 Q) (hfr : ∀ v h' L, Q v h' L → Fr n0 L) {a : Addr} {Cl : String} (E : Exa Z h a Cl) (argsL rest : List Value) {ps : List FieldType} {rr : Option FieldType} (has : (.ref a :: argsL).toArray = as') (hpd : parseMethodDescriptor y.desc = some ⟨ps, rr⟩) (hlen : argsL.length = ps.length) (hstk : st = argsL.reverse ++ .ref a :: rest) (hsz : ls.size = maxL) (hW : (rest.map fun v => v.category).sum ≤ W)
    (hc : cells + k1 ≤ R.cells) (hs : slots + k2 ≤ R.slots) (hd : decode cd pc = .ok (.invokevirtual index, 3))
    (k : ∀ T' h' v L, own_S p l e R s m args below meth c n0 T' h' (cells + k1) (slots + k2) → Q v h' L → own_Go p e below En T' (mkF m (pc + 3) ls (v.toList ++ rest))) : own_Go p e below En T (mkF m pc ls st) := by
  obtain ⟨locs, kk, nn, X, eT, N, q1, q2⟩ := S
  have hZ := C.2.2.2.2.2.2.2
  obtain ⟨cl, hcl, hns⟩ := E.cell
  obtain ⟨v, vm1, B, -, X', ⟨L, hQ, l1, l2, l3⟩, stp⟩ := X.privateBack C.1 C.2.2.2.1 (mvT hZ w1) (mvT hZ w2) (mvT hZ w3) (Cond.privateMethod_at (mvP (args := args) hZ w4)) (mvT hZ w5) hy hK (g := mkF m pc ls st) rfl (own_hsz C hsz) (Steps.refl _) (a := a) (cell := cl) (by rw [eT]; exact hcl) hns (argsL := argsL) (rest := rest) (lenOf hpd hlen) hstk (by show 2 * 0 + _ ≤ W; omega) (own_hd C hd) (fun _ _ => ⟨has, eT, by show kk + k1 ≤ _; omega, by show nn + k2 ≤ _; omega⟩)
  refine own_step (fun t k => stp.trans k) (k B.U _ v L ⟨B.locs, B.cells, B.slots, X', rfl, ?_, ?_, ?_⟩ hQ)
  · rw [l1]; exact Fr.app N (hfr _ _ _ hQ)
  · rw [l2]; show kk + k1 ≤ _; omega
  · rw [l3]; show nn + k2 ≤ _; omega
theorem own_callX (C : own_Cx p s m meth c Z own cd maxL ret nm) (S : own_S p l e R s m args below meth c n0 T h cells slots) {y : MethodName} {K : String} {index : Nat} {cdy : ByteArray} {maxy : Nat} {rety : Option FieldType} {W k1 k2 : Nat} {as' : Array Value} {Q : Option Value → Heap → List Loc → Prop}
    (w1 : (Jvm.Cond.methodLink own index y).before a0 Z = true) (w2 : (Jvm.Cond.sameMethod y.cls y.cls y.name y.desc).before a0 Z = true) (w3 : (Jvm.Cond.instanceMethod y).before a0 Z = true) (w4 : (Jvm.Cond.superclass own y.cls).before a0 Z = true) (hn : y.name ≠ "<init>") (w5 : (Jvm.Cond.code y cdy maxy rety).before a0 Z = true)
    (hK : own_Pay l R p e below s args y 3 W as' h k1 k2 Q) (hfr : ∀ v h' L, Q v h' L → Fr n0 L) {a : Addr} (E : Ins Z h a K true) (argsL rest : List Value) {ps : List FieldType} {rr : Option FieldType} (has : (.ref a :: argsL).toArray = as') (hpd : parseMethodDescriptor y.desc = some ⟨ps, rr⟩) (hlen : argsL.length = ps.length) (hstk : st = argsL.reverse ++ .ref a :: rest) (hsz : ls.size = maxL) (hW : (rest.map fun v => v.category).sum ≤ W)
    (hc : cells + k1 ≤ R.cells) (hs : slots + k2 ≤ R.slots) (hd : decode cd pc = .ok (.invokespecial index, 3))
    (k : ∀ T' h' v L, own_S p l e R s m args below meth c n0 T' h' (cells + k1) (slots + k2) → Q v h' L → own_Go p e below En T' (mkF m (pc + 3) ls (v.toList ++ rest))) : own_Go p e below En T (mkF m pc ls st) := by
  obtain ⟨locs, kk, nn, X, eT, N, q1, q2⟩ := S
  obtain ⟨v, vm1, B, -, X', ⟨L, hQ, l1, l2, l3⟩, stp⟩ := superBack X C.1 C.2.2.2.2.2.2.2 C.2.2.2.1 w1 w2 w3 w4 hn hK eT E (g := mkF m pc ls st) rfl (own_hsz C hsz) w5 (argsL := argsL) (rest := rest) (lenOf hpd hlen) hstk (by show 2 * 0 + _ ≤ W; omega) (own_hd C hd) (fun _ _ => ⟨has, eT, by show kk + k1 ≤ _; omega, by show nn + k2 ≤ _; omega⟩)
  refine own_step (fun t k => stp.trans k) (k B.U _ v L ⟨B.locs, B.cells, B.slots, X', rfl, ?_, ?_, ?_⟩ hQ)
  · rw [l1]; exact Fr.app N (hfr _ _ _ hQ)
  · rw [l2]; show kk + k1 ≤ _; omega
  · rw [l3]; show nn + k2 ≤ _; omega
/-- System.arraycopy over arrays of one plain kind -/
theorem own_copy (C : own_Cx p s m meth c Z own cd maxL ret nm) (S : own_S p l e R s m args below meth c n0 T h cells slots) {index : Nat} (w1 : (Jvm.Cond.methodLink own index Jvm.Stand.acN).before a0 Z = true) (w2 : (Jvm.Cond.native Jvm.Stand.acN).before a0 Z = true) (w3 : (Jvm.Cond.static Jvm.Stand.acN).before a0 Z = true) (w4 : (Jvm.Cond.initialized "java/lang/System").before a0 Z = true)
    {a b : Addr} {ka kb : ClassId} {ty : FieldType} {z z' sp dp nn : Int32} {vs vd : List Value} {dv dd : Value} (A : Arv Z h a ka ty z vs dv) (B : Arv Z h b kb ty z' vd dd) (hty : refKind ty = false) (h1 : ¬ sp < 0) (h2 : ¬ dp < 0) (h3 : ¬ nn < 0) (h4 : sp.toNatClampNeg + nn.toNatClampNeg ≤ z.toNatClampNeg) (h5 : dp.toNatClampNeg + nn.toNatClampNeg ≤ z'.toNatClampNeg) (hl : dp.toNatClampNeg + nn.toNatClampNeg ≤ vd.length) (ge : n0 ≤ b)
    (us : List Value) (hus : vd.take dp.toNatClampNeg ++ ((List.range nn.toNatClampNeg).map fun i => vs.getD (sp.toNatClampNeg + i) dv) ++ vd.drop (dp.toNatClampNeg + nn.toNatClampNeg) = us) (hsz : ls.size = maxL) (hd : decode cd pc = .ok (.invokestatic index, 3)) (hf : 1 ≤ R.frames) (W : Nat) (hW : (st.map fun v => v.category).sum ≤ W) (hlo : W + (nativeFrameWords "java/lang/System" "arraycopy" 5 + 11) ≤ R.locals)
    (k : ∀ T' h', own_S p l e R s m args below meth c n0 T' h' cells slots → Keep h h' [b] → Arv Z h' b kb ty z' us dd → own_Go p e below En T' (mkF m (pc + 3) ls st)) : own_Go p e below En T (mkF m pc ls (.int nn :: .int dp :: .ref b :: .int sp :: .ref a :: st)) := by
  obtain ⟨locs, kk, nn', X, eT, N, q1, q2⟩ := S
  obtain ⟨T', h', L, X', e', N', K, B', stp⟩ := cpA X C.1 C.2.2.2.2.2.2.2 C.2.2.2.1 w1 w2 w3 w4 eT A B (Or.inl ⟨rfl, hty⟩) h1 h2 h3 h4 h5 rfl hl N ge (g := mkF m pc ls (.int nn :: .int dp :: .ref b :: .int sp :: .ref a :: st)) rfl (own_hsz C hsz) rfl (own_hd C hd) hf (W := W) (by show 2 * 0 + _ ≤ W; omega) hlo
  rw [hus] at B'
  exact own_step stp (k T' h' ⟨_, _, _, X', e', N', q1, q2⟩ K B')
/-- ireturn of a byte -/
theorem own_retB (C : own_Cx p s m meth c Z own cd maxL (some .byte) nm) (S : own_S p l e R s m args below meth c n0 T h cells slots) {z : Int32} (hd : decode cd pc = .ok (.ireturn, 1)) (hz : z.toInt8.toInt32 = z) (hc : cells ≤ kc) (hs : slots ≤ ks) (hF : F (some (.int z)) h) : own_Go p e below (own_En s n0 F kc ks) T (mkF m pc ls (.int z :: st)) :=
  own_ret C S hd (by show Value.int (z.toInt8.toInt32) = _; rw [hz]) (Or.inl ⟨rfl, by simp, z, rfl⟩) hc hs hF
/-- newarray, with the array's class by name -/
theorem own_newPE (C : own_Cx p s m meth c Z own cd maxL ret nm) (S : own_S p l e R s m args below meth c n0 T h cells slots) {aty : ArrayType} {ad : String} (had : "[" ++ (newarray.typeOf aty).toString = ad) (w : (Jvm.Cond.arrayClass (newarray.typeOf aty)).before a0 Z = true) (hd : decode cd pc = .ok (.newarray aty, 2)) {n : Int32} (hn : ¬ n < 0) (cap : Nat) (hcap : n.toNatClampNeg ≤ cap) (hb : cap * 8 ≤ 536870912) (hc : cells + 1 ≤ R.cells) (hl : slots + cap ≤ R.slots)
    (k : ∀ T' h' a cA, own_S p l e R s m args below meth c n0 T' h' (cells + 1) (slots + cap) → a = h.size → Ext h h' → Arv Z h' a cA (newarray.typeOf aty) n [] (defaultValue (newarray.typeOf aty)) → Exa Z h' a ad → own_Go p e below En T' (mkF m (pc + 2) ls (.ref a :: st))) : own_Go p e below En T (mkF m pc ls (.int n :: st)) := by
  obtain ⟨locs, kk, nn, X, eT, N, q1, q2⟩ := S
  obtain ⟨T', h', cA, X', e', E, A, B, stp⟩ := newPE X C.1 C.2.2.2.2.2.2.2 w eT (g := mkF m pc ls (.int n :: st)) rfl (own_hd C hd) rfl hn hcap hb (by omega) (by omega) had
  exact own_step stp (k T' h' _ cA ⟨_, _, _, X', e', N, by omega, by omega⟩ rfl E (Arv.new A hn) B)
/-- clone() of an array -/
theorem own_clone (C : own_Cx p s m meth c Z own cd maxL ret nm) (S : own_S p l e R s m args below meth c n0 T h cells slots) {index : Nat} {ad : String} (w1 : (Jvm.Cond.methodLink own index ⟨ad, "clone", "()Ljava/lang/Object;"⟩).before a0 Z = true) (w2 : (Jvm.Cond.sameMethod ad "java/lang/Object" "clone" "()Ljava/lang/Object;").before a0 Z = true) (w3 : (Jvm.Cond.native ⟨"java/lang/Object", "clone", "()Ljava/lang/Object;"⟩).before a0 Z = true)
    (w4 : (Jvm.Cond.instanceMethod ⟨"java/lang/Object", "clone", "()Ljava/lang/Object;"⟩).before a0 Z = true) (w5 : (Jvm.Cond.selects ad ⟨ad, "clone", "()Ljava/lang/Object;"⟩ ⟨"java/lang/Object", "clone", "()Ljava/lang/Object;"⟩).before a0 Z = true) (w6 : (Jvm.Cond.castable ad "java/lang/Cloneable").before a0 Z = true)
    {a : Addr} {ka : ClassId} {ty : FieldType} {z : Int32} {vs : List Value} {dv : Value} (A : Arv Z h a ka ty z vs dv) (E : Exa Z h a ad) (hsz : ls.size = maxL) (hd : decode cd pc = .ok (.invokevirtual index, 3)) (hf : 1 ≤ R.frames) (W cap : Nat) (hW : (st.map fun v => v.category).sum ≤ W) (hl : W + 14 ≤ R.locals) (hcap : z.toNatClampNeg ≤ cap) (hc : cells + 1 ≤ R.cells) (hsl : slots + cap ≤ R.slots)
    (k : ∀ T' h' b, own_S p l e R s m args below meth c n0 T' h' (cells + 1) (slots + cap) → b = h.size → Ext h h' → Arv Z h' b ka ty z vs dv → Exa Z h' b ad → own_Go p e below En T' (mkF m (pc + 3) ls (.ref b :: st))) : own_Go p e below En T (mkF m pc ls (.ref a :: st)) := by
  obtain ⟨locs, kk, nn, X, eT, N, q1, q2⟩ := S
  obtain ⟨T', h', X', e', Ex, A', E', stp⟩ := cloneH X C.1 C.2.2.2.2.2.2.2 C.2.2.2.1 w1 w2 w3 w4 w5 w6 eT A.arh E (g := mkF m pc ls (.ref a :: st)) rfl (own_hsz C hsz) rfl (own_hd C hd) hf (W := W) (cap := cap) (by show 2 * 0 + _ ≤ W; omega) hl hcap (by omega) (by omega)
  exact own_step stp (k T' h' _ ⟨_, _, _, X', e', N, by omega, by omega⟩ rfl Ex A' E')
end OwnKit

section OwnKitW
open Jvm.Free.SB Jvm.Free.SBG
variable {p : Program} {l : Launch} {e : Env} {R : Room} {s : State} {m : MethodId} {args : Array Value} {below : List Frame} {meth : Method} {c : Code} {T : State} {locs : List Loc} {cells slots : Nat} {Z : State} {a0 : Array Value} {h : Heap} {own : String} {cd : ByteArray} {maxL : Nat} {ret : Option FieldType} {nm : String} {n0 : Nat} {F : Option Value → Heap → Prop} {kc ks : Nat} {En : Outcome → State → Prop} {pc : Nat} {ls : Array Slot} {st : List Value} {EL : List (String × Nat)} {G : List Addr}
def own_EnW (s : State) (n0 : Nat) (Z : State) (EL : List (String × Nat)) (F : Option Value → Heap → Prop) (kc ks : Nat) (o : Outcome) (s₂ : State) : Prop :=
  ∃ v L, o = .returned v ∧ (F v s₂.heap ∧ Fr n0 L) ∧ CHr Z EL s.vm s.heap s₂.vm s₂.heap ∧ ReturnedEndW s o s₂ L kc ks
def own_CxW (p : Program) (meth : Method) (c : Code) (Z : State) (a0 : Array Value) (EL : List (String × Nat)) (cd : ByteArray) (maxL : Nat) (ret : Option FieldType) (nm : String) : Prop :=
  p.tables.exec = Jvm.exec ∧ c.code = cd ∧ c.maxLocals = maxL ∧ meth.name = nm ∧ meth.sig.returnType = ret ∧ meth.locks = false ∧ EW Z a0 EL ∧ ∀ a ∈ Bundle.stringAtoms, a.before a0 Z = true
def own_SW (p : Program) (l : Launch) (e : Env) (R : Room) (s : State) (m : MethodId) (args : Array Value) (below : List Frame) (meth : Method) (c : Code) (n0 : Nat) (Z : State) (EL : List (String × Nat)) (own : String) (T : State) (h : Heap) (G : List Addr) (cells slots : Nat) : Prop :=
  ∃ vm0 k0, own_S p l e R (s.setVm vm0) m args below meth c n0 T h cells slots ∧ s.Since vm0 k0 ∧ k0 ≤ h.size ∧ Z.Warmed39 vm0 ∧ vm0.findClass own = some m.cls ∧ CHr Z EL s.vm s.heap vm0 h ∧ ∀ x ∈ G, x < h.size ∧ Safe Z EL vm0 h x
/-- between two loads the walk is a narrow one, over the start with the tables at hand; 'rb' leads back -/
theorem own_lift (C : own_CxW p meth c Z a0 EL cd maxL ret nm) (S : own_SW p l e R s m args below meth c n0 Z EL own T h G cells slots) {g : JFrame}
    (k : ∀ vm0, own_Cx p (s.setVm vm0) m meth c Z own cd maxL ret nm → own_S p l e R (s.setVm vm0) m args below meth c n0 T h cells slots →
      (∀ T' h' c' s' ws N, own_S p l e R (s.setVm vm0) m args below meth c n0 T' h' c' s' → Keep h h' ws → (∀ x ∈ ws, x ∈ G) → (∀ x ∈ N, h.size ≤ x ∧ x < h'.size) → own_SW p l e R s m args below meth c n0 Z EL own T' h' (N ++ G) c' s') → own_Go p e below En T g) : own_Go p e below En T g := by
  obtain ⟨vm0, k0, S0, hS, hk, hZ, ho, hC, hG⟩ := S
  refine k vm0 ⟨C.1, C.2.1, C.2.2.1, ho, C.2.2.2.1, C.2.2.2.2.1, C.2.2.2.2.2.1, hZ⟩ S0 fun T' h' c' s' ws N S' K hws hN => ?_
  have hs : ∀ x ∈ ws, Safe Z EL vm0 h x := fun x hx => (hG x (hws x hx)).2
  refine ⟨vm0, k0, S', hS, Nat.le_trans hk K.1, hZ, ho, hC.trans (CHr.keep K hs hC.1), fun x hx => ?_⟩
  rcases List.mem_append.mp hx with hx | hx
  · exact ⟨(hN x hx).2, Safe.keep K hs hC.1 (Safe.new (hN x hx).1)⟩
  · exact ⟨Nat.lt_of_lt_of_le (hG x hx).1 K.1, Safe.keep K hs hC.1 (hG x hx).2⟩
/-- the array of a String constant is a byte[] -/
theorem own_litB {vm : Vm} {own : String} {index : Nat} {u : Array UInt16} {a b : Addr} {kb : ClassId} {z : Int32} {vs : List Value} {dv : Value} (hal : Z.vm.Alike vm) (H : CHv Z EL vm h) (hmem : (own, index) ∈ EL) (hB : Booksv vm own index u a) (V : Fld Z h a "java/lang/String" "value" "[B" (.ref b)) (A : Arv Z h b kb .byte z vs dv) : Exa Z h b "[B" := by
  obtain ⟨q, rfl, F⟩ := SlB.of (H _ hmem u a hB)
  have hd := F.hd
  have ha := F.ha
  obtain ⟨cS, ⟨⟨-, -, -, ⟨c1, k1, i1, f1, -⟩, -, -, -, v1, -⟩, -⟩, -, hb, -⟩ := F
  obtain ⟨cell, cf, k, i, f, e1, e2, -, -, -, -, e3⟩ := V
  have ec : cell = q.sC := Option.some.inj (e1.symm.trans ha)
  obtain ⟨k', z4⟩ := ff_back (U := Wst Z vm h) hal f1
  have e4 := e2.symm.trans z4
  simp only [Option.some.injEq, Prod.mk.injEq] at e4
  rw [ec, e4.2.2.2, v1] at e3
  have eb : q.sd = b := by simpa using e3
  subst eb
  obtain ⟨cl, A0, -⟩ := A
  have ecl : cl = q.SA := Option.some.inj (A0.1.symm.trans hd)
  have hst := A0.plain
  obtain ⟨-, k9, hk9, comp, hkind⟩ := A0.2.1
  refine ⟨cl, k9, A0.1, ?_, hk9, hst, fun q => by rw [hkind] at q; cases q⟩
  rw [ecl, ← hal.findClass]; exact hb
theorem own_books {vm : Vm} {own text : String} {index : Nat} {a : Addr} {mc : ClassId} (hW : Z.Warmed39 vm) (ho : vm.findClass own = some mc) (w : (Jvm.Cond.stringLink own index text).before a0 Z = true) (L : Lit (s.setVm vm) own index a) : ∃ u, Booksv vm own index u a := by
  obtain ⟨k0, cf, i, u, h1, h2, h3, h4, -⟩ := Cond.stringLink_spec (args := a0) (s := Wst Z vm Z.heap) ho (mvS (s := Wst Z vm Z.heap) (args := a0) hW w)
  have h1' : vm.classes[mc]? = some k0 := h1
  have q : (s.setVm vm).resolvedAt? own index = some (.string a) := L
  simp only [State.resolvedAt?, Option.bind_eq_bind] at q
  rw [show (s.setVm vm).vm.findClass own = some mc from ho] at q
  simp only [Option.bind_some] at q
  rw [show (s.setVm vm).vm.classes[mc]? = some k0 from h1'] at q
  simp only [Option.bind_some] at q
  refine ⟨u, mc, k0, cf, i, ho, h1', h2, h3, h4, Or.inl ?_⟩
  cases hr : k0.resolved[index]? with
  | none => rw [hr] at q; cases q
  | some o => rw [hr] at q; cases o with
    | none => cases q
    | some r => simpa using q
theorem own_ldcWE (C : own_CxW p meth c Z a0 EL cd maxL ret nm) (S : own_SW p l e R s m args below meth c n0 Z EL own T h G cells slots) {index : Nat} {text : String} (w : (Jvm.Cond.stringLink own index text).before a0 Z = true) (hmem : (own, index) ∈ EL) {vs : List Value} {z : Int32} (ht : (∀ c ∈ text.toList, c.toNat < 256) ∧ text.toList.map (fun c => Value.int (Jvm.Lit.byteI c.toNat.toUInt16)) = vs) (hz : ¬ z < 0) (hl : z.toNatClampNeg = vs.length)
    (hd : decode cd pc = .ok (.ldc index, 2)) (n : Nat) (hn : 4 * text.toList.length ≤ n) (hbig : n ≤ 536870912) (hc : cells + 2 ≤ R.cells) (hl' : slots + (n + 4) ≤ R.slots)
    (k : ∀ T' h' a b kb, own_SW p l e R s m args below meth c n0 Z EL own T' h' G (cells + 2) (slots + (n + 4)) → Ext h h' → Exa Z h' a "java/lang/String" → Fld Z h' a "java/lang/String" "coder" "B" (.int 0) → Fld Z h' a "java/lang/String" "value" "[B" (.ref b) → Arv Z h' b kb .byte z vs (.int 0) → (∀ x ∈ G, x ≠ a ∧ x ≠ b) → Exa Z h' b "[B" → own_Go p e below En T' (mkF m (pc + 2) ls (.ref a :: st))) : own_Go p e below En T (mkF m pc ls st) := by
  obtain ⟨vm0, k0, ⟨locs, kk, nn, X, eT, N, q1, q2⟩, hS, hk, hZ, ho, hC, hG⟩ := S
  obtain ⟨a, T', h', k1, b, kb, X', e', E, hS', hk', hZ', ho', x1, x2, x3, x4, x5, x6, hC', hL, hne, stp⟩ := ldcCH X C.1 hZ ho w C.2.2.2.2.2.2.2 eT hS hk C.2.2.2.2.2.2.1 hmem hC.1 ht hz hl (g := mkF m pc ls st) rfl (by rw [C.2.1]; exact hd) hn hbig (by omega) (by omega)
  have hG' : ∀ x ∈ G, x < h'.size ∧ Safe Z EL T'.vm h' x := fun x hx => ⟨Nat.lt_of_lt_of_le (hG x hx).1 E.1, hC'.safe (hG x hx).1 (hG x hx).2⟩
  exact own_step stp (k T' h' a b kb ⟨T'.vm, k1, ⟨locs, _, _, X', e', N, by omega, by omega⟩, hS', hk', hZ', ho', hC.trans hC', hG'⟩ E x1 x2 x3 x4 (fun x hx => hne x (hG' x hx).2) (by obtain ⟨u, hB⟩ := own_books (s := s) hZ' ho' w hL; exact own_litB hZ'.alike hC'.1 hmem hB x3 x4))
theorem own_endW (C : own_CxW p meth c Z a0 EL cd maxL ret nm) (S : own_SW p l e R s m args below meth c n0 Z EL own T h G cells slots) {v : Option Value} (hv : meth.sig.returnType = none → v = none) {g : JFrame}
    (hst : ∀ locs kk nn vm0 fs, Stand p l e R (s.setVm vm0) m args below meth c T locs kk nn → (∀ (f : JFrame) (acts : List Action), f.method = m → f.locked = none → f.entered = [] → (doReturn e (T.setTop f) acts v).1 = T.setFrames fs) → Steps p.tables e below (T.setTop g) (T.setFrames fs)) (hc : cells ≤ kc) (hs : slots ≤ ks) (hF : F v h) : own_Go p e below (own_EnW s n0 Z EL F kc ks) T g := by
  obtain ⟨vm0, k0, ⟨locs, kk, nn, X, eT, N, q1, q2⟩, hS, hk, hZ, ho, hC, hG⟩ := S
  obtain ⟨fs, hr, hrun, hended, hret⟩ := X.leaveW hS (by rw [eT]; exact hk) hv C.2.2.2.2.2.1
  refine ⟨_, _, hst locs kk nn vm0 fs X hr, hrun, hended, v, locs, rfl, ⟨?_, N⟩, ?_, ?_⟩
  · show F v T.heap
    rw [eT]; exact hF
  · show CHr Z EL s.vm s.heap T.vm T.heap
    rw [eT]
    exact hC.trans (CHv.at X hZ C.2.2.2.2.2.2.1 hC.1)
  · exact ⟨hret.1, hret.2.1, hret.2.2.1, hret.2.2.2.mono (Nat.le_trans q1 hc) (Nat.le_trans q2 hs)⟩
theorem own_retW {t : FieldType} (C : own_CxW p meth c Z a0 EL cd maxL (some t) nm) (S : own_SW p l e R s m args below meth c n0 Z EL own T h G cells slots) {i : Instr} {w : Value} (hd : decode cd pc = .ok (i, 1)) (hn : narrow t w = w)
    (hi : (i = .ireturn ∧ (t = .int ∨ t = .boolean ∨ t = .byte ∨ t = .char ∨ t = .short) ∧ ∃ z, w = .int z) ∨ (i = .lreturn ∧ t = .long ∧ ∃ z, w = .long z) ∨ (i = .dreturn ∧ t = .double ∧ ∃ z, w = .double z) ∨ (i = .freturn ∧ t = .float ∧ ∃ z, w = .float z) ∨ (i = .areturn ∧ t.isReference = true ∧ w.isRef = true))
    (hc : cells ≤ kc) (hs : slots ≤ ks) (hF : F (some w) h) : own_Go p e below (own_EnW s n0 Z EL F kc ks) T (mkF m pc ls (w :: st)) :=
  own_endW C S (fun q => by rw [C.2.2.2.2.1] at q; cases q) (fun locs kk nn vm0 fs X hr => retOut X C.1 C.2.2.2.2.1 hn hi (by rw [C.2.1]; exact hd) hr) hc hs hF
theorem own_retZW (C : own_CxW p meth c Z a0 EL cd maxL (some .boolean) nm) (S : own_SW p l e R s m args below meth c n0 Z EL own T h G cells slots) {z : Int32} (hd : decode cd pc = .ok (.ireturn, 1)) (hz : z &&& 1 = z) (hc : cells ≤ kc) (hs : slots ≤ ks) (hF : F (some (.int z)) h) : own_Go p e below (own_EnW s n0 Z EL F kc ks) T (mkF m pc ls (.int z :: st)) :=
  own_retW C S hd (by show Value.int (z &&& 1) = _; rw [hz]) (Or.inl ⟨rfl, Or.inr (Or.inl rfl), z, rfl⟩) hc hs hF
theorem own_retAW {t : FieldType} (C : own_CxW p meth c Z a0 EL cd maxL (some t) nm) (S : own_SW p l e R s m args below meth c n0 Z EL own T h G cells slots) {w : Value} (ht : t.isReference = true) (hr : w.isRef = true) (hd : decode cd pc = .ok (.areturn, 1)) (hc : cells ≤ kc) (hs : slots ≤ ks) (hF : F (some w) h) : own_Go p e below (own_EnW s n0 Z EL F kc ks) T (mkF m pc ls (w :: st)) :=
  own_retW C S hd (by cases w <;> simp [Value.isRef] at hr <;> cases t <;> first | rfl | (simp [FieldType.isReference] at ht)) (by simp [ht, hr]) hc hs hF
def own_MetW (l : Launch) (Z : State) (EL : List (String × Nat)) (y : MethodName) (cd : ByteArray) (maxL : Nat) (ret : Option FieldType) (rm : Room) (n0 : Nat) (as' : Array Value) (h0 : Heap) (G0 : List Addr) (Q : Option Value → Heap → Prop) : Prop :=
  ∀ ws, MetFree l y (head1 (Jvm.Cond.code y cd maxL ret :: ws) rm) (fun a U => a = as' ∧ Z.Warmed39 U.vm ∧ U.heap = h0 ∧ CHv Z EL U.vm h0 ∧ ∀ x ∈ G0, x < h0.size ∧ Safe Z EL U.vm h0 x) (fun _ _ _ _ _ => True)
    (fun _ U o U' => ∃ v L, o = .returned v ∧ (Q v U'.heap ∧ Fr n0 L) ∧ CHr Z EL U.vm U.heap U'.vm U'.heap ∧ ReturnedEndW U o U' L rm.cells rm.slots)
theorem own_metW {y : MethodName} {rm : Room} {as' : Array Value} {h0 : Heap} {G0 : List Addr} {Q : Option Value → Heap → Prop} (hEL : EW Z a0 EL) (wS : ∀ a ∈ Bundle.stringAtoms, a.before a0 Z = true) (hp : plainFor y = true) (ls : Array Slot) (hef : ∀ m, entryFrame m as' maxL = mkF m 0 ls [])
    (H : ∀ (p : Program) (e : Env) (s : State) (m : MethodId) (below : List Frame) (meth : Method) (c : Code) (T : State), own_CxW p meth c Z a0 EL cd maxL ret y.name → own_SW p l e rm s m as' below meth c n0 Z EL y.cls T h0 G0 0 0 → own_Go p e below (own_EnW s n0 Z EL Q rm.cells rm.slots) T (mkF m 0 ls [])) : own_MetW l Z EL y cd maxL ret rm n0 as' h0 G0 Q := by
  intro ws
  refine MetFree.of_bodySF hp hisR ?_
  intro p e s m args below meth c s₁ Bd hml hP hK
  obtain ⟨rfl, hZ, hh, hC, hG⟩ := hP
  have e0 : s₁.heap = h0 := by rw [← hh, Bd.state]; rfl
  have G := H p e s m below meth c s₁ ⟨Bd.exec, Bd.bytes, hml, (name_of_methodNamed Bd.named Bd.method).1, Bd.returns, BodyLoose.notSynchronized Bd, hEL, wS⟩
    ⟨s.vm, h0.size, ⟨_, _, _, Stand.of_body Bd, e0, Fr.nil n0, Nat.le_refl _, Nat.le_refl _⟩, (State.WarmedH.refl s).since _, Nat.le_refl _, hZ, findClass_of_methodNamed Bd.named, by rw [hh]; exact CHr.refl hC, hG⟩
  rw [← hef m] at G
  exact G
theorem own_payW {vm0 : Vm} {y : MethodName} {cdy : ByteArray} {maxy : Nat} {rety : Option FieldType} {rm : Room} {as' : Array Value} {G0 : List Addr} {Q : Option Value → Heap → Prop} (M : own_MetW l Z EL y cdy maxy rety rm n0 as' h G0 Q) (hZ : Z.Warmed39 vm0) {len W : Nat} (wc : (Jvm.Cond.code y cdy maxy rety).before a0 Z = true) (wz : (Jvm.Cond.initialized y.cls).before a0 Z = true) (hf : rm.frames + 1 ≤ R.frames) (hl : W + (maxy + 11) + rm.locals ≤ R.locals) (hEL : EW Z a0 EL) (H : CHv Z EL vm0 h) (hG : ∀ x ∈ G0, x < h.size ∧ Safe Z EL vm0 h x) :
    BackS l R p e below (s.setVm vm0) args y len W (fun A a => a = as' ∧ A.U.heap = h ∧ A.cells + rm.cells ≤ R.cells ∧ A.slots + rm.slots ≤ R.slots)
      (fun A _ v B => ∃ L, (Q v B.U.heap ∧ Fr n0 L) ∧ B.locs = A.locs ++ L ∧ B.cells = A.cells + rm.cells ∧ B.slots = A.slots + rm.slots ∧ CHr Z EL vm0 h B.U.vm B.U.heap) :=
  BackS.of_freeW (bytes := cdy) (maxL := maxy) (ret := rety) (E := fun _ first o t L k n => k = rm.cells ∧ n = rm.slots ∧ (∃ v, o = .returned v ∧ (Q v t.heap ∧ Fr n0 L)) ∧ CHr Z EL first.vm first.heap t.vm t.heap) (M []) hf hl
    (fun m meth c A a Y hp => have hU : Z.Warmed39 A.U.vm := wtrans (s := s.setVm vm0) hZ Y.warmed
      ⟨by show (Cond.and _ .tt).before a A.U = true; rw [Cond.before_and, mv hU wc]; rfl, mv hU wc, mv hU wz, hp.2.2.1, hp.2.2.2⟩)
    (fun m meth c A a g mk Y hp => ⟨hp.1, wtrans (s := s.setVm vm0) hZ Y.warmed, hp.2.1, (CHv.at Y hZ hEL H).1, fun x hx => ⟨(hG x hx).1, (CHv.at Y hZ hEL H).safe (hG x hx).1 (hG x hx).2⟩⟩) (fun _ _ _ _ _ _ _ _ _ => trivial)
    (fun _ _ _ _ ⟨v, L, h1, h2, h3, h4⟩ => ⟨L, _, _, h4, rfl, rfl, ⟨v, h1, h2⟩, h3⟩)
    (fun m meth c A a g mk v t L k n Y hp _ _ ⟨e1, e2, ⟨v', e3, e4⟩, e5⟩ => by
      cases e3; subst e1 e2
      refine ⟨L, e4, rfl, rfl, rfl, (CHv.at Y hZ hEL H).trans ?_⟩
      rw [← hp.2.1]; exact e5)
theorem own_backW {T : State} {vm0 : Vm} {k0 : Nat} {B : Pt} {Q : Option Value → Heap → Prop} {v : Option Value} {L : List Loc} {k1 k2 kk nn : Nat} (hS : s.Since vm0 k0) (hk : k0 ≤ h.size) (hZ : Z.Warmed39 vm0) (ho : vm0.findClass own = some m.cls) (hC : CHr Z EL s.vm s.heap vm0 h) (hG : ∀ x ∈ G, x < h.size ∧ Safe Z EL vm0 h x) (N : Fr n0 locs) (q1 : kk ≤ cells) (q2 : nn ≤ slots)
    (X' : Stand p l e R ((s.setVm vm0).setVm B.U.vm) m args below meth c B.U B.locs B.cells B.slots) (h2 : (s.setVm vm0).Since B.U.vm B.U.heap.size) (hg : h.size ≤ B.U.heap.size) (hQ : Q v B.U.heap ∧ Fr n0 L) (l1 : B.locs = locs ++ L) (l2 : B.cells = kk + k1) (l3 : B.slots = nn + k2) (hC' : CHr Z EL vm0 h B.U.vm B.U.heap) :
    own_SW p l e R s m args below meth c n0 Z EL own B.U B.U.heap G (cells + k1) (slots + k2) := by
  obtain ⟨X1, hS1, hZ1, ho1⟩ := rebS hS hk X' h2 hg hZ ho
  exact ⟨B.U.vm, _, ⟨B.locs, B.cells, B.slots, X1, rfl, by rw [l1]; exact Fr.app N hQ.2, by omega, by omega⟩, hS1, Nat.le_refl _, hZ1, ho1, hC.trans hC', fun x hx => ⟨Nat.lt_of_lt_of_le (hG x hx).1 hg, hC'.safe (hG x hx).1 (hG x hx).2⟩⟩
theorem own_callSW (C : own_CxW p meth c Z a0 EL cd maxL ret nm) (S : own_SW p l e R s m args below meth c n0 Z EL own T h G cells slots) {y : MethodName} {index : Nat} {cdy : ByteArray} {maxy : Nat} {rety : Option FieldType} {rm : Room} {as' : Array Value} {G0 : List Addr} {Q : Option Value → Heap → Prop}
    (w1 : (Jvm.Cond.methodLink own index y).before a0 Z = true) (w2 : (Jvm.Cond.static y).before a0 Z = true) (w3 : (Jvm.Cond.initialized y.cls).before a0 Z = true) (w4 : (Jvm.Cond.code y cdy maxy rety).before a0 Z = true) (hy : y.cls ≠ "java/lang/invoke/MethodHandle" ∧ y.cls ≠ "java/lang/invoke/VarHandle")
    (M : own_MetW l Z EL y cdy maxy rety rm n0 as' h G0 Q) (hG0 : ∀ x ∈ G0, x ∈ G) (W : Nat) (hf : rm.frames + 1 ≤ R.frames) (hlo : W + (maxy + 11) + rm.locals ≤ R.locals) (argsL rest : List Value) {ps : List FieldType} {rr : Option FieldType} (has : argsL.toArray = as') (hpd : parseMethodDescriptor y.desc = some ⟨ps, rr⟩) (hlen : argsL.length = ps.length) (hstk : st = argsL.reverse ++ rest) (hsz : ls.size = maxL) (hW : (rest.map fun v => v.category).sum ≤ W)
    (hc : cells + rm.cells ≤ R.cells) (hs : slots + rm.slots ≤ R.slots) (hd : decode cd pc = .ok (.invokestatic index, 3))
    (k : ∀ T' h' v, own_SW p l e R s m args below meth c n0 Z EL own T' h' G (cells + rm.cells) (slots + rm.slots) → h.size ≤ h'.size → Q v h' → own_Go p e below En T' (mkF m (pc + 3) ls (v.toList ++ rest))) : own_Go p e below En T (mkF m pc ls st) := by
  obtain ⟨vm0, k0, ⟨locs, kk, nn, X, eT, N, q1, q2⟩, hS, hk, hZ, ho, hC, hG⟩ := S
  obtain ⟨v, vm1, B, -, X', h2, hg, ⟨L, hQ, l1, l2, l3, hC'⟩, stp⟩ := callSS X C.1 ho (mvT (s := s.setVm vm0) hZ w1) (mvT (s := s.setVm vm0) hZ w2) (mvT (s := s.setVm vm0) hZ w3) (mvT (s := s.setVm vm0) hZ w4) hy (own_payW M hZ w4 w3 hf hlo C.2.2.2.2.2.2.1 hC.1 fun x hx => hG x (hG0 x hx)) (g := mkF m pc ls st) rfl (by rw [C.2.2.1]; exact hsz) (argsL := argsL) (rest := rest) (lenOf hpd hlen) hstk (by show 2 * 0 + _ ≤ W; omega) (by rw [C.2.1]; exact hd) (fun _ _ => ⟨has, eT, by show kk + _ ≤ _; omega, by show nn + _ ≤ _; omega⟩)
  rw [eT] at hg
  exact own_step (fun t k => stp.trans k) (k B.U _ v (own_backW (T := T) hS hk hZ ho hC hG N q1 q2 X' h2 hg hQ l1 l2 l3 hC') hg hQ.1)
end OwnKitW

theorem own_i2b2 (x : Int32) : nar .byte x.toInt8.toInt32 = x.toInt8.toInt32 := by
  have h := Jvm.Free.XT.narrow_b x
  exact Value.int.inj h
theorem own_and255 (x : Int32) : ¬ (x &&& (255 : Int32)) < 0 ∧ ¬ (255 : Int32) < (x &&& (255 : Int32)) := by
  have h := c_and x (255 : Int32) (by decide)
  rw [Int32.lt_iff_toInt_lt, Int32.lt_iff_toInt_lt]
  have e1 : (255 : Int32).toInt = 255 := rfl
  have e2 : (0 : Int32).toInt = 0 := rfl
  omega
theorem own_shr0 (x : Int32) : x >>> ((0 : Int32) &&& 31) = x := by
  rw [show ((0 : Int32) &&& 31) = 0 from by decide]; exact Int32.shiftRight_zero
theorem own_cod {cs : List Int32} {N : Int32} {vs : List Value} (h : StrChars.Road.CodA cs 0 N vs) : Int32.ofNat cs.length = N ∧ vs = cs.map fun c => Value.int (StrChars.lo8 c) := by
  rcases h with ⟨-, h1, h2, -⟩ | ⟨h, -⟩
  · exact ⟨h1.symm, h2⟩
  · exact absurd h (by decide)
theorem own_take0 (k : Nat) (d : Value) (M : List Value) : (List.replicate k d).take (0 : Int32).toNatClampNeg ++ M ++ (List.replicate k d).drop ((0 : Int32).toNatClampNeg + k) = M := by
  have e : (0 : Int32).toNatClampNeg = 0 := rfl
  rw [e]; simp
theorem own_min_g {x y : Int32} (h : ¬ x < y) : (if y < x then y else x) = y := by
  by_cases g : y < x
  · rw [if_pos g]
  · rw [if_neg g]
    exact Int32.toInt_inj.mp (by rw [Int32.lt_iff_toInt_lt] at h g; omega)
theorem own_nat_le {n N : Int32} (h0 : ¬ n < 0) (h : ¬ N < n) : 0 + n.toNatClampNeg ≤ N.toNatClampNeg := by
  rw [Int32.lt_iff_toInt_lt] at h h0
  have e0 : (0 : Int32).toInt = 0 := rfl
  simp only [Int32.toNatClampNeg]
  omega
theorem own_ofNat_nn {i : Nat} (h : i ≤ 4000) : ¬ Int32.ofNat i < 0 ∧ (Int32.ofNat i).toNatClampNeg = i := by
  have e : (Int32.ofNat i).toInt = i := Int32.toInt_ofNat_of_lt (by omega)
  refine ⟨?_, ?_⟩
  · rw [Int32.lt_iff_toInt_lt, e]
    have e0 : (0 : Int32).toInt = 0 := rfl
    omega
  · simp only [Int32.toNatClampNeg, e]; omega
theorem own_ofNat_lt {i n : Nat} (h : i ≤ 4000) (hn : n ≤ 4000) : Int32.ofNat i < Int32.ofNat n ↔ i < n := by
  have e : (Int32.ofNat i).toInt = i := Int32.toInt_ofNat_of_lt (by omega)
  have e2 : (Int32.ofNat n).toInt = n := Int32.toInt_ofNat_of_lt (by omega)
  rw [Int32.lt_iff_toInt_lt, e, e2]; omega
theorem own_ofNat_succ (i : Nat) : Int32.ofNat i + 1 = Int32.ofNat (i + 1) := by
  rw [Int32.ofNat_add]; rfl
theorem own_b8 {c : Int32} (h : ¬ c < 0 ∧ ¬ (255 : Int32) < c) : c.toInt8.toInt32.toInt % 256 = c.toInt ∧ 0 ≤ c.toInt ∧ c.toInt ≤ 255 := by
  obtain ⟨h1, h2⟩ := h
  rw [Int32.lt_iff_toInt_lt] at h1 h2
  have e0 : (0 : Int32).toInt = 0 := rfl
  have e1 : (255 : Int32).toInt = 255 := rfl
  have e3 : c.toInt8.toInt32.toInt = c.toInt.bmod (2 ^ 8) := by simp
  rw [e3]
  refine ⟨?_, by omega, by omega⟩
  have := Int.bmod_emod (x := c.toInt) (m := 2 ^ 8)
  omega
theorem own_b8_inj {c d : Int32} (h : ¬ c < 0 ∧ ¬ (255 : Int32) < c) (h' : ¬ d < 0 ∧ ¬ (255 : Int32) < d) (e : c.toInt8.toInt32 = d.toInt8.toInt32) : c = d := by
  obtain ⟨a1, -⟩ := own_b8 h
  obtain ⟨a2, -⟩ := own_b8 h'
  rw [e] at a1
  exact Int32.toInt_inj.mp (a1.symm.trans a2)
theorem own_getD {cs : List Int32} {i : Nat} (h : i ≤ 4000) (hi : i < cs.length) : (cs.map fun c => Value.int (StrChars.lo8 c)).getD (Int32.ofNat i).toNatClampNeg (.int 0) = .int ((cs.getD i 0).toInt8.toInt32) := by
  rw [(own_ofNat_nn h).2]
  simp [List.getD, List.getElem?_map, List.getElem?_eq_getElem hi, StrChars.lo8]
theorem own_getD_mem {cs : List Int32} {i : Nat} (hi : i < cs.length) : cs.getD i 0 ∈ cs := by
  simp [List.getD, List.getElem?_eq_getElem hi]
theorem own_take_succ {cs : List Int32} {i : Nat} (hi : i < cs.length) {P : Int32 → Prop} (h : ∀ c ∈ cs.take i, P c) (h' : P (cs.getD i 0)) : ∀ c ∈ cs.take (i + 1), P c := by
  intro c hc
  rw [List.take_add_one, List.getElem?_eq_getElem hi] at hc
  simp [List.getD, List.getElem?_eq_getElem hi] at h'
  rcases List.mem_append.mp hc with q | q
  · exact h c q
  · simp at q; subst q; exact h'
def own_IO (r : Int32) (cs : List Int32) (k : Int32) : Prop := (r < 0 ∧ ∀ c ∈ cs, ¬ c = k) ∨ (¬ r < 0 ∧ k ∈ cs)
theorem own_IO.no {r k : Int32} {cs : List Int32} (q : own_IO r cs k) (h : ∀ c ∈ cs, ¬ c = k) (hr : ¬ r < 0) : False := by
  rcases q with ⟨q, -⟩ | ⟨-, q⟩
  · exact hr q
  · exact h k q rfl
theorem own_IO.mem {r k : Int32} {cs : List Int32} (q : own_IO r cs k) (hr : ¬ r < 0) : k ∈ cs := by
  rcases q with ⟨q, -⟩ | ⟨-, q⟩
  · exact absurd q hr
  · exact q
theorem own_IO.yes {r k : Int32} {cs : List Int32} (q : own_IO r cs k) (h : k ∈ cs) (hr : r < 0) : False := by
  rcases q with ⟨-, q⟩ | ⟨q, -⟩
  · exact q k h rfl
  · exact q hr
def own_Ch (r : Int32) : Prop := (¬ r < 0 ∧ ¬ (255 : Int32) < r) ∧ nar .char r = r ∧ r.toUInt32.toUInt16.toUInt32.toInt32 = r
theorem own_Ch.of (x : Int32) : own_Ch (x &&& (255 : Int32)) := ⟨own_and255 x, i2c_mask x, i2c_mask x⟩
theorem own_and_id {c : Int32} (h1 : 0 ≤ c.toInt) (h2 : c.toInt ≤ 255) : c &&& 255 = c := by
  have e : c = Int32.ofNat c.toInt.toNat := by
    apply Int32.toInt_inj.mp
    rw [Int32.toInt_ofNat_of_lt (by omega)]; omega
  have h3 : c.toInt.toNat < 256 := by omega
  generalize c.toInt.toNat = n at e h3
  subst e
  revert n; decide +kernel
theorem own_c16 {c : Int32} (h : ¬ c < 0 ∧ ¬ (255 : Int32) < c) : c.toUInt32.toUInt16.toUInt32.toInt32 = c := by
  obtain ⟨h1, h2⟩ := h
  rw [Int32.lt_iff_toInt_lt] at h1 h2
  have e0 : (0 : Int32).toInt = 0 := rfl
  have e1 : (255 : Int32).toInt = 255 := rfl
  have e2 : c &&& 255 = c := own_and_id (by omega) (by omega)
  have := i2c_mask c
  rw [e2] at this
  exact this
theorem own_andm (y : Int32) : (y &&& 255).toInt = y.toInt % 256 := by
  have e1 : (y &&& 255).toBitVec.toNat = y.toBitVec.toNat % 256 := by
    show (y.toBitVec &&& (255#32)).toNat = _
    rw [BitVec.toNat_and]; exact Nat.and_two_pow_sub_one_eq_mod _ 8
  have e2 : (y &&& 255).toInt = ((y &&& 255).toBitVec.toNat : Int) := BitVec.toInt_eq_toNat_of_lt (by omega)
  have e3 : y.toInt = y.toBitVec.toInt := rfl
  rw [e2, e1, e3, BitVec.toInt_eq_toNat_cond]; split <;> omega
theorem own_b255 (x : Int32) : (x.toInt8.toInt32 &&& 255).toInt = x.toInt % 256 := by
  rw [own_andm]
  have e3 : x.toInt8.toInt32.toInt = x.toInt.bmod (2 ^ 8) := by simp
  rw [e3]
  have := Int.bmod_emod (x := x.toInt) (m := 2 ^ 8)
  omega
theorem own_c65 {x : Int32} (h1 : 0 ≤ x.toInt) (h2 : x.toInt ≤ 65535) : x.toUInt32.toUInt16.toUInt32.toInt32 = x := by
  apply Int32.toInt_inj.mp
  have e1 : x.toUInt32.toUInt16.toUInt32.toInt32.toBitVec.toNat = x.toBitVec.toNat % 65536 := by
    show ((x.toBitVec.setWidth 16).setWidth 32).toNat = _
    simp only [BitVec.toNat_setWidth]; omega
  have e3 : x.toInt = x.toBitVec.toInt := rfl
  rw [e3, BitVec.toInt_eq_toNat_cond] at h1 h2
  have e4 : x.toUInt32.toUInt16.toUInt32.toInt32.toInt = x.toUInt32.toUInt16.toUInt32.toInt32.toBitVec.toInt := rfl
  have hb := x.toBitVec.isLt
  rw [e4, e3, BitVec.toInt_eq_toNat_cond, BitVec.toInt_eq_toNat_cond, e1]
  split at h1 <;> split <;> omega
theorem own_or8 {l m : Int32} (hl : 0 ≤ l.toInt ∧ l.toInt < 256) {h : Nat} (hm : m.toInt = 256 * h) (hh : h < 256) : (l ||| m).toInt = l.toInt + m.toInt := by
  have el : l.toInt = l.toBitVec.toInt := rfl
  have em : m.toInt = m.toBitVec.toInt := rfl
  have nl : (l.toBitVec.toNat : Int) = l.toInt := by
    have := l.toBitVec.isLt
    have e := BitVec.toInt_eq_toNat_cond l.toBitVec
    rw [← el] at e; split at e <;> omega
  have nm : (m.toBitVec.toNat : Int) = m.toInt := by
    have := m.toBitVec.isLt
    have e := BitVec.toInt_eq_toNat_cond m.toBitVec
    rw [← em] at e; split at e <;> omega
  have e1 : (l ||| m).toBitVec.toNat = l.toBitVec.toNat + m.toBitVec.toNat := by
    show (l.toBitVec ||| m.toBitVec).toNat = _
    rw [BitVec.toNat_or]
    have e5 : m.toBitVec.toNat = 2 ^ 8 * h := by omega
    have e6 : l.toBitVec.toNat < 2 ^ 8 := by omega
    rw [e5, Nat.or_comm, ← Nat.two_pow_add_eq_or_of_lt e6 h]; omega
  have e2 : (l ||| m).toInt = ((l ||| m).toBitVec.toNat : Int) := BitVec.toInt_eq_toNat_of_lt (by omega)
  omega
theorem own_shl8 {u : Int32} (h1 : 0 ≤ u.toInt) (h2 : u.toInt < 256) : (u <<< ((8 : Int32) &&& 31)).toInt = 256 * u.toInt := by
  have e : u = Int32.ofNat u.toInt.toNat := by
    apply Int32.toInt_inj.mp
    rw [Int32.toInt_ofNat_of_lt (by omega)]; omega
  have h3 : u.toInt.toNat < 256 := by omega
  have : ∀ n < 256, (Int32.ofNat n <<< ((8 : Int32) &&& 31)).toInt = 256 * (n : Int) := by decide +kernel
  have := this _ h3
  rw [← e] at this; omega
theorem own_u16 {c : Int32} (h1 : 0 ≤ c.toInt) (h2 : c.toInt ≤ 65535) : ((((c >>> ((0 : Int32) &&& 31)).toInt8.toInt32 &&& 255) <<< ((0 : Int32) &&& 31)) ||| (((c >>> ((8 : Int32) &&& 31)).toInt8.toInt32 &&& 255) <<< ((8 : Int32) &&& 31))).toUInt32.toUInt16.toUInt32.toInt32 = c := by
  rw [show ((0 : Int32) &&& 31) = 0 from by decide, show c >>> (0 : Int32) = c from Int32.shiftRight_zero, Int32.shiftLeft_zero]
  have a1 := own_b255 c
  have a2 := own_b255 (c >>> ((8 : Int32) &&& 31))
  have a3 := c_ishr c 8 8 (by decide)
  rw [a3] at a2
  have a4 := own_shl8 (u := (c >>> ((8 : Int32) &&& 31)).toInt8.toInt32 &&& 255) (by omega) (by omega)
  have a5 := own_or8 (l := c.toInt8.toInt32 &&& 255) (m := ((c >>> ((8 : Int32) &&& 31)).toInt8.toInt32 &&& 255) <<< ((8 : Int32) &&& 31)) ⟨by omega, by omega⟩ (h := (c.toInt / 256).toNat) (by omega) (by omega)
  have e : (c.toInt8.toInt32 &&& 255 ||| ((c >>> ((8 : Int32) &&& 31)).toInt8.toInt32 &&& 255) <<< ((8 : Int32) &&& 31)) = c := by
    apply Int32.toInt_inj.mp
    omega
  rw [e]; exact own_c65 h1 h2
abbrev own_EL : List (String × Nat) := consts_1
def own_al (k : Int32) : Prop := (¬ k < 97 ∧ ¬ 122 < k) ∨ (¬ k < 65 ∧ ¬ 90 < k) ∨ (¬ k < 48 ∧ ¬ 57 < k) ∨ k ∈ ([45, 46, 95, 126, 33, 36, 38, 39, 40, 41, 42, 43, 44, 59, 61, 58, 64] : List Int32)
def own_PC (r k : Int32) : Prop := (r = 1 ∧ own_al k) ∨ (r = 0 ∧ ¬ own_al k)
def own_hx (j : Int32) : Int32 := ([48, 49, 50, 51, 52, 53, 54, 55, 56, 57, 65, 66, 67, 68, 69, 70] : List Int32).getD j.toNatClampNeg 0
theorem own_iv {x a b : Int32} (h : ¬ x < a ∧ ¬ b < x) : a.toInt ≤ x.toInt ∧ x.toInt ≤ b.toInt := by
  rw [Int32.lt_iff_toInt_lt, Int32.lt_iff_toInt_lt] at h; omega
theorem own_vi {x a b : Int32} (h1 : a.toInt ≤ x.toInt) (h2 : x.toInt ≤ b.toInt) : ¬ x < a ∧ ¬ b < x := by
  rw [Int32.lt_iff_toInt_lt, Int32.lt_iff_toInt_lt]; omega
theorem own_small {x : Int32} {n : Nat} (h : ¬ x < 0) (h2 : x.toInt < n) (hn : n ≤ 65536) : ∃ k, k < n ∧ x = Int32.ofNat k := by
  rw [Int32.lt_iff_toInt_lt] at h
  have e0 : (0 : Int32).toInt = 0 := rfl
  refine ⟨x.toInt.toNat, by omega, ?_⟩
  apply Int32.toInt_inj.mp
  rw [Int32.toInt_ofNat_of_lt (by omega)]; omega
theorem own_hxB (j : Int32) : ¬ own_hx j < 0 ∧ ¬ (255 : Int32) < own_hx j := by
  unfold own_hx
  generalize j.toNatClampNeg = n
  by_cases h : n < 16
  · revert n; decide +kernel
  · have : ([48, 49, 50, 51, 52, 53, 54, 55, 56, 57, 65, 66, 67, 68, 69, 70] : List Int32).getD n 0 = 0 := by rw [List.getD_eq_getElem?_getD, List.getElem?_eq_none (by show 16 ≤ n; omega)]; rfl
    rw [this]; decide
theorem own_hxD {d : Int32} (h : ¬ d < 0 ∧ ¬ (15 : Int32) < d) : d.toNatClampNeg < 16 ∧ d = Int32.ofNat d.toNatClampNeg ∧ (d < 10 → ((48 : Int32) + d).toUInt32.toUInt16.toUInt32.toInt32 = own_hx d) ∧ (¬ d < 10 → (((65 : Int32) + d) - 10).toUInt32.toUInt16.toUInt32.toInt32 = own_hx d) := by
  have h2 := own_iv h
  have e0 : (0 : Int32).toInt = 0 := rfl
  have e1 : (15 : Int32).toInt = 15 := rfl
  obtain ⟨k, hk, rfl⟩ := own_small (n := 16) h.1 (by omega) (by omega)
  clear h h2
  revert k; decide +kernel
theorem own_by {x : Int32} (h : ¬ x < 0 ∧ ¬ (255 : Int32) < x) : (x.toInt8.toInt32 &&& 255).toUInt32.toUInt16.toUInt32.toInt32 = x := by
  have h2 := own_iv h
  have e0 : (0 : Int32).toInt = 0 := rfl
  have e1 : (255 : Int32).toInt = 255 := rfl
  have e : x.toInt8.toInt32 &&& 255 = x := Int32.toInt_inj.mp (by rw [own_b255]; omega)
  rw [e]; exact own_c65 (by omega) (by omega)
theorem own_k8 {x : Int32} (h : ¬ x < 0 ∧ ¬ (255 : Int32) < x) : x.toInt8.toInt32 &&& 255 = x := by
  have h2 := own_iv h
  have e0 : (0 : Int32).toInt = 0 := rfl
  have e1 : (255 : Int32).toInt = 255 := rfl
  exact Int32.toInt_inj.mp (by rw [own_b255]; omega)
theorem own_d4 {x : Int32} (h : ¬ x < 0 ∧ ¬ (255 : Int32) < x) : (¬ (x >>> ((4 : Int32) &&& 31)) < 0 ∧ ¬ (15 : Int32) < (x >>> ((4 : Int32) &&& 31))) ∧ (¬ (x &&& 15) < 0 ∧ ¬ (15 : Int32) < (x &&& 15)) := by
  have h2 := own_iv h
  have e0 : (0 : Int32).toInt = 0 := rfl
  have e1 : (255 : Int32).toInt = 255 := rfl
  have e2 : (15 : Int32).toInt = 15 := rfl
  have a := c_ishr x 4 4 (by decide)
  have b := c_and x 15 (by decide)
  exact ⟨own_vi (by omega) (by omega), own_vi (by omega) (by omega)⟩
theorem own_PC.one {r k : Int32} (q : own_PC r k) (h : own_al k) : r = 1 := q.elim (fun q => q.1) (fun q => absurd h q.2)
theorem own_PC.zero {r k : Int32} (q : own_PC r k) (h : ¬ own_al k) : r = 0 := q.elim (fun q => absurd q.2 h) (fun q => q.1)
theorem own_al.no {k : Int32} (h : ¬ k < 128) : ¬ own_al k := by
  rw [Int32.lt_iff_toInt_lt] at h
  have e0 : (128 : Int32).toInt = 128 := rfl
  rintro (q | q | q | q)
  · have := own_iv q; have e : (122 : Int32).toInt = 122 := rfl; omega
  · have := own_iv q; have e : (90 : Int32).toInt = 90 := rfl; omega
  · have := own_iv q; have e : (57 : Int32).toInt = 57 := rfl; omega
  · have : ∀ x ∈ ([45, 46, 95, 126, 33, 36, 38, 39, 40, 41, 42, 43, 44, 59, 61, 58, 64] : List Int32), x.toInt < 128 := by decide
    have := this k q; omega
theorem own_k63 (x : Int32) : x.toInt8.toInt32 &&& 63 = x &&& 63 := by
  have e : ∀ y : Int32, (y &&& 63).toInt = y.toInt % 64 := by
    intro y
    have e1 : (y &&& 63).toBitVec.toNat = y.toBitVec.toNat % 64 := by
      show (y.toBitVec &&& (63#32)).toNat = _
      rw [BitVec.toNat_and]; exact Nat.and_two_pow_sub_one_eq_mod _ 6
    have e2 : (y &&& 63).toInt = ((y &&& 63).toBitVec.toNat : Int) := BitVec.toInt_eq_toNat_of_lt (by omega)
    have e3 : y.toInt = y.toBitVec.toInt := rfl
    rw [e2, e1, e3, BitVec.toInt_eq_toNat_cond]; split <;> omega
  apply Int32.toInt_inj.mp
  rw [e, e]
  have := (c_i2b x).1
  omega
theorem own_orB {m y : Int32} {n : Nat} (hy : ¬ y < 0) (h2 : y.toInt < n) (hm : (m = 192 ∧ n = 32) ∨ (m = 224 ∧ n = 16) ∨ (m = 128 ∧ n = 64)) : (¬ (m ||| y) < 0 ∧ ¬ (255 : Int32) < (m ||| y)) ∧ ¬ (m ||| y) < 128 := by
  rcases hm with ⟨rfl, rfl⟩ | ⟨rfl, rfl⟩ | ⟨rfl, rfl⟩ <;> obtain ⟨k, hk, rfl⟩ := own_small hy h2 (by decide) <;> clear hy h2 <;> revert k <;> decide +kernel
theorem own_sh {x : Int32} {q : Int32} {j n : Nat} (hq : q.toBitVec.toNat % 32 = j) (h0 : 0 ≤ x.toInt) (h1 : x.toInt < n * 2 ^ j) : ¬ (x >>> (q &&& 31)) < 0 ∧ (x >>> (q &&& 31)).toInt < n := by
  have a := c_ishr x q j hq
  have hp : (0 : Int) < ((2 ^ j : Nat) : Int) := by exact_mod_cast Nat.two_pow_pos j
  have b1 : 0 ≤ x.toInt / ((2 ^ j : Nat) : Int) := Int.ediv_nonneg h0 (Int.le_of_lt hp)
  have b2 : x.toInt / ((2 ^ j : Nat) : Int) < n := Int.ediv_lt_of_lt_mul hp (by push_cast; exact h1)
  have e0 : (0 : Int32).toInt = 0 := rfl
  refine ⟨?_, by omega⟩
  rw [Int32.lt_iff_toInt_lt]; omega
theorem own_an (x : Int32) : ¬ (x &&& 63) < 0 ∧ (x &&& 63).toInt < 64 := by
  have b := c_and x 63 (by decide)
  have e0 : (0 : Int32).toInt = 0 := rfl
  have e1 : (63 : Int32).toInt = 63 := rfl
  refine ⟨?_, by omega⟩
  rw [Int32.lt_iff_toInt_lt]; omega
theorem own_x2a {k : Int32} (h0 : 0 ≤ k.toInt) (h : k.toInt < 2048) : (¬ ((192 : Int32) ||| (k >>> ((6 : Int32) &&& 31))) < 0 ∧ ¬ (255 : Int32) < ((192 : Int32) ||| (k >>> ((6 : Int32) &&& 31)))) ∧ ¬ ((192 : Int32) ||| (k >>> ((6 : Int32) &&& 31))) < 128 :=
  have a := own_sh (x := k) (q := 6) (j := 6) (n := 32) (by decide) h0 (by omega)
  own_orB a.1 a.2 (Or.inl ⟨rfl, rfl⟩)
theorem own_x3a {k : Int32} (h0 : 0 ≤ k.toInt) (h : k.toInt ≤ 65535) : (¬ ((224 : Int32) ||| (k >>> ((12 : Int32) &&& 31))) < 0 ∧ ¬ (255 : Int32) < ((224 : Int32) ||| (k >>> ((12 : Int32) &&& 31)))) ∧ ¬ ((224 : Int32) ||| (k >>> ((12 : Int32) &&& 31))) < 128 :=
  have a := own_sh (x := k) (q := 12) (j := 12) (n := 16) (by decide) h0 (by omega)
  own_orB a.1 a.2 (Or.inr (Or.inl ⟨rfl, rfl⟩))
theorem own_xb (k : Int32) : (¬ ((128 : Int32) ||| (k &&& 63)) < 0 ∧ ¬ (255 : Int32) < ((128 : Int32) ||| (k &&& 63))) ∧ ¬ ((128 : Int32) ||| (k &&& 63)) < 128 := own_orB (own_an k).1 (own_an k).2 (Or.inr (Or.inr ⟨rfl, rfl⟩))
theorem own_vget {us : List Int32} {i : Nat} (h : i ≤ 4000) (hi : i < us.length) : (us.map Value.int).getD (Int32.ofNat i).toNatClampNeg (.int 0) = .int (us.getD i 0) := by
  rw [(own_ofNat_nn h).2]
  simp [List.getD, List.getElem?_map, List.getElem?_eq_getElem hi]
theorem own_hxV (j : Int32) : (([48, 49, 50, 51, 52, 53, 54, 55, 56, 57, 65, 66, 67, 68, 69, 70] : List Int32).map Value.int).getD j.toNatClampNeg (.int 0) = .int (own_hx j) := by
  unfold own_hx
  simp only [List.getD, List.getElem?_map]
  cases ([48, 49, 50, 51, 52, 53, 54, 55, 56, 57, 65, 66, 67, 68, 69, 70] : List Int32)[j.toNatClampNeg]? <;> rfl
theorem own_hcc (j : Int32) : (own_hx j &&& 255).toUInt32.toUInt16.toUInt32.toInt32 = own_hx j := by
  have h := own_iv (own_hxB j)
  rw [own_and_id h.1 h.2]; exact own_c16 (own_hxB j)
theorem own_j16 {d : Int32} (h : ¬ d < 0 ∧ ¬ (15 : Int32) < d) : ¬ d < 0 ∧ d < (16 : Int32) := by
  have e1 : (15 : Int32).toInt = 15 := rfl
  have e2 : (16 : Int32).toInt = 16 := rfl
  refine ⟨h.1, ?_⟩
  have := h.2
  rw [Int32.lt_iff_toInt_lt] at *; omega
theorem own_c4 (k : Int32) : (k < 128) ∨ (¬ k < 128 ∧ ¬ (255 : Int32) < k) ∨ ((255 : Int32) < k ∧ k < 2048) ∨ ((255 : Int32) < k ∧ ¬ k < 2048) := by
  by_cases h1 : k < 128
  · exact Or.inl h1
  · by_cases h2 : (255 : Int32) < k
    · by_cases h3 : k < 2048
      · exact Or.inr (Or.inr (Or.inl ⟨h2, h3⟩))
      · exact Or.inr (Or.inr (Or.inr ⟨h2, h3⟩))
    · exact Or.inr (Or.inl ⟨h1, h2⟩)
theorem own_b7 {k : Int32} (h : ¬ k < 0) : (k < 128 → ¬ k.toInt8.toInt32 < 0 ∧ ¬ (255 : Int32) < k) ∧ (¬ k < 128 → ¬ (255 : Int32) < k → k.toInt8.toInt32 < 0) ∧ ((255 : Int32) < k → ¬ k < 128) := by
  have c := c_i2b k
  have e0 : (0 : Int32).toInt = 0 := rfl
  have e1 : (128 : Int32).toInt = 128 := rfl
  have e2 : (255 : Int32).toInt = 255 := rfl
  simp only [Int32.lt_iff_toInt_lt] at *
  refine ⟨fun q => ⟨by omega, by omega⟩, fun q r => by omega, fun q => by omega⟩
theorem own_m16 (x : Int32) : ¬ (x &&& 65535) < 0 ∧ ¬ (65535 : Int32) < (x &&& 65535) := by
  have b := c_and x 65535 (by decide)
  have e0 : (0 : Int32).toInt = 0 := rfl
  have e1 : (65535 : Int32).toInt = 65535 := rfl
  exact own_vi (by omega) (by omega)
theorem own_m7 (x : Int32) : ¬ (x &&& 127) < 0 ∧ ¬ (65535 : Int32) < (x &&& 127) := by
  have b := c_and x 127 (by decide)
  have e0 : (0 : Int32).toInt = 0 := rfl
  have e1 : (65535 : Int32).toInt = 65535 := rfl
  have e2 : (127 : Int32).toInt = 127 := rfl
  exact own_vi (by omega) (by omega)
theorem own_57 {k : Int32} (h : (57343 : Int32) < k) : ¬ k < (57344 : Int32) := by
  have e1 : (57343 : Int32).toInt = 57343 := rfl
  have e2 : (57344 : Int32).toInt = 57344 := rfl
  rw [Int32.lt_iff_toInt_lt] at *; omega

theorem own_coder (l : Launch) (Z : State) (a0 : Array Value) (hw : ∀ d ∈ tables_1, d.before a0 Z = true) (G1 : Int32) (G3 : Value) (x : Addr) (y : Int32) (h0 : Heap) (n0 : Nat) (z0 : n0 ≤ h0.size) (X00 : Old Z n0 h0) (pC : Fld Z h0 x "java/lang/String" "coder" "B" (.int y)) (O2 : Sta Z Z.heap "java/lang/String" "COMPACT_STRINGS" "Z" (.int G1)) (O4 : Sta Z Z.heap "jdk/internal/util/Preconditions" "SIOOBE_FORMATTER" "Ljava/util/function/BiFunction;" G3) (P5 : ¬ G1 = (0 : Int32)) (rG3 : G3.isRef = true) (hy : y.toInt8.toInt32 = y) :
    own_Met l Z (⟨"java/lang/String", "coder", "()B"⟩ : MethodName) jdk_42_method_152_code 1 (some .byte) ({ frames := 0, cells := 0, slots := 0, locals := 0 } : Room) n0 #[(.ref x)] h0 (fun v h => v = some (.int y) ∧ h = h0) := by
  refine own_met (by decide +kernel) #[.val (.ref x)] (fun m => by first | (simp [entryFrame, mkF, argsToLocals, Value.category]; done) | rfl) ?_
  intro p e s m below meth c T0 C S0
  refine own_getS C S0 (own_wd hw 6 rfl) Via.refl (O2.ext X00.2) (by decide +kernel) ?_
  intro T1 S2
  refine own_if C S2 (q := .eq) (o := 10) (by decide +kernel) 13 (by decide) (by decide) (fun (hq : G1 = (0 : Int32)) => False.elim (P5 hq)) (fun (q3 : ¬ G1 = (0 : Int32)) => ?_)
  refine own_seg C S2 [(6, .aload_n 0, 1)] (by decide +kernel) 7 #[.val (.ref x)] [(.ref x)] rfl ?_
  refine own_getF C S2 (host := "") (Or.inl (own_wd hw 26 rfl)) Via.refl pC (by decide +kernel) ?_
  intro T4 S5
  refine own_seg C S5 [(10, .goto 4, 3)] (by decide +kernel) 14 #[.val (.ref x)] [(.int y)] rfl ?_
  refine own_retB C S5 (by decide +kernel) hy (by decide) (by decide) ?_
  exact ⟨rfl, rfl⟩
theorem own_pd0 : parseMethodDescriptor "()B" = some ⟨[], (some .byte)⟩ := by decide +kernel
theorem own_len (l : Launch) (Z : State) (a0 : Array Value) (hw : ∀ d ∈ tables_1, d.before a0 Z = true) (G1 : Int32) (G3 : Value) (x : Addr) (t : Addr) (tk : ClassId) (N : Int32) (vs : List Value) (y : Int32) (h0 : Heap) (n0 : Nat) (z0 : n0 ≤ h0.size) (X00 : Old Z n0 h0) (xE : Exa Z h0 x "java/lang/String") (xV : Fld Z h0 x "java/lang/String" "value" "[B" (.ref t)) (xC : Fld Z h0 x "java/lang/String" "coder" "B" (.int y)) (tK : Arv Z h0 t tk .byte N vs (.int 0)) (O2 : Sta Z Z.heap "java/lang/String" "COMPACT_STRINGS" "Z" (.int G1)) (O4 : Sta Z Z.heap "jdk/internal/util/Preconditions" "SIOOBE_FORMATTER" "Ljava/util/function/BiFunction;" G3) (P5 : ¬ G1 = (0 : Int32)) (rG3 : G3.isRef = true) (hy : y.toInt8.toInt32 = y) :
    own_Met l Z (⟨"java/lang/String", "length", "()I"⟩ : MethodName) jdk_42_method_54_code 1 (some .int) ({ frames := 1, cells := 0, slots := 0, locals := 13 } : Room) n0 #[(.ref x)] h0 (fun v h => v = some (.int (N >>> (y &&& 31))) ∧ h = h0) := by
  refine own_met (by decide +kernel) #[.val (.ref x)] (fun m => by first | (simp [entryFrame, mkF, argsToLocals, Value.category]; done) | rfl) ?_
  intro p e s m below meth c T0 C S0
  refine own_seg C S0 [(0, .aload_n 0, 1)] (by decide +kernel) 1 #[.val (.ref x)] [(.ref x)] rfl ?_
  refine own_getF C S0 (host := "") (Or.inl (own_wd hw 24 rfl)) Via.refl xV (by decide +kernel) ?_
  intro T6 S7
  refine own_alen C S7 tK (by decide +kernel) ?_
  refine own_seg C S7 [(5, .aload_n 0, 1)] (by decide +kernel) 6 #[.val (.ref x)] [(.ref x), (.int N)] rfl ?_
  refine own_callV C S7 (own_wd hw 40 rfl) (own_wd hw 41 rfl) (own_wd hw 43 rfl) (own_wd hw 43 rfl) rfl (own_wd hw 42 rfl) (by decide) (own_Met.pay (own_coder l Z a0 hw G1 G3 x _ h0 n0 z0 X00 xC O2 O4 P5 rG3 hy) C 1 (own_wd hw 44 rfl) (own_wd hw 4 rfl) (by decide) (by decide)) (fun _ _ _ q => q.2) xE [] [(.int N)] rfl own_pd0 rfl rfl rfl (Nat.le_of_ble_eq_true rfl) (by decide) (by decide) (by decide +kernel) ?_
  rintro T9 h10 v11 L12 S13 ⟨⟨rfl, e8⟩, -⟩
  rw [e8] at S13; clear e8
  show own_Go p e below _ T9 (mkF m 9 #[.val (.ref x)] [(.int y), (.int N)])
  refine own_seg C S13 [(9, .ishr, 1)] (by decide +kernel) 10 #[.val (.ref x)] [(.int (N >>> (y &&& 31)))] rfl ?_
  refine own_retI C S13 (by decide +kernel) (by decide) (by decide) ?_
  exact ⟨rfl, rfl⟩
theorem own_min (l : Launch) (Z : State) (a0 : Array Value) (hw : ∀ d ∈ tables_1, d.before a0 Z = true) (x1 : Int32) (x2 : Int32) (h0 : Heap) (n0 : Nat) (z0 : n0 ≤ h0.size) :
    own_Met l Z (⟨"java/lang/Math", "min", "(II)I"⟩ : MethodName) jdk_29_method_69_code 2 (some .int) ({ frames := 0, cells := 0, slots := 0, locals := 0 } : Room) n0 #[(.int x1), (.int x2)] h0 (fun v h => v = some (.int (if x2 < x1 then x2 else x1)) ∧ h = h0) := by
  refine own_met (by decide +kernel) #[.val (.int x1), .val (.int x2)] (fun m => by first | (simp [entryFrame, mkF, argsToLocals, Value.category]; done) | rfl) ?_
  intro p e s m below meth c T0 C S0
  refine own_seg C S0 [(0, .iload_n 0, 1), (1, .iload_n 1, 1)] (by decide +kernel) 2 #[.val (.int x1), .val (.int x2)] [(.int x2), (.int x1)] rfl ?_
  refine own_icmp C S0 (q := .gt) (o := 7) (by decide +kernel) 9 (by decide) (by decide) (fun (q14 : x2 < x1) => ?_) (fun (q15 : ¬ x2 < x1) => ?_)
  · refine own_seg C S0 [(9, .iload_n 1, 1)] (by decide +kernel) 10 #[.val (.int x1), .val (.int x2)] [(.int x2)] rfl ?_
    refine own_retI C S0 (by decide +kernel) (by decide) (by decide) ?_
    exact ⟨by rw [if_pos q14], rfl⟩
  · refine own_seg C S0 [(5, .iload_n 0, 1), (6, .goto 4, 3)] (by decide +kernel) 10 #[.val (.int x1), .val (.int x2)] [(.int x1)] rfl ?_
    refine own_retI C S0 (by decide +kernel) (by decide) (by decide) ?_
    exact ⟨by rw [if_neg q15], rfl⟩
theorem own_ce (l : Launch) (Z : State) (a0 : Array Value) (hw : ∀ d ∈ tables_1, d.before a0 Z = true) (k : Int32) (h0 : Heap) (n0 : Nat) (z0 : n0 ≤ h0.size) (k0 : ¬ k < (0 : Int32) ∧ ¬ (255 : Int32) < k) :
    own_Met l Z (⟨"java/lang/StringLatin1", "canEncode", "(I)Z"⟩ : MethodName) jdk_43_method_4_code 1 (some .boolean) ({ frames := 0, cells := 0, slots := 0, locals := 0 } : Room) n0 #[(.int k)] h0 (fun v h => v = some (.int 1) ∧ h = h0) := by
  refine own_met (by decide +kernel) #[.val (.int k)] (fun m => by first | (simp [entryFrame, mkF, argsToLocals, Value.category]; done) | rfl) ?_
  intro p e s m below meth c T0 C S0
  refine own_seg C S0 [(0, .iload_n 0, 1)] (by decide +kernel) 1 #[.val (.int k)] [(.int k)] rfl ?_
  refine own_if C S0 (q := .lt) (o := 14) (by decide +kernel) 15 (by decide) (by decide) (fun (hq : k < (0 : Int32)) => False.elim (k0.1 hq)) (fun (q16 : ¬ k < (0 : Int32)) => ?_)
  refine own_seg C S0 [(4, .iload_n 0, 1), (5, .sipush 255, 3)] (by decide +kernel) 8 #[.val (.int k)] [(.int 255), (.int k)] rfl ?_
  refine own_icmp C S0 (q := .gt) (o := 7) (by decide +kernel) 15 (by decide) (by decide) (fun (hq : (255 : Int32) < k) => False.elim (k0.2 hq)) (fun (q17 : ¬ (255 : Int32) < k) => ?_)
  refine own_seg C S0 [(11, .iconst 1, 1), (12, .goto 4, 3)] (by decide +kernel) 16 #[.val (.int k)] [(.int 1)] rfl ?_
  refine own_retZ C S0 (by decide +kernel) (by decide) (by decide) (by decide) ?_
  exact ⟨rfl, rfl⟩
theorem own_max (l : Launch) (Z : State) (a0 : Array Value) (hw : ∀ d ∈ tables_1, d.before a0 Z = true) (x1 : Int32) (x2 : Int32) (h0 : Heap) (n0 : Nat) (z0 : n0 ≤ h0.size) :
    own_Met l Z (⟨"java/lang/Math", "max", "(II)I"⟩ : MethodName) jdk_29_method_65_code 2 (some .int) ({ frames := 0, cells := 0, slots := 0, locals := 0 } : Room) n0 #[(.int x1), (.int x2)] h0 (fun v h => v = some (.int (if x1 < x2 then x2 else x1)) ∧ h = h0) := by
  refine own_met (by decide +kernel) #[.val (.int x1), .val (.int x2)] (fun m => by first | (simp [entryFrame, mkF, argsToLocals, Value.category]; done) | rfl) ?_
  intro p e s m below meth c T0 C S0
  refine own_seg C S0 [(0, .iload_n 0, 1), (1, .iload_n 1, 1)] (by decide +kernel) 2 #[.val (.int x1), .val (.int x2)] [(.int x2), (.int x1)] rfl ?_
  refine own_icmp C S0 (q := .lt) (o := 7) (by decide +kernel) 9 (by decide) (by decide) (fun (q18 : x1 < x2) => ?_) (fun (q19 : ¬ x1 < x2) => ?_)
  · refine own_seg C S0 [(9, .iload_n 1, 1)] (by decide +kernel) 10 #[.val (.int x1), .val (.int x2)] [(.int x2)] rfl ?_
    refine own_retI C S0 (by decide +kernel) (by decide) (by decide) ?_
    exact ⟨by rw [if_pos q18], rfl⟩
  · refine own_seg C S0 [(5, .iload_n 0, 1), (6, .goto 4, 3)] (by decide +kernel) 10 #[.val (.int x1), .val (.int x2)] [(.int x1)] rfl ?_
    refine own_retI C S0 (by decide +kernel) (by decide) (by decide) ?_
    exact ⟨by rw [if_neg q19], rfl⟩
theorem own_ioc (l : Launch) (Z : State) (a0 : Array Value) (hw : ∀ d ∈ tables_1, d.before a0 Z = true) (t : Addr) (tk : ClassId) (N : Int32) (vs : List Value) (cs : List Int32) (k : Int32) (h0 : Heap) (n0 : Nat) (z0 : n0 ≤ h0.size) (tK : Arv Z h0 t tk .byte N vs (.int 0)) (cd : StrChars.Road.CodA cs 0 N vs) (hp : ∀ c ∈ cs, ¬ c < 0 ∧ ¬ (255 : Int32) < c) (l2 : cs.length ≤ 4000) (k0 : ¬ k < (0 : Int32) ∧ ¬ (255 : Int32) < k) :
    own_Met l Z (⟨"java/lang/StringLatin1", "indexOfChar", "([BIII)I"⟩ : MethodName) jdk_43_method_23_code 6 (some .int) ({ frames := 0, cells := 0, slots := 0, locals := 0 } : Room) n0 #[(.ref t), (.int k), (.int 0), (.int N)] h0 (fun v h => ∃ r : Int32, v = some (.int r) ∧ h = h0 ∧ (own_IO r cs k)) := by
  refine own_met (by decide +kernel) #[.val (.ref t), .val (.int k), .val (.int 0), .val (.int N), .unset, .unset] (fun m => by first | (simp [entryFrame, mkF, argsToLocals, Value.category]; done) | rfl) ?_
  intro p e s m below meth c T0 C S0
  obtain ⟨hN, hvs⟩ := own_cod cd
  refine own_seg C S0 [(0, .iload_n 1, 1), (1, .i2b, 1), (2, .istore 4, 2), (4, .iload_n 2, 1), (5, .istore 5, 2)] (by decide +kernel) 7 #[.val (.ref t), .val (.int k), .val (.int 0), .val (.int N), .val (.int k.toInt8.toInt32), .val (.int 0)] [] rfl ?_
  have loop : ∀ (d : Nat) (T : State) (i : Nat), i + d = cs.length → (∀ c ∈ cs.take i, ¬ c = k) → own_S p l e ({ frames := 0, cells := 0, slots := 0, locals := 0 } : Room) s m #[(.ref t), (.int k), (.int 0), (.int N)] below meth c n0 T h0 0 0 → own_Go p e below (own_En s n0 (fun v h => ∃ r : Int32, v = some (.int r) ∧ h = h0 ∧ (own_IO r cs k)) ({ frames := 0, cells := 0, slots := 0, locals := 0 } : Room).cells ({ frames := 0, cells := 0, slots := 0, locals := 0 } : Room).slots) T (mkF m 7 #[.val (.ref t), .val (.int k), .val (.int 0), .val (.int N), .val (.int k.toInt8.toInt32), .val (.int (Int32.ofNat i))] []) := by
    intro d
    induction d with
    | zero =>
      intro T i hi ha S
      refine own_seg C S [(7, .iload 5, 2), (9, .iload_n 3, 1)] (by decide +kernel) 10 #[.val (.ref t), .val (.int k), .val (.int 0), .val (.int N), .val (.int k.toInt8.toInt32), .val (.int (Int32.ofNat i))] [(.int N), (.int (Int32.ofNat i))] rfl ?_
      refine own_icmp C S (q := .ge) (o := 21) (by decide +kernel) 31 (by decide) (by decide) (fun (q20 : ¬ (Int32.ofNat i) < N) => ?_) (fun (hq : (Int32.ofNat i) < N) => False.elim (by rw [← hN] at hq; have := (own_ofNat_lt (by omega) l2).mp hq; omega))
      refine own_seg C S [(31, .iconst (-1), 1)] (by decide +kernel) 32 #[.val (.ref t), .val (.int k), .val (.int 0), .val (.int N), .val (.int k.toInt8.toInt32), .val (.int (Int32.ofNat i))] [(.int (-1 : Int32))] rfl ?_
      refine own_retI C S (by decide +kernel) (by decide) (by decide) ?_
      exact ⟨_, rfl, rfl, Or.inl ⟨by decide, fun c hc => ha c (by rw [List.take_of_length_le (by omega)]; exact hc)⟩⟩
    | succ d ih =>
      intro T i hi ha S
      have hil : i < cs.length := by omega
      have hlt : Int32.ofNat i < N := by rw [← hN]; exact (own_ofNat_lt (by omega) l2).mpr hil
      refine own_seg C S [(7, .iload 5, 2), (9, .iload_n 3, 1)] (by decide +kernel) 10 #[.val (.ref t), .val (.int k), .val (.int 0), .val (.int N), .val (.int k.toInt8.toInt32), .val (.int (Int32.ofNat i))] [(.int N), (.int (Int32.ofNat i))] rfl ?_
      refine own_icmp C S (q := .ge) (o := 21) (by decide +kernel) 31 (by decide) (by decide) (fun (hq : ¬ (Int32.ofNat i) < N) => False.elim (hq hlt)) (fun (q21 : (Int32.ofNat i) < N) => ?_)
      refine own_seg C S [(13, .aload_n 0, 1), (14, .iload 5, 2)] (by decide +kernel) 16 #[.val (.ref t), .val (.int k), .val (.int 0), .val (.int N), .val (.int k.toInt8.toInt32), .val (.int (Int32.ofNat i))] [(.int (Int32.ofNat i)), (.ref t)] rfl ?_
      refine own_baload C S tK ⟨(own_ofNat_nn (by omega)).1, hlt⟩ (.int ((cs.getD i 0).toInt8.toInt32)) (by rw [hvs]; exact own_getD (by omega) hil) (by decide +kernel) ?_
      refine own_seg C S [(17, .iload 4, 2)] (by decide +kernel) 19 #[.val (.ref t), .val (.int k), .val (.int 0), .val (.int N), .val (.int k.toInt8.toInt32), .val (.int (Int32.ofNat i))] [(.int k.toInt8.toInt32), (.int ((cs.getD i 0).toInt8.toInt32))] rfl ?_
      refine own_icmp C S (q := .ne) (o := 6) (by decide +kernel) 25 (by decide) (by decide) (fun (q22 : ¬ ((cs.getD i 0).toInt8.toInt32) = k.toInt8.toInt32) => ?_) (fun (q23 : ((cs.getD i 0).toInt8.toInt32) = k.toInt8.toInt32) => ?_)
      · refine own_seg C S [(25, .iinc 5 1, 3), (28, .goto (-21), 3)] (by decide +kernel) 7 #[.val (.ref t), .val (.int k), .val (.int 0), .val (.int N), .val (.int k.toInt8.toInt32), .val (.int ((Int32.ofNat i) + (1 : Int32)))] [] rfl ?_
        rw [show ((Int32.ofNat i) + (1 : Int32)) = (Int32.ofNat (i + 1)) from own_ofNat_succ i]
        exact ih T (i + 1) (by omega) (own_take_succ hil ha (fun e => q22 (by rw [e]))) S
      · refine own_seg C S [(22, .iload 5, 2)] (by decide +kernel) 24 #[.val (.ref t), .val (.int k), .val (.int 0), .val (.int N), .val (.int k.toInt8.toInt32), .val (.int (Int32.ofNat i))] [(.int (Int32.ofNat i))] rfl ?_
        refine own_retI C S (by decide +kernel) (by decide) (by decide) ?_
        exact ⟨_, rfl, rfl, Or.inr ⟨(own_ofNat_nn (by omega)).1, (own_b8_inj (hp _ (own_getD_mem hil)) k0 q23) ▸ own_getD_mem hil⟩⟩
  exact loop cs.length T0 0 (Nat.zero_add _) (by simp) S0
theorem own_pd1 : parseMethodDescriptor "(I)Z" = some ⟨[.int], (some .boolean)⟩ := by decide +kernel
theorem own_pd2 : parseMethodDescriptor "(II)I" = some ⟨[.int, .int], (some .int)⟩ := by decide +kernel
theorem own_pd3 : parseMethodDescriptor "([BIII)I" = some ⟨[(.array .byte), .int, .int, .int], (some .int)⟩ := by decide +kernel
theorem own_l1io (l : Launch) (Z : State) (a0 : Array Value) (hw : ∀ d ∈ tables_1, d.before a0 Z = true) (t : Addr) (tk : ClassId) (N : Int32) (vs : List Value) (cs : List Int32) (k : Int32) (h0 : Heap) (n0 : Nat) (z0 : n0 ≤ h0.size) (tK : Arv Z h0 t tk .byte N vs (.int 0)) (cd : StrChars.Road.CodA cs 0 N vs) (hp : ∀ c ∈ cs, ¬ c < 0 ∧ ¬ (255 : Int32) < c) (l2 : cs.length ≤ 4000) (k0 : ¬ k < (0 : Int32) ∧ ¬ (255 : Int32) < k) :
    own_Met l Z (⟨"java/lang/StringLatin1", "indexOf", "([BIII)I"⟩ : MethodName) jdk_43_method_22_code 4 (some .int) ({ frames := 1, cells := 0, slots := 0, locals := 17 } : Room) n0 #[(.ref t), (.int k), (.int 0), (.int N)] h0 (fun v h => ∃ r : Int32, v = some (.int r) ∧ h = h0 ∧ (own_IO r cs k)) := by
  refine own_met (by decide +kernel) #[.val (.ref t), .val (.int k), .val (.int 0), .val (.int N)] (fun m => by first | (simp [entryFrame, mkF, argsToLocals, Value.category]; done) | rfl) ?_
  intro p e s m below meth c T0 C S0
  obtain ⟨hN, hvs⟩ := own_cod cd
  refine own_seg C S0 [(0, .iload_n 1, 1)] (by decide +kernel) 1 #[.val (.ref t), .val (.int k), .val (.int 0), .val (.int N)] [(.int k)] rfl ?_
  refine own_callS C S0 (own_wd hw 116 rfl) (own_wd hw 117 rfl) (own_wd hw 9 rfl) (own_wd hw 118 rfl) (by decide) (own_Met.pay (own_ce l Z a0 hw k h0 n0 z0 k0) C 0 (own_wd hw 118 rfl) (own_wd hw 9 rfl) (by decide) (by decide)) (fun _ _ _ q => q.2) [(.int k)] [] rfl own_pd1 rfl rfl rfl (Nat.le_of_ble_eq_true rfl) (by decide) (by decide) (by decide +kernel) ?_
  rintro T25 h26 v27 L28 S29 ⟨⟨rfl, e24⟩, -⟩
  rw [e24] at S29; clear e24
  show own_Go p e below _ T25 (mkF m 4 #[.val (.ref t), .val (.int k), .val (.int 0), .val (.int N)] [(.int 1)])
  refine own_if C S29 (q := .ne) (o := 5) (by decide +kernel) 9 (by decide) (by decide) (fun (q30 : ¬ (1 : Int32) = (0 : Int32)) => ?_) (fun (hq : (1 : Int32) = (0 : Int32)) => False.elim (absurd hq (by decide)))
  refine own_seg C S29 [(9, .iload_n 2, 1), (10, .iconst 0, 1)] (by decide +kernel) 11 #[.val (.ref t), .val (.int k), .val (.int 0), .val (.int N)] [(.int 0), (.int 0)] rfl ?_
  refine own_callS C S29 (own_wd hw 119 rfl) (own_wd hw 120 rfl) (own_wd hw 121 rfl) (own_wd hw 122 rfl) (by decide) (own_Met.pay (own_max l Z a0 hw (0 : Int32) (0 : Int32) h0 n0 z0) C 0 (own_wd hw 122 rfl) (own_wd hw 121 rfl) (by decide) (by decide)) (fun _ _ _ q => q.2) [(.int 0), (.int 0)] [] rfl own_pd2 rfl rfl rfl (Nat.le_of_ble_eq_true rfl) (by decide) (by decide) (by decide +kernel) ?_
  rintro T32 h33 v34 L35 S36 ⟨⟨rfl, e31⟩, -⟩
  rw [e31] at S36; clear e31
  show own_Go p e below _ T32 (mkF m 14 #[.val (.ref t), .val (.int k), .val (.int 0), .val (.int N)] [(.int (if (0 : Int32) < (0 : Int32) then (0 : Int32) else (0 : Int32)))])
  refine own_seg C S36 [(14, .istore_n 2, 1), (15, .iload_n 3, 1), (16, .aload_n 0, 1)] (by decide +kernel) 17 #[.val (.ref t), .val (.int k), .val (.int (if (0 : Int32) < (0 : Int32) then (0 : Int32) else (0 : Int32))), .val (.int N)] [(.ref t), (.int N)] rfl ?_
  rw [show (if (0 : Int32) < (0 : Int32) then (0 : Int32) else (0 : Int32)) = (0 : Int32) from rfl]
  refine own_alen C S36 tK (by decide +kernel) ?_
  refine own_callS C S36 (own_wd hw 123 rfl) (own_wd hw 124 rfl) (own_wd hw 121 rfl) (own_wd hw 125 rfl) (by decide) (own_Met.pay (own_min l Z a0 hw N N h0 n0 z0) C 0 (own_wd hw 125 rfl) (own_wd hw 121 rfl) (by decide) (by decide)) (fun _ _ _ q => q.2) [(.int N), (.int N)] [] rfl own_pd2 rfl rfl rfl (Nat.le_of_ble_eq_true rfl) (by decide) (by decide) (by decide +kernel) ?_
  rintro T38 h39 v40 L41 S42 ⟨⟨rfl, e37⟩, -⟩
  rw [e37] at S42; clear e37
  show own_Go p e below _ T38 (mkF m 21 #[.val (.ref t), .val (.int k), .val (.int 0), .val (.int N)] [(.int (if N < N then N else N))])
  refine own_seg C S42 [(21, .istore_n 3, 1), (22, .iload_n 2, 1), (23, .iload_n 3, 1)] (by decide +kernel) 24 #[.val (.ref t), .val (.int k), .val (.int 0), .val (.int (if N < N then N else N))] [(.int (if N < N then N else N)), (.int 0)] rfl ?_
  rw [show (if N < N then N else N) = N from (by split <;> rfl)]
  refine own_icmp C S42 (q := .lt) (o := 5) (by decide +kernel) 29 (by decide) (by decide) (fun (q43 : (0 : Int32) < N) => ?_) (fun (q44 : ¬ (0 : Int32) < N) => ?_)
  · refine own_seg C S42 [(29, .aload_n 0, 1), (30, .iload_n 1, 1), (31, .iload_n 2, 1), (32, .iload_n 3, 1)] (by decide +kernel) 33 #[.val (.ref t), .val (.int k), .val (.int 0), .val (.int N)] [(.int N), (.int 0), (.int k), (.ref t)] rfl ?_
    refine own_callS C S42 (own_wd hw 126 rfl) (own_wd hw 127 rfl) (own_wd hw 9 rfl) (own_wd hw 128 rfl) (by decide) (own_Met.pay (own_ioc l Z a0 hw t _ N _ cs k h0 n0 z0 tK cd hp l2 k0) C 0 (own_wd hw 128 rfl) (own_wd hw 9 rfl) (by decide) (by decide)) (fun _ _ _ q => q.2) [(.ref t), (.int k), (.int 0), (.int N)] [] rfl own_pd3 rfl rfl rfl (Nat.le_of_ble_eq_true rfl) (by decide) (by decide) (by decide +kernel) ?_
    rintro T48 h49 v50 L51 S52 ⟨⟨y45, rfl, e46, p47⟩, -⟩
    rw [e46] at S52; clear e46
    show own_Go p e below _ T48 (mkF m 36 #[.val (.ref t), .val (.int k), .val (.int 0), .val (.int N)] [(.int y45)])
    refine own_retI C S52 (by decide +kernel) (by decide) (by decide) ?_
    exact ⟨y45, rfl, rfl, p47⟩
  · refine own_seg C S42 [(27, .iconst (-1), 1)] (by decide +kernel) 28 #[.val (.ref t), .val (.int k), .val (.int 0), .val (.int N)] [(.int (-1 : Int32))] rfl ?_
    refine own_retI C S42 (by decide +kernel) (by decide) (by decide) ?_
    refine ⟨_, rfl, rfl, Or.inl ⟨by decide, fun c hc => ?_⟩⟩
    rw [← hN] at q44
    exact absurd ((own_ofNat_lt (i := 0) (by omega) l2).mpr (List.length_pos_of_mem hc)) q44
theorem own_isL (l : Launch) (Z : State) (a0 : Array Value) (hw : ∀ d ∈ tables_1, d.before a0 Z = true) (G1 : Int32) (G3 : Value) (x : Addr) (h0 : Heap) (n0 : Nat) (z0 : n0 ≤ h0.size) (X00 : Old Z n0 h0) (pC : Fld Z h0 x "java/lang/String" "coder" "B" (.int 0)) (O2 : Sta Z Z.heap "java/lang/String" "COMPACT_STRINGS" "Z" (.int G1)) (O4 : Sta Z Z.heap "jdk/internal/util/Preconditions" "SIOOBE_FORMATTER" "Ljava/util/function/BiFunction;" G3) (P5 : ¬ G1 = (0 : Int32)) (rG3 : G3.isRef = true) :
    own_Met l Z (⟨"java/lang/String", "isLatin1", "()Z"⟩ : MethodName) jdk_42_method_154_code 1 (some .boolean) ({ frames := 0, cells := 0, slots := 0, locals := 0 } : Room) n0 #[(.ref x)] h0 (fun v h => v = some (.int 1) ∧ h = h0) := by
  refine own_met (by decide +kernel) #[.val (.ref x)] (fun m => by first | (simp [entryFrame, mkF, argsToLocals, Value.category]; done) | rfl) ?_
  intro p e s m below meth c T0 C S0
  refine own_getS C S0 (own_wd hw 6 rfl) Via.refl (O2.ext X00.2) (by decide +kernel) ?_
  intro T53 S54
  refine own_if C S54 (q := .eq) (o := 14) (by decide +kernel) 17 (by decide) (by decide) (fun (hq : G1 = (0 : Int32)) => False.elim (P5 hq)) (fun (q55 : ¬ G1 = (0 : Int32)) => ?_)
  refine own_seg C S54 [(6, .aload_n 0, 1)] (by decide +kernel) 7 #[.val (.ref x)] [(.ref x)] rfl ?_
  refine own_getF C S54 (host := "") (Or.inl (own_wd hw 26 rfl)) Via.refl pC (by decide +kernel) ?_
  intro T56 S57
  refine own_if C S57 (q := .ne) (o := 7) (by decide +kernel) 17 (by decide) (by decide) (fun (hq : ¬ 0 = (0 : Int32)) => False.elim (hq rfl)) (fun (q58 : 0 = (0 : Int32)) => ?_)
  refine own_seg C S57 [(13, .iconst 1, 1), (14, .goto 4, 3)] (by decide +kernel) 18 #[.val (.ref x)] [(.int 1)] rfl ?_
  refine own_retZ C S57 (by decide +kernel) (by decide) (by decide) (by decide) ?_
  exact ⟨rfl, rfl⟩
theorem own_pd4 : parseMethodDescriptor "()Z" = some ⟨[], (some .boolean)⟩ := by decide +kernel
theorem own_pd5 : parseMethodDescriptor "()I" = some ⟨[], (some .int)⟩ := by decide +kernel
theorem own_io2 (l : Launch) (Z : State) (a0 : Array Value) (hw : ∀ d ∈ tables_1, d.before a0 Z = true) (G1 : Int32) (G3 : Value) (x : Addr) (xt : Addr) (xk : ClassId) (xN : Int32) (xvs : List Value) (xcs : List Int32) (k : Int32) (h0 : Heap) (n0 : Nat) (z0 : n0 ≤ h0.size) (X00 : Old Z n0 h0) (xE : Exa Z h0 x "java/lang/String") (xV : Fld Z h0 x "java/lang/String" "value" "[B" (.ref xt)) (xC : Fld Z h0 x "java/lang/String" "coder" "B" (.int 0)) (xK : Arv Z h0 xt xk .byte xN xvs (.int 0)) (O2 : Sta Z Z.heap "java/lang/String" "COMPACT_STRINGS" "Z" (.int G1)) (O4 : Sta Z Z.heap "jdk/internal/util/Preconditions" "SIOOBE_FORMATTER" "Ljava/util/function/BiFunction;" G3) (P5 : ¬ G1 = (0 : Int32)) (rG3 : G3.isRef = true) (xcd : StrChars.Road.CodA xcs 0 xN xvs) (xhp : ∀ c ∈ xcs, ¬ c < 0 ∧ ¬ (255 : Int32) < c) (xl2 : xcs.length ≤ 4000) (k0 : ¬ k < (0 : Int32) ∧ ¬ (255 : Int32) < k) :
    own_Met l Z (⟨"java/lang/String", "indexOf", "(II)I"⟩ : MethodName) jdk_42_method_80_code 3 (some .int) ({ frames := 2, cells := 0, slots := 0, locals := 32 } : Room) n0 #[(.ref x), (.int k), (.int 0)] h0 (fun v h => ∃ r : Int32, v = some (.int r) ∧ h = h0 ∧ (own_IO r xcs k)) := by
  refine own_met (by decide +kernel) #[.val (.ref x), .val (.int k), .val (.int 0)] (fun m => by first | (simp [entryFrame, mkF, argsToLocals, Value.category]; done) | rfl) ?_
  intro p e s m below meth c T0 C S0
  refine own_seg C S0 [(0, .aload_n 0, 1)] (by decide +kernel) 1 #[.val (.ref x), .val (.int k), .val (.int 0)] [(.ref x)] rfl ?_
  refine own_callV C S0 (own_wd hw 107 rfl) (own_wd hw 108 rfl) (own_wd hw 110 rfl) (own_wd hw 110 rfl) rfl (own_wd hw 109 rfl) (by decide) (own_Met.pay (own_isL l Z a0 hw G1 G3 x h0 n0 z0 X00 xC O2 O4 P5 rG3) C 0 (own_wd hw 111 rfl) (own_wd hw 4 rfl) (by decide) (by decide)) (fun _ _ _ q => q.2) xE [] [] rfl own_pd4 rfl rfl rfl (Nat.le_of_ble_eq_true rfl) (by decide) (by decide) (by decide +kernel) ?_
  rintro T60 h61 v62 L63 S64 ⟨⟨rfl, e59⟩, -⟩
  rw [e59] at S64; clear e59
  show own_Go p e below _ T60 (mkF m 4 #[.val (.ref x), .val (.int k), .val (.int 0)] [(.int 1)])
  refine own_if C S64 (q := .eq) (o := 19) (by decide +kernel) 23 (by decide) (by decide) (fun (hq : (1 : Int32) = (0 : Int32)) => False.elim (absurd hq (by decide))) (fun (q65 : ¬ (1 : Int32) = (0 : Int32)) => ?_)
  refine own_seg C S64 [(7, .aload_n 0, 1)] (by decide +kernel) 8 #[.val (.ref x), .val (.int k), .val (.int 0)] [(.ref x)] rfl ?_
  refine own_getF C S64 (host := "") (Or.inl (own_wd hw 24 rfl)) Via.refl xV (by decide +kernel) ?_
  intro T66 S67
  refine own_seg C S67 [(11, .iload_n 1, 1), (12, .iload_n 2, 1), (13, .aload_n 0, 1)] (by decide +kernel) 14 #[.val (.ref x), .val (.int k), .val (.int 0)] [(.ref x), (.int 0), (.int k), (.ref xt)] rfl ?_
  refine own_callV C S67 (own_wd hw 112 rfl) (own_wd hw 36 rfl) (own_wd hw 38 rfl) (own_wd hw 38 rfl) rfl (own_wd hw 37 rfl) (by decide) (own_Met.pay (own_len l Z a0 hw G1 G3 x _ _ _ _ _ h0 n0 z0 X00 xE xV xC xK O2 O4 P5 rG3 (by decide)) C 3 (own_wd hw 39 rfl) (own_wd hw 4 rfl) (by decide) (by decide)) (fun _ _ _ q => q.2) xE [] [(.int 0), (.int k), (.ref xt)] rfl own_pd5 rfl rfl rfl (Nat.le_of_ble_eq_true rfl) (by decide) (by decide) (by decide +kernel) ?_
  rintro T69 h70 v71 L72 S73 ⟨⟨rfl, e68⟩, -⟩
  rw [e68] at S73; clear e68
  show own_Go p e below _ T69 (mkF m 17 #[.val (.ref x), .val (.int k), .val (.int 0)] [(.int (xN >>> (0 &&& 31))), (.int 0), (.int k), (.ref xt)])
  rw [show (xN >>> (0 &&& 31)) = xN from own_shr0 _]
  refine own_callS C S73 (own_wd hw 113 rfl) (own_wd hw 114 rfl) (own_wd hw 9 rfl) (own_wd hw 115 rfl) (by decide) (own_Met.pay (own_l1io l Z a0 hw xt _ xN _ xcs k h0 n0 z0 xK xcd xhp xl2 k0) C 0 (own_wd hw 115 rfl) (own_wd hw 9 rfl) (by decide) (by decide)) (fun _ _ _ q => q.2) [(.ref xt), (.int k), (.int 0), (.int xN)] [] rfl own_pd3 rfl rfl rfl (Nat.le_of_ble_eq_true rfl) (by decide) (by decide) (by decide +kernel) ?_
  rintro T77 h78 v79 L80 S81 ⟨⟨y74, rfl, e75, p76⟩, -⟩
  rw [e75] at S81; clear e75
  show own_Go p e below _ T77 (mkF m 20 #[.val (.ref x), .val (.int k), .val (.int 0)] [(.int y74)])
  refine own_seg C S81 [(20, .goto 16, 3)] (by decide +kernel) 36 #[.val (.ref x), .val (.int k), .val (.int 0)] [(.int y74)] rfl ?_
  refine own_retI C S81 (by decide +kernel) (by decide) (by decide) ?_
  exact ⟨y74, rfl, rfl, p76⟩
theorem own_io (l : Launch) (Z : State) (a0 : Array Value) (hw : ∀ d ∈ tables_1, d.before a0 Z = true) (G1 : Int32) (G3 : Value) (x : Addr) (xt : Addr) (xk : ClassId) (xN : Int32) (xvs : List Value) (xcs : List Int32) (k : Int32) (h0 : Heap) (n0 : Nat) (z0 : n0 ≤ h0.size) (X00 : Old Z n0 h0) (xE : Exa Z h0 x "java/lang/String") (xV : Fld Z h0 x "java/lang/String" "value" "[B" (.ref xt)) (xC : Fld Z h0 x "java/lang/String" "coder" "B" (.int 0)) (xK : Arv Z h0 xt xk .byte xN xvs (.int 0)) (O2 : Sta Z Z.heap "java/lang/String" "COMPACT_STRINGS" "Z" (.int G1)) (O4 : Sta Z Z.heap "jdk/internal/util/Preconditions" "SIOOBE_FORMATTER" "Ljava/util/function/BiFunction;" G3) (P5 : ¬ G1 = (0 : Int32)) (rG3 : G3.isRef = true) (xcd : StrChars.Road.CodA xcs 0 xN xvs) (xhp : ∀ c ∈ xcs, ¬ c < 0 ∧ ¬ (255 : Int32) < c) (xl2 : xcs.length ≤ 4000) (k0 : ¬ k < (0 : Int32) ∧ ¬ (255 : Int32) < k) :
    own_Met l Z (⟨"java/lang/String", "indexOf", "(I)I"⟩ : MethodName) jdk_42_method_79_code 2 (some .int) ({ frames := 3, cells := 0, slots := 0, locals := 46 } : Room) n0 #[(.ref x), (.int k)] h0 (fun v h => ∃ r : Int32, v = some (.int r) ∧ h = h0 ∧ (own_IO r xcs k)) := by
  refine own_met (by decide +kernel) #[.val (.ref x), .val (.int k)] (fun m => by first | (simp [entryFrame, mkF, argsToLocals, Value.category]; done) | rfl) ?_
  intro p e s m below meth c T0 C S0
  refine own_seg C S0 [(0, .aload_n 0, 1), (1, .iload_n 1, 1), (2, .iconst 0, 1)] (by decide +kernel) 3 #[.val (.ref x), .val (.int k)] [(.int 0), (.int k), (.ref x)] rfl ?_
  refine own_callV C S0 (own_wd hw 102 rfl) (own_wd hw 103 rfl) (own_wd hw 105 rfl) (own_wd hw 105 rfl) rfl (own_wd hw 104 rfl) (by decide) (own_Met.pay (own_io2 l Z a0 hw G1 G3 x _ _ _ _ xcs k h0 n0 z0 X00 xE xV xC xK O2 O4 P5 rG3 xcd xhp xl2 k0) C 0 (own_wd hw 106 rfl) (own_wd hw 4 rfl) (by decide) (by decide)) (fun _ _ _ q => q.2) xE [(.int k), (.int 0)] [] rfl own_pd2 rfl rfl rfl (Nat.le_of_ble_eq_true rfl) (by decide) (by decide) (by decide +kernel) ?_
  rintro T85 h86 v87 L88 S89 ⟨⟨y82, rfl, e83, p84⟩, -⟩
  rw [e83] at S89; clear e83
  show own_Go p e below _ T85 (mkF m 6 #[.val (.ref x), .val (.int k)] [(.int y82)])
  refine own_retI C S89 (by decide +kernel) (by decide) (by decide) ?_
  exact ⟨y82, rfl, rfl, p84⟩
theorem own_leq (l : Launch) (Z : State) (a0 : Array Value) (hw : ∀ d ∈ tables_1, d.before a0 Z = true) (b : Addr) (bk : ClassId) (b2 : Addr) (bk2 : ClassId) (us : List Int32) (h0 : Heap) (n0 : Nat) (z0 : n0 ≤ h0.size) (bK : Arv Z h0 b bk .byte (Int32.ofNat us.length) (us.map Value.int) (.int 0)) (bK2 : Arv Z h0 b2 bk2 .byte (Int32.ofNat us.length) (us.map Value.int) (.int 0)) (hl : us.length ≤ 4000) :
    own_Met l Z (⟨"java/lang/StringLatin1", "equals", "([B[B)Z"⟩ : MethodName) jdk_43_method_13_code 3 (some .boolean) ({ frames := 0, cells := 0, slots := 0, locals := 0 } : Room) n0 #[(.ref b), (.ref b2)] h0 (fun v h => v = some (.int 1) ∧ h = h0) := by
  refine own_met (by decide +kernel) #[.val (.ref b), .val (.ref b2), .unset] (fun m => by first | (simp [entryFrame, mkF, argsToLocals, Value.category]; done) | rfl) ?_
  intro p e s m below meth c T0 C S0
  refine own_seg C S0 [(0, .aload_n 0, 1)] (by decide +kernel) 1 #[.val (.ref b), .val (.ref b2), .unset] [(.ref b)] rfl ?_
  refine own_alen C S0 bK (by decide +kernel) ?_
  refine own_seg C S0 [(2, .aload_n 1, 1)] (by decide +kernel) 3 #[.val (.ref b), .val (.ref b2), .unset] [(.ref b2), (.int (Int32.ofNat us.length))] rfl ?_
  refine own_alen C S0 bK2 (by decide +kernel) ?_
  refine own_icmp C S0 (q := .ne) (o := 30) (by decide +kernel) 34 (by decide) (by decide) (fun (hq : ¬ (Int32.ofNat us.length) = (Int32.ofNat us.length)) => False.elim (hq rfl)) (fun (q90 : (Int32.ofNat us.length) = (Int32.ofNat us.length)) => ?_)
  refine own_seg C S0 [(7, .iconst 0, 1), (8, .istore_n 2, 1)] (by decide +kernel) 9 #[.val (.ref b), .val (.ref b2), .val (.int 0)] [] rfl ?_
  have loop : ∀ (d : Nat) (T : State) (i : Nat), i + d = us.length → own_S p l e ({ frames := 0, cells := 0, slots := 0, locals := 0 } : Room) s m #[(.ref b), (.ref b2)] below meth c n0 T h0 0 0 → own_Go p e below (own_En s n0 (fun v h => v = some (.int 1) ∧ h = h0) ({ frames := 0, cells := 0, slots := 0, locals := 0 } : Room).cells ({ frames := 0, cells := 0, slots := 0, locals := 0 } : Room).slots) T (mkF m 9 #[.val (.ref b), .val (.ref b2), .val (.int (Int32.ofNat i))] []) := by
    intro d
    induction d with
    | zero =>
      intro T i hi S
      refine own_seg C S [(9, .iload_n 2, 1), (10, .aload_n 0, 1)] (by decide +kernel) 11 #[.val (.ref b), .val (.ref b2), .val (.int (Int32.ofNat i))] [(.ref b), (.int (Int32.ofNat i))] rfl ?_
      refine own_alen C S bK (by decide +kernel) ?_
      refine own_icmp C S (q := .ge) (o := 20) (by decide +kernel) 32 (by decide) (by decide) (fun (q91 : ¬ (Int32.ofNat i) < (Int32.ofNat us.length)) => ?_) (fun (hq : (Int32.ofNat i) < (Int32.ofNat us.length)) => False.elim (by have := (own_ofNat_lt (by omega) hl).mp hq; omega))
      refine own_seg C S [(32, .iconst 1, 1)] (by decide +kernel) 33 #[.val (.ref b), .val (.ref b2), .val (.int (Int32.ofNat i))] [(.int 1)] rfl ?_
      refine own_retZ C S (by decide +kernel) (by decide) (by decide) (by decide) ?_
      exact ⟨rfl, rfl⟩
    | succ d ih =>
      intro T i hi S
      have hil : i < us.length := by omega
      have hlt : Int32.ofNat i < Int32.ofNat us.length := (own_ofNat_lt (by omega) hl).mpr hil
      refine own_seg C S [(9, .iload_n 2, 1), (10, .aload_n 0, 1)] (by decide +kernel) 11 #[.val (.ref b), .val (.ref b2), .val (.int (Int32.ofNat i))] [(.ref b), (.int (Int32.ofNat i))] rfl ?_
      refine own_alen C S bK (by decide +kernel) ?_
      refine own_icmp C S (q := .ge) (o := 20) (by decide +kernel) 32 (by decide) (by decide) (fun (hq : ¬ (Int32.ofNat i) < (Int32.ofNat us.length)) => False.elim (hq hlt)) (fun (q92 : (Int32.ofNat i) < (Int32.ofNat us.length)) => ?_)
      refine own_seg C S [(15, .aload_n 0, 1), (16, .iload_n 2, 1)] (by decide +kernel) 17 #[.val (.ref b), .val (.ref b2), .val (.int (Int32.ofNat i))] [(.int (Int32.ofNat i)), (.ref b)] rfl ?_
      refine own_baload C S bK ⟨(own_ofNat_nn (by omega)).1, hlt⟩ (.int (us.getD i 0)) (own_vget (by omega) hil) (by decide +kernel) ?_
      refine own_seg C S [(18, .aload_n 1, 1), (19, .iload_n 2, 1)] (by decide +kernel) 20 #[.val (.ref b), .val (.ref b2), .val (.int (Int32.ofNat i))] [(.int (Int32.ofNat i)), (.ref b2), (.int (us.getD i 0))] rfl ?_
      refine own_baload C S bK2 ⟨(own_ofNat_nn (by omega)).1, hlt⟩ (.int (us.getD i 0)) (own_vget (by omega) hil) (by decide +kernel) ?_
      refine own_icmp C S (q := .eq) (o := 5) (by decide +kernel) 26 (by decide) (by decide) (fun (q93 : (us.getD i 0) = (us.getD i 0)) => ?_) (fun (hq : ¬ (us.getD i 0) = (us.getD i 0)) => False.elim (hq rfl))
      refine own_seg C S [(26, .iinc 2 1, 3), (29, .goto (-20), 3)] (by decide +kernel) 9 #[.val (.ref b), .val (.ref b2), .val (.int ((Int32.ofNat i) + (1 : Int32)))] [] rfl ?_
      rw [show ((Int32.ofNat i) + (1 : Int32)) = (Int32.ofNat (i + 1)) from own_ofNat_succ i]
      exact ih T (i + 1) (by omega) S
  exact loop us.length T0 0 (Nat.zero_add _) S0
theorem own_pd6 : parseMethodDescriptor "([B[B)Z" = some ⟨[(.array .byte), (.array .byte)], (some .boolean)⟩ := by decide +kernel
theorem own_seq (l : Launch) (Z : State) (a0 : Array Value) (hw : ∀ d ∈ tables_1, d.before a0 Z = true) (G1 : Int32) (G3 : Value) (x : Addr) (y : Addr) (b : Addr) (bk : ClassId) (b2 : Addr) (bk2 : ClassId) (us : List Int32) (h0 : Heap) (n0 : Nat) (z0 : n0 ≤ h0.size) (X00 : Old Z n0 h0) (xE : Exa Z h0 x "java/lang/String") (xV : Fld Z h0 x "java/lang/String" "value" "[B" (.ref b)) (xC : Fld Z h0 x "java/lang/String" "coder" "B" (.int 0)) (yE : Exa Z h0 y "java/lang/String") (yV : Fld Z h0 y "java/lang/String" "value" "[B" (.ref b2)) (yC : Fld Z h0 y "java/lang/String" "coder" "B" (.int 0)) (bK : Arv Z h0 b bk .byte (Int32.ofNat us.length) (us.map Value.int) (.int 0)) (bK2 : Arv Z h0 b2 bk2 .byte (Int32.ofNat us.length) (us.map Value.int) (.int 0)) (O2 : Sta Z Z.heap "java/lang/String" "COMPACT_STRINGS" "Z" (.int G1)) (O4 : Sta Z Z.heap "jdk/internal/util/Preconditions" "SIOOBE_FORMATTER" "Ljava/util/function/BiFunction;" G3) (P5 : ¬ G1 = (0 : Int32)) (rG3 : G3.isRef = true) (hl : us.length ≤ 4000) :
    own_Met l Z (⟨"java/lang/String", "equals", "(Ljava/lang/Object;)Z"⟩ : MethodName) jdk_42_method_66_code 3 (some .boolean) ({ frames := 1, cells := 0, slots := 0, locals := 14 } : Room) n0 #[(.ref x), (.ref y)] h0 (fun v h => v = some (.int 1) ∧ h = h0) := by
  refine own_met (by decide +kernel) #[.val (.ref x), .val (.ref y), .unset] (fun m => by first | (simp [entryFrame, mkF, argsToLocals, Value.category]; done) | rfl) ?_
  intro p e s m below meth c T0 C S0
  refine own_seg C S0 [(0, .aload_n 0, 1), (1, .aload_n 1, 1)] (by decide +kernel) 2 #[.val (.ref x), .val (.ref y), .unset] [(.ref y), (.ref x)] rfl ?_
  refine own_acmp C S0 (q := .ne) (o := 5) rfl rfl (by decide +kernel) 7 (by decide) (by decide) (fun (q94 : ¬ ((.ref x) : Value) = (.ref y)) => ?_) (fun (q95 : ((.ref x) : Value) = (.ref y)) => ?_)
  · refine own_seg C S0 [(7, .aload_n 1, 1)] (by decide +kernel) 8 #[.val (.ref x), .val (.ref y), .unset] [(.ref y)] rfl ?_
    refine own_inst C S0 (own_wd hw 11 rfl) (Ins.self yE) (by decide +kernel) ?_
    intro T96 S97
    refine own_if C S97 (q := .eq) (o := 43) (by decide +kernel) 54 (by decide) (by decide) (fun (hq : (1 : Int32) = (0 : Int32)) => False.elim (absurd hq (by decide))) (fun (q98 : ¬ (1 : Int32) = (0 : Int32)) => ?_)
    refine own_seg C S97 [(14, .aload_n 1, 1)] (by decide +kernel) 15 #[.val (.ref x), .val (.ref y), .unset] [(.ref y)] rfl ?_
    refine own_cast C S97 (own_wd hw 11 rfl) (Ins.self yE) (by decide +kernel) ?_
    intro T99 S100
    refine own_seg C S100 [(18, .astore_n 2, 1)] (by decide +kernel) 19 #[.val (.ref x), .val (.ref y), .val (.ref y)] [] rfl ?_
    refine own_getS C S100 (own_wd hw 6 rfl) Via.refl (O2.ext X00.2) (by decide +kernel) ?_
    intro T101 S102
    refine own_if C S102 (q := .eq) (o := 14) (by decide +kernel) 36 (by decide) (by decide) (fun (hq : G1 = (0 : Int32)) => False.elim (P5 hq)) (fun (q103 : ¬ G1 = (0 : Int32)) => ?_)
    refine own_seg C S102 [(25, .aload_n 0, 1)] (by decide +kernel) 26 #[.val (.ref x), .val (.ref y), .val (.ref y)] [(.ref x)] rfl ?_
    refine own_getF C S102 (host := "") (Or.inl (own_wd hw 26 rfl)) Via.refl xC (by decide +kernel) ?_
    intro T104 S105
    refine own_seg C S105 [(29, .aload_n 2, 1)] (by decide +kernel) 30 #[.val (.ref x), .val (.ref y), .val (.ref y)] [(.ref y), (.int 0)] rfl ?_
    refine own_getF C S105 (host := "") (Or.inl (own_wd hw 26 rfl)) Via.refl yC (by decide +kernel) ?_
    intro T106 S107
    refine own_icmp C S107 (q := .ne) (o := 21) (by decide +kernel) 54 (by decide) (by decide) (fun (hq : ¬ 0 = 0) => False.elim (hq rfl)) (fun (q108 : 0 = 0) => ?_)
    refine own_seg C S107 [(36, .aload_n 0, 1)] (by decide +kernel) 37 #[.val (.ref x), .val (.ref y), .val (.ref y)] [(.ref x)] rfl ?_
    refine own_getF C S107 (host := "") (Or.inl (own_wd hw 24 rfl)) Via.refl xV (by decide +kernel) ?_
    intro T109 S110
    refine own_seg C S110 [(40, .aload_n 2, 1)] (by decide +kernel) 41 #[.val (.ref x), .val (.ref y), .val (.ref y)] [(.ref y), (.ref b)] rfl ?_
    refine own_getF C S110 (host := "") (Or.inl (own_wd hw 24 rfl)) Via.refl yV (by decide +kernel) ?_
    intro T111 S112
    refine own_callS C S112 (own_wd hw 255 rfl) (own_wd hw 256 rfl) (own_wd hw 9 rfl) (own_wd hw 257 rfl) (by decide) (own_Met.pay (own_leq l Z a0 hw b _ b2 _ us h0 n0 z0 bK bK2 hl) C 0 (own_wd hw 257 rfl) (own_wd hw 9 rfl) (by decide) (by decide)) (fun _ _ _ q => q.2) [(.ref b), (.ref b2)] [] rfl own_pd6 rfl rfl rfl (Nat.le_of_ble_eq_true rfl) (by decide) (by decide) (by decide +kernel) ?_
    rintro T114 h115 v116 L117 S118 ⟨⟨rfl, e113⟩, -⟩
    rw [e113] at S118; clear e113
    show own_Go p e below _ T114 (mkF m 47 #[.val (.ref x), .val (.ref y), .val (.ref y)] [(.int 1)])
    refine own_if C S118 (q := .eq) (o := 7) (by decide +kernel) 54 (by decide) (by decide) (fun (hq : (1 : Int32) = (0 : Int32)) => False.elim (absurd hq (by decide))) (fun (q119 : ¬ (1 : Int32) = (0 : Int32)) => ?_)
    refine own_seg C S118 [(50, .iconst 1, 1), (51, .goto 4, 3)] (by decide +kernel) 55 #[.val (.ref x), .val (.ref y), .val (.ref y)] [(.int 1)] rfl ?_
    refine own_retZ C S118 (by decide +kernel) (by decide) (by decide) (by decide) ?_
    exact ⟨rfl, rfl⟩
  · refine own_seg C S0 [(5, .iconst 1, 1)] (by decide +kernel) 6 #[.val (.ref x), .val (.ref y), .unset] [(.int 1)] rfl ?_
    refine own_retZ C S0 (by decide +kernel) (by decide) (by decide) (by decide) ?_
    exact ⟨rfl, rfl⟩
theorem own_pciN (l : Launch) (Z : State) (a0 : Array Value) (hw : ∀ d ∈ tables_1, d.before a0 Z = true) (j : Int32) (n : Int32) (h0 : Heap) (n0 : Nat) (z0 : n0 ≤ h0.size) (hi : ¬ j < 0 ∧ j < n) :
    own_Met l Z (⟨"jdk/internal/util/Preconditions", "checkIndex", "(IILjava/util/function/BiFunction;)I"⟩ : MethodName) jdk_41_method_11_code 3 (some .int) ({ frames := 0, cells := 0, slots := 0, locals := 0 } : Room) n0 #[(.int j), (.int n), .null] h0 (fun v h => v = some (.int j) ∧ h = h0) := by
  refine own_met (by decide +kernel) #[.val (.int j), .val (.int n), .val .null] (fun m => by first | (simp [entryFrame, mkF, argsToLocals, Value.category]; done) | rfl) ?_
  intro p e s m below meth c T0 C S0
  refine own_seg C S0 [(0, .iload_n 0, 1)] (by decide +kernel) 1 #[.val (.int j), .val (.int n), .val .null] [(.int j)] rfl ?_
  refine own_if C S0 (q := .lt) (o := 8) (by decide +kernel) 9 (by decide) (by decide) (fun (hq : j < (0 : Int32)) => False.elim (hi.1 hq)) (fun (q120 : ¬ j < (0 : Int32)) => ?_)
  refine own_seg C S0 [(4, .iload_n 0, 1), (5, .iload_n 1, 1)] (by decide +kernel) 6 #[.val (.int j), .val (.int n), .val .null] [(.int n), (.int j)] rfl ?_
  refine own_icmp C S0 (q := .lt) (o := 10) (by decide +kernel) 16 (by decide) (by decide) (fun (q121 : j < n) => ?_) (fun (hq : ¬ j < n) => False.elim (hq hi.2))
  refine own_seg C S0 [(16, .iload_n 0, 1)] (by decide +kernel) 17 #[.val (.int j), .val (.int n), .val .null] [(.int j)] rfl ?_
  refine own_retI C S0 (by decide +kernel) (by decide) (by decide) ?_
  exact ⟨rfl, rfl⟩
theorem own_pciR (l : Launch) (Z : State) (a0 : Array Value) (hw : ∀ d ∈ tables_1, d.before a0 Z = true) (j : Int32) (n : Int32) (g : Addr) (h0 : Heap) (n0 : Nat) (z0 : n0 ≤ h0.size) (hi : ¬ j < 0 ∧ j < n) :
    own_Met l Z (⟨"jdk/internal/util/Preconditions", "checkIndex", "(IILjava/util/function/BiFunction;)I"⟩ : MethodName) jdk_41_method_11_code 3 (some .int) ({ frames := 0, cells := 0, slots := 0, locals := 0 } : Room) n0 #[(.int j), (.int n), (.ref g)] h0 (fun v h => v = some (.int j) ∧ h = h0) := by
  refine own_met (by decide +kernel) #[.val (.int j), .val (.int n), .val (.ref g)] (fun m => by first | (simp [entryFrame, mkF, argsToLocals, Value.category]; done) | rfl) ?_
  intro p e s m below meth c T0 C S0
  refine own_seg C S0 [(0, .iload_n 0, 1)] (by decide +kernel) 1 #[.val (.int j), .val (.int n), .val (.ref g)] [(.int j)] rfl ?_
  refine own_if C S0 (q := .lt) (o := 8) (by decide +kernel) 9 (by decide) (by decide) (fun (hq : j < (0 : Int32)) => False.elim (hi.1 hq)) (fun (q122 : ¬ j < (0 : Int32)) => ?_)
  refine own_seg C S0 [(4, .iload_n 0, 1), (5, .iload_n 1, 1)] (by decide +kernel) 6 #[.val (.int j), .val (.int n), .val (.ref g)] [(.int n), (.int j)] rfl ?_
  refine own_icmp C S0 (q := .lt) (o := 10) (by decide +kernel) 16 (by decide) (by decide) (fun (q123 : j < n) => ?_) (fun (hq : ¬ j < n) => False.elim (hq hi.2))
  refine own_seg C S0 [(16, .iload_n 0, 1)] (by decide +kernel) 17 #[.val (.int j), .val (.int n), .val (.ref g)] [(.int j)] rfl ?_
  refine own_retI C S0 (by decide +kernel) (by decide) (by decide) ?_
  exact ⟨rfl, rfl⟩
theorem own_pd7 : parseMethodDescriptor "(IILjava/util/function/BiFunction;)I" = some ⟨[.int, .int, (.object "java/util/function/BiFunction")], (some .int)⟩ := by decide +kernel
theorem own_sci (l : Launch) (Z : State) (a0 : Array Value) (hw : ∀ d ∈ tables_1, d.before a0 Z = true) (G1 : Int32) (G3 : Value) (j : Int32) (n : Int32) (h0 : Heap) (n0 : Nat) (z0 : n0 ≤ h0.size) (X00 : Old Z n0 h0) (O2 : Sta Z Z.heap "java/lang/String" "COMPACT_STRINGS" "Z" (.int G1)) (O4 : Sta Z Z.heap "jdk/internal/util/Preconditions" "SIOOBE_FORMATTER" "Ljava/util/function/BiFunction;" G3) (P5 : ¬ G1 = (0 : Int32)) (rG3 : G3.isRef = true) (hi : ¬ j < 0 ∧ j < n) :
    own_Met l Z (⟨"java/lang/String", "checkIndex", "(II)V"⟩ : MethodName) jdk_42_method_155_code 2 none ({ frames := 1, cells := 0, slots := 0, locals := 14 } : Room) n0 #[(.int j), (.int n)] h0 (fun v h => v = none ∧ h = h0) := by
  refine own_met (by decide +kernel) #[.val (.int j), .val (.int n)] (fun m => by first | (simp [entryFrame, mkF, argsToLocals, Value.category]; done) | rfl) ?_
  intro p e s m below meth c T0 C S0
  refine own_seg C S0 [(0, .iload_n 0, 1), (1, .iload_n 1, 1)] (by decide +kernel) 2 #[.val (.int j), .val (.int n)] [(.int n), (.int j)] rfl ?_
  rcases ref_cases rG3 with e3 | ⟨g, e3⟩
  · subst e3
    refine own_getS C S0 (own_wd hw 164 rfl) Via.refl (O4.ext X00.2) (by decide +kernel) ?_
    intro T124 S125
    refine own_callS C S125 (own_wd hw 166 rfl) (own_wd hw 167 rfl) (own_wd hw 165 rfl) (own_wd hw 168 rfl) (by decide) (own_Met.pay (own_pciN l Z a0 hw j n h0 n0 z0 hi) C 0 (own_wd hw 168 rfl) (own_wd hw 165 rfl) (by decide) (by decide)) (fun _ _ _ q => q.2) [(.int j), (.int n), .null] [] rfl own_pd7 rfl rfl rfl (Nat.le_of_ble_eq_true rfl) (by decide) (by decide) (by decide +kernel) ?_
    rintro T127 h128 v129 L130 S131 ⟨⟨rfl, e126⟩, -⟩
    rw [e126] at S131; clear e126
    show own_Go p e below _ T127 (mkF m 8 #[.val (.int j), .val (.int n)] [(.int j)])
    refine own_seg C S131 [(8, .pop, 1)] (by decide +kernel) 9 #[.val (.int j), .val (.int n)] [] rfl ?_
    refine own_retV C S131 (by decide +kernel) (by decide) (by decide) ?_
    exact ⟨rfl, rfl⟩
  · subst e3
    refine own_getS C S0 (own_wd hw 164 rfl) Via.refl (O4.ext X00.2) (by decide +kernel) ?_
    intro T132 S133
    refine own_callS C S133 (own_wd hw 166 rfl) (own_wd hw 167 rfl) (own_wd hw 165 rfl) (own_wd hw 168 rfl) (by decide) (own_Met.pay (own_pciR l Z a0 hw j n g h0 n0 z0 hi) C 0 (own_wd hw 168 rfl) (own_wd hw 165 rfl) (by decide) (by decide)) (fun _ _ _ q => q.2) [(.int j), (.int n), (.ref g)] [] rfl own_pd7 rfl rfl rfl (Nat.le_of_ble_eq_true rfl) (by decide) (by decide) (by decide +kernel) ?_
    rintro T135 h136 v137 L138 S139 ⟨⟨rfl, e134⟩, -⟩
    rw [e134] at S139; clear e134
    show own_Go p e below _ T135 (mkF m 8 #[.val (.int j), .val (.int n)] [(.int j)])
    refine own_seg C S139 [(8, .pop, 1)] (by decide +kernel) 9 #[.val (.int j), .val (.int n)] [] rfl ?_
    refine own_retV C S139 (by decide +kernel) (by decide) (by decide) ?_
    exact ⟨rfl, rfl⟩
theorem own_pd8 : parseMethodDescriptor "(II)V" = some ⟨[.int, .int], none⟩ := by decide +kernel
theorem own_lch (l : Launch) (Z : State) (a0 : Array Value) (hw : ∀ d ∈ tables_1, d.before a0 Z = true) (G1 : Int32) (G3 : Value) (t : Addr) (tk : ClassId) (N : Int32) (vs : List Value) (j : Int32) (bv : Int32) (cc : Int32) (h0 : Heap) (n0 : Nat) (z0 : n0 ≤ h0.size) (X00 : Old Z n0 h0) (tK : Arv Z h0 t tk .byte N vs (.int 0)) (O2 : Sta Z Z.heap "java/lang/String" "COMPACT_STRINGS" "Z" (.int G1)) (O4 : Sta Z Z.heap "jdk/internal/util/Preconditions" "SIOOBE_FORMATTER" "Ljava/util/function/BiFunction;" G3) (P5 : ¬ G1 = (0 : Int32)) (rG3 : G3.isRef = true) (hi : ¬ j < 0 ∧ j < N) (hv : vs.getD j.toNatClampNeg (.int 0) = .int bv) (hcc : (bv &&& (255 : Int32)).toUInt32.toUInt16.toUInt32.toInt32 = cc) (hcz : cc.toUInt32.toUInt16.toUInt32.toInt32 = cc) :
    own_Met l Z (⟨"java/lang/StringLatin1", "charAt", "([BI)C"⟩ : MethodName) jdk_43_method_2_code 2 (some .char) ({ frames := 2, cells := 0, slots := 0, locals := 27 } : Room) n0 #[(.ref t), (.int j)] h0 (fun v h => v = some (.int cc) ∧ h = h0) := by
  refine own_met (by decide +kernel) #[.val (.ref t), .val (.int j)] (fun m => by first | (simp [entryFrame, mkF, argsToLocals, Value.category]; done) | rfl) ?_
  intro p e s m below meth c T0 C S0
  refine own_seg C S0 [(0, .iload_n 1, 1), (1, .aload_n 0, 1)] (by decide +kernel) 2 #[.val (.ref t), .val (.int j)] [(.ref t), (.int j)] rfl ?_
  refine own_alen C S0 tK (by decide +kernel) ?_
  refine own_callS C S0 (own_wd hw 161 rfl) (own_wd hw 162 rfl) (own_wd hw 4 rfl) (own_wd hw 163 rfl) (by decide) (own_Met.pay (own_sci l Z a0 hw G1 G3 j N h0 n0 z0 X00 O2 O4 P5 rG3 hi) C 0 (own_wd hw 163 rfl) (own_wd hw 4 rfl) (by decide) (by decide)) (fun _ _ _ q => q.2) [(.int j), (.int N)] [] rfl own_pd8 rfl rfl rfl (Nat.le_of_ble_eq_true rfl) (by decide) (by decide) (by decide +kernel) ?_
  rintro T141 h142 v143 L144 S145 ⟨⟨rfl, e140⟩, -⟩
  rw [e140] at S145; clear e140
  show own_Go p e below _ T141 (mkF m 6 #[.val (.ref t), .val (.int j)] [])
  refine own_seg C S145 [(6, .aload_n 0, 1), (7, .iload_n 1, 1)] (by decide +kernel) 8 #[.val (.ref t), .val (.int j)] [(.int j), (.ref t)] rfl ?_
  refine own_baload C S145 tK hi (.int bv) hv (by decide +kernel) ?_
  refine own_seg C S145 [(9, .sipush 255, 3), (12, .iand, 1), (13, .i2c, 1)] (by decide +kernel) 14 #[.val (.ref t), .val (.int j)] [(.int ((bv &&& (255 : Int32)).toUInt32.toUInt16.toUInt32.toInt32))] rfl ?_
  rw [show (bv &&& (255 : Int32)).toUInt32.toUInt16.toUInt32.toInt32 = cc from hcc]
  refine own_retC C S145 (by decide +kernel) hcz (by decide) (by decide) ?_
  exact ⟨rfl, rfl⟩
theorem own_pd9 : parseMethodDescriptor "([BI)C" = some ⟨[(.array .byte), .int], (some .char)⟩ := by decide +kernel
theorem own_sch (l : Launch) (Z : State) (a0 : Array Value) (hw : ∀ d ∈ tables_1, d.before a0 Z = true) (G1 : Int32) (G3 : Value) (x : Addr) (t : Addr) (tk : ClassId) (N : Int32) (vs : List Value) (j : Int32) (bv : Int32) (cc : Int32) (h0 : Heap) (n0 : Nat) (z0 : n0 ≤ h0.size) (X00 : Old Z n0 h0) (xE : Exa Z h0 x "java/lang/String") (xV : Fld Z h0 x "java/lang/String" "value" "[B" (.ref t)) (xC : Fld Z h0 x "java/lang/String" "coder" "B" (.int 0)) (tK : Arv Z h0 t tk .byte N vs (.int 0)) (O2 : Sta Z Z.heap "java/lang/String" "COMPACT_STRINGS" "Z" (.int G1)) (O4 : Sta Z Z.heap "jdk/internal/util/Preconditions" "SIOOBE_FORMATTER" "Ljava/util/function/BiFunction;" G3) (P5 : ¬ G1 = (0 : Int32)) (rG3 : G3.isRef = true) (hi : ¬ j < 0 ∧ j < N) (hv : vs.getD j.toNatClampNeg (.int 0) = .int bv) (hcc : (bv &&& (255 : Int32)).toUInt32.toUInt16.toUInt32.toInt32 = cc) (hcz : cc.toUInt32.toUInt16.toUInt32.toInt32 = cc) :
    own_Met l Z (⟨"java/lang/String", "charAt", "(I)C"⟩ : MethodName) jdk_42_method_56_code 2 (some .char) ({ frames := 3, cells := 0, slots := 0, locals := 40 } : Room) n0 #[(.ref x), (.int j)] h0 (fun v h => v = some (.int cc) ∧ h = h0) := by
  refine own_met (by decide +kernel) #[.val (.ref x), .val (.int j)] (fun m => by first | (simp [entryFrame, mkF, argsToLocals, Value.category]; done) | rfl) ?_
  intro p e s m below meth c T0 C S0
  refine own_seg C S0 [(0, .aload_n 0, 1)] (by decide +kernel) 1 #[.val (.ref x), .val (.int j)] [(.ref x)] rfl ?_
  refine own_callV C S0 (own_wd hw 107 rfl) (own_wd hw 108 rfl) (own_wd hw 110 rfl) (own_wd hw 110 rfl) rfl (own_wd hw 109 rfl) (by decide) (own_Met.pay (own_isL l Z a0 hw G1 G3 x h0 n0 z0 X00 xC O2 O4 P5 rG3) C 0 (own_wd hw 111 rfl) (own_wd hw 4 rfl) (by decide) (by decide)) (fun _ _ _ q => q.2) xE [] [] rfl own_pd4 rfl rfl rfl (Nat.le_of_ble_eq_true rfl) (by decide) (by decide) (by decide +kernel) ?_
  rintro T147 h148 v149 L150 S151 ⟨⟨rfl, e146⟩, -⟩
  rw [e146] at S151; clear e146
  show own_Go p e below _ T147 (mkF m 4 #[.val (.ref x), .val (.int j)] [(.int 1)])
  refine own_if C S151 (q := .eq) (o := 12) (by decide +kernel) 16 (by decide) (by decide) (fun (hq : (1 : Int32) = (0 : Int32)) => False.elim (absurd hq (by decide))) (fun (q152 : ¬ (1 : Int32) = (0 : Int32)) => ?_)
  refine own_seg C S151 [(7, .aload_n 0, 1)] (by decide +kernel) 8 #[.val (.ref x), .val (.int j)] [(.ref x)] rfl ?_
  refine own_getF C S151 (host := "") (Or.inl (own_wd hw 24 rfl)) Via.refl xV (by decide +kernel) ?_
  intro T153 S154
  refine own_seg C S154 [(11, .iload_n 1, 1)] (by decide +kernel) 12 #[.val (.ref x), .val (.int j)] [(.int j), (.ref t)] rfl ?_
  refine own_callS C S154 (own_wd hw 158 rfl) (own_wd hw 159 rfl) (own_wd hw 9 rfl) (own_wd hw 160 rfl) (by decide) (own_Met.pay (own_lch l Z a0 hw G1 G3 t _ _ _ j bv cc h0 n0 z0 X00 tK O2 O4 P5 rG3 hi hv hcc hcz) C 0 (own_wd hw 160 rfl) (own_wd hw 9 rfl) (by decide) (by decide)) (fun _ _ _ q => q.2) [(.ref t), (.int j)] [] rfl own_pd9 rfl rfl rfl (Nat.le_of_ble_eq_true rfl) (by decide) (by decide) (by decide +kernel) ?_
  rintro T156 h157 v158 L159 S160 ⟨⟨rfl, e155⟩, -⟩
  rw [e155] at S160; clear e155
  show own_Go p e below _ T156 (mkF m 15 #[.val (.ref x), .val (.int j)] [(.int cc)])
  refine own_retC C S160 (by decide +kernel) hcz (by decide) (by decide) ?_
  exact ⟨rfl, rfl⟩
theorem own_emp (l : Launch) (Z : State) (a0 : Array Value) (hw : ∀ d ∈ tables_1, d.before a0 Z = true) (x : Addr) (t : Addr) (tk : ClassId) (vs : List Value) (h0 : Heap) (n0 : Nat) (z0 : n0 ≤ h0.size) (xE : Exa Z h0 x "java/lang/String") (xV : Fld Z h0 x "java/lang/String" "value" "[B" (.ref t)) (tK : Arv Z h0 t tk .byte (0 : Int32) vs (.int 0)) :
    own_Met l Z (⟨"java/lang/String", "isEmpty", "()Z"⟩ : MethodName) jdk_42_method_55_code 1 (some .boolean) ({ frames := 0, cells := 0, slots := 0, locals := 0 } : Room) n0 #[(.ref x)] h0 (fun v h => v = some (.int 1) ∧ h = h0) := by
  refine own_met (by decide +kernel) #[.val (.ref x)] (fun m => by first | (simp [entryFrame, mkF, argsToLocals, Value.category]; done) | rfl) ?_
  intro p e s m below meth c T0 C S0
  refine own_seg C S0 [(0, .aload_n 0, 1)] (by decide +kernel) 1 #[.val (.ref x)] [(.ref x)] rfl ?_
  refine own_getF C S0 (host := "") (Or.inl (own_wd hw 24 rfl)) Via.refl xV (by decide +kernel) ?_
  intro T161 S162
  refine own_alen C S162 tK (by decide +kernel) ?_
  refine own_if C S162 (q := .ne) (o := 7) (by decide +kernel) 12 (by decide) (by decide) (fun (hq : ¬ (0 : Int32) = (0 : Int32)) => False.elim (hq rfl)) (fun (q163 : (0 : Int32) = (0 : Int32)) => ?_)
  refine own_seg C S162 [(8, .iconst 1, 1), (9, .goto 4, 3)] (by decide +kernel) 13 #[.val (.ref x)] [(.int 1)] rfl ?_
  refine own_retZ C S162 (by decide +kernel) (by decide) (by decide) (by decide) ?_
  exact ⟨rfl, rfl⟩
theorem own_cec (l : Launch) (Z : State) (a0 : Array Value) (hw : ∀ d ∈ tables_1, d.before a0 Z = true) (k : Int32) (h0 : Heap) (n0 : Nat) (z0 : n0 ≤ h0.size) (k0 : ¬ (255 : Int32) < k) :
    own_Met l Z (⟨"java/lang/StringLatin1", "canEncode", "(C)Z"⟩ : MethodName) jdk_43_method_3_code 1 (some .boolean) ({ frames := 0, cells := 0, slots := 0, locals := 0 } : Room) n0 #[(.int k)] h0 (fun v h => v = some (.int 1) ∧ h = h0) := by
  refine own_met (by decide +kernel) #[.val (.int k)] (fun m => by first | (simp [entryFrame, mkF, argsToLocals, Value.category]; done) | rfl) ?_
  intro p e s m below meth c T0 C S0
  refine own_seg C S0 [(0, .iload_n 0, 1), (1, .sipush 255, 3)] (by decide +kernel) 4 #[.val (.int k)] [(.int 255), (.int k)] rfl ?_
  refine own_icmp C S0 (q := .gt) (o := 7) (by decide +kernel) 11 (by decide) (by decide) (fun (hq : (255 : Int32) < k) => False.elim (k0 hq)) (fun (q164 : ¬ (255 : Int32) < k) => ?_)
  refine own_seg C S0 [(7, .iconst 1, 1), (8, .goto 4, 3)] (by decide +kernel) 12 #[.val (.int k)] [(.int 1)] rfl ?_
  refine own_retZ C S0 (by decide +kernel) (by decide) (by decide) (by decide) ?_
  exact ⟨rfl, rfl⟩
theorem own_ceU (l : Launch) (Z : State) (a0 : Array Value) (hw : ∀ d ∈ tables_1, d.before a0 Z = true) (k : Int32) (h0 : Heap) (n0 : Nat) (z0 : n0 ≤ h0.size) (k0 : (255 : Int32) < k) :
    own_Met l Z (⟨"java/lang/StringLatin1", "canEncode", "(C)Z"⟩ : MethodName) jdk_43_method_3_code 1 (some .boolean) ({ frames := 0, cells := 0, slots := 0, locals := 0 } : Room) n0 #[(.int k)] h0 (fun v h => v = some (.int 0) ∧ h = h0) := by
  refine own_met (by decide +kernel) #[.val (.int k)] (fun m => by first | (simp [entryFrame, mkF, argsToLocals, Value.category]; done) | rfl) ?_
  intro p e s m below meth c T0 C S0
  refine own_seg C S0 [(0, .iload_n 0, 1), (1, .sipush 255, 3)] (by decide +kernel) 4 #[.val (.int k)] [(.int 255), (.int k)] rfl ?_
  refine own_icmp C S0 (q := .gt) (o := 7) (by decide +kernel) 11 (by decide) (by decide) (fun (q165 : (255 : Int32) < k) => ?_) (fun (hq : ¬ (255 : Int32) < k) => False.elim (hq k0))
  refine own_seg C S0 [(11, .iconst 0, 1)] (by decide +kernel) 12 #[.val (.int k)] [(.int 0)] rfl ?_
  refine own_retZ C S0 (by decide +kernel) (by decide) (by decide) (by decide) ?_
  exact ⟨rfl, rfl⟩
theorem own_fd0 : parseFieldDescriptor "[B" = some (.array .byte) := by decide +kernel
theorem own_fd1 : parseFieldDescriptor "B" = some .byte := by decide +kernel
theorem own_sn0 {Z : State} {a0 : Array Value} (hw : ∀ d ∈ tables_1, d.before a0 Z = true) : Jvm.RoadKit.slotOf Z "java/lang/String" "coder" "B" ≠ Jvm.RoadKit.slotOf Z "java/lang/String" "value" "[B" := slot_ne (Or.inr (own_wd hw 27 rfl)) (Or.inr (own_wd hw 25 rfl)) (by decide) own_fd1 own_fd0
theorem own_sn1 {Z : State} {a0 : Array Value} (hw : ∀ d ∈ tables_1, d.before a0 Z = true) : Jvm.RoadKit.slotOf Z "java/lang/String" "value" "[B" ≠ Jvm.RoadKit.slotOf Z "java/lang/String" "coder" "B" := slot_ne (Or.inr (own_wd hw 25 rfl)) (Or.inr (own_wd hw 27 rfl)) (by decide) own_fd0 own_fd1
theorem own_si0 (l : Launch) (Z : State) (a0 : Array Value) (hw : ∀ d ∈ tables_1, d.before a0 Z = true) (x : Addr) (b : Addr) (h0 : Heap) (n0 : Nat) (z0 : n0 ≤ h0.size) (ge_x : n0 ≤ x) (xE : Exa Z h0 x "java/lang/String") (xV : Fld Z h0 x "java/lang/String" "value" "[B" .null) (xC : Fld Z h0 x "java/lang/String" "coder" "B" (.int 0)) :
    own_Met l Z (⟨"java/lang/String", "<init>", "([BB)V"⟩ : MethodName) jdk_42_method_151_code 3 none ({ frames := 1, cells := 0, slots := 0, locals := 12 } : Room) n0 #[(.ref x), (.ref b), (.int 0)] h0 (fun v h => v = none ∧ Keep h0 h [x] ∧ Exa Z h x "java/lang/String" ∧ Fld Z h x "java/lang/String" "value" "[B" (.ref b) ∧ Fld Z h x "java/lang/String" "coder" "B" (.int 0)) := by
  refine own_met (by decide +kernel) #[.val (.ref x), .val (.ref b), .val (.int 0)] (fun m => by first | (simp [entryFrame, mkF, argsToLocals, Value.category]; done) | rfl) ?_
  intro p e s m below meth c T0 C S0
  refine own_seg C S0 [(0, .aload_n 0, 1)] (by decide +kernel) 1 #[.val (.ref x), .val (.ref b), .val (.int 0)] [(.ref x)] rfl ?_
  refine own_initO C S0 (own_wd hw 21 rfl) (own_wd hw 22 rfl) (own_wd hw 23 rfl) rfl (by decide +kernel) (by decide) 0 (Nat.le_of_ble_eq_true rfl) (by decide) ?_
  intro T166 S167
  refine own_seg C S167 [(4, .aload_n 0, 1), (5, .aload_n 1, 1)] (by decide +kernel) 6 #[.val (.ref x), .val (.ref b), .val (.int 0)] [(.ref b), (.ref x)] rfl ?_
  refine own_putF C S167 (ty := (.array .byte)) (host := "") (Or.inl (own_wd hw 24 rfl)) Via.refl xV xE (Or.inr ⟨(own_wd hw 25 rfl), rfl, rfl⟩) (own_wd hw 12 rfl) own_fd0 rfl rfl ge_x (by decide +kernel) ?_
  intro T168 h170 S169 W171
  have f172 : Fld Z h170 x "java/lang/String" "value" "[B" (.ref b) := Fld.same W171 xV
  refine own_seg C S169 [(9, .aload_n 0, 1), (10, .iload_n 2, 1)] (by decide +kernel) 11 #[.val (.ref x), .val (.ref b), .val (.int 0)] [(.int 0), (.ref x)] rfl ?_
  have f173 := (Fld.other W171 xC (Or.inr (own_sn0 hw)))
  have f174 := (Exa.wr W171 xE)
  refine own_putF C S169 (ty := .byte) (host := "") (Or.inl (own_wd hw 26 rfl)) Via.refl f173 f174 (Or.inr ⟨(own_wd hw 27 rfl), rfl, rfl⟩) (own_wd hw 12 rfl) own_fd1 rfl rfl ge_x (by decide +kernel) ?_
  intro T175 h177 S176 W178
  have f179 : Fld Z h177 x "java/lang/String" "coder" "B" (.int 0) := Fld.same W178 f173
  refine own_retV C S176 (by decide +kernel) (by decide) (by decide) ?_
  have f180 := (Exa.wr W178 f174)
  have f181 := (Fld.other W178 f172 (Or.inr (own_sn1 hw)))
  exact ⟨rfl, (((Keep.refl _ _).wr W171 (Or.inl (List.mem_of_getElem? (i := 0) rfl))).wr W178 (Or.inl (List.mem_of_getElem? (i := 0) rfl))), f180, f181, f179⟩
theorem own_si1 (l : Launch) (Z : State) (a0 : Array Value) (hw : ∀ d ∈ tables_1, d.before a0 Z = true) (x : Addr) (b : Addr) (h0 : Heap) (n0 : Nat) (z0 : n0 ≤ h0.size) (ge_x : n0 ≤ x) (xE : Exa Z h0 x "java/lang/String") (xV : Fld Z h0 x "java/lang/String" "value" "[B" .null) (xC : Fld Z h0 x "java/lang/String" "coder" "B" (.int 0)) :
    own_Met l Z (⟨"java/lang/String", "<init>", "([BB)V"⟩ : MethodName) jdk_42_method_151_code 3 none ({ frames := 1, cells := 0, slots := 0, locals := 12 } : Room) n0 #[(.ref x), (.ref b), (.int 1)] h0 (fun v h => v = none ∧ Keep h0 h [x] ∧ Exa Z h x "java/lang/String" ∧ Fld Z h x "java/lang/String" "value" "[B" (.ref b) ∧ Fld Z h x "java/lang/String" "coder" "B" (.int 1)) := by
  refine own_met (by decide +kernel) #[.val (.ref x), .val (.ref b), .val (.int 1)] (fun m => by first | (simp [entryFrame, mkF, argsToLocals, Value.category]; done) | rfl) ?_
  intro p e s m below meth c T0 C S0
  refine own_seg C S0 [(0, .aload_n 0, 1)] (by decide +kernel) 1 #[.val (.ref x), .val (.ref b), .val (.int 1)] [(.ref x)] rfl ?_
  refine own_initO C S0 (own_wd hw 21 rfl) (own_wd hw 22 rfl) (own_wd hw 23 rfl) rfl (by decide +kernel) (by decide) 0 (Nat.le_of_ble_eq_true rfl) (by decide) ?_
  intro T182 S183
  refine own_seg C S183 [(4, .aload_n 0, 1), (5, .aload_n 1, 1)] (by decide +kernel) 6 #[.val (.ref x), .val (.ref b), .val (.int 1)] [(.ref b), (.ref x)] rfl ?_
  refine own_putF C S183 (ty := (.array .byte)) (host := "") (Or.inl (own_wd hw 24 rfl)) Via.refl xV xE (Or.inr ⟨(own_wd hw 25 rfl), rfl, rfl⟩) (own_wd hw 12 rfl) own_fd0 rfl rfl ge_x (by decide +kernel) ?_
  intro T184 h186 S185 W187
  have f188 : Fld Z h186 x "java/lang/String" "value" "[B" (.ref b) := Fld.same W187 xV
  refine own_seg C S185 [(9, .aload_n 0, 1), (10, .iload_n 2, 1)] (by decide +kernel) 11 #[.val (.ref x), .val (.ref b), .val (.int 1)] [(.int 1), (.ref x)] rfl ?_
  have f189 := (Fld.other W187 xC (Or.inr (own_sn0 hw)))
  have f190 := (Exa.wr W187 xE)
  refine own_putF C S185 (ty := .byte) (host := "") (Or.inl (own_wd hw 26 rfl)) Via.refl f189 f190 (Or.inr ⟨(own_wd hw 27 rfl), rfl, rfl⟩) (own_wd hw 12 rfl) own_fd1 rfl rfl ge_x (by decide +kernel) ?_
  intro T191 h193 S192 W194
  have f195 : Fld Z h193 x "java/lang/String" "coder" "B" (.int 1) := Fld.same W194 f189
  refine own_retV C S192 (by decide +kernel) (by decide) (by decide) ?_
  have f196 := (Exa.wr W194 f190)
  have f197 := (Fld.other W194 f188 (Or.inr (own_sn1 hw)))
  exact ⟨rfl, (((Keep.refl _ _).wr W187 (Or.inl (List.mem_of_getElem? (i := 0) rfl))).wr W194 (Or.inl (List.mem_of_getElem? (i := 0) rfl))), f196, f197, f195⟩
theorem own_tb (l : Launch) (Z : State) (a0 : Array Value) (hw : ∀ d ∈ tables_1, d.before a0 Z = true) (k : Int32) (h0 : Heap) (n0 : Nat) (z0 : n0 ≤ h0.size) :
    own_Met l Z (⟨"java/lang/StringLatin1", "toBytes", "(C)[B"⟩ : MethodName) jdk_43_method_46_code 1 (some (.array .byte)) ({ frames := 0, cells := 1, slots := 1, locals := 0 } : Room) n0 #[(.int k)] h0 (fun v h => ∃ r : Addr, ∃ rk : ClassId, v = some (.ref r) ∧ h0.size ≤ r ∧ Keep h0 h [] ∧ Arv Z h r rk .byte (1 : Int32) ([(.int k.toInt8.toInt32)]) (.int 0) ∧ Exa Z h r "[B") := by
  refine own_met (by decide +kernel) #[.val (.int k)] (fun m => by first | (simp [entryFrame, mkF, argsToLocals, Value.category]; done) | rfl) ?_
  intro p e s m below meth c T0 C S0
  refine own_seg C S0 [(0, .iconst 1, 1)] (by decide +kernel) 1 #[.val (.int k)] [(.int 1)] rfl ?_
  refine own_newPE C S0 (aty := .byte) (ad := "[B") (by decide) (own_wd hw 16 rfl) (by decide +kernel) (by decide) 1 (by decide) (by decide) (by decide) (by decide) ?_
  intro T198 h200 a201 k202 S199 g203 E204 f205 x206
  have f207 : Arv Z h200 a201 k202 .byte (1 : Int32) ([(.int 0)]) (.int 0) := Arv.pad f205 (pad_rep [] (.int 0) 1)
  refine own_seg C S199 [(3, .dup, 1), (4, .iconst 0, 1), (5, .iload_n 0, 1), (6, .i2b, 1)] (by decide +kernel) 7 #[.val (.int k)] [(.int k.toInt8.toInt32), (.int 0), (.ref a201), (.ref a201)] rfl ?_
  have g208 : n0 ≤ a201 := by rw [g203]; exact z0
  refine own_bastore C S199 f207 ⟨(by decide), (by decide)⟩ 0 rfl (Nat.le_of_ble_eq_true rfl) k.toInt8.toInt32 (own_i2b2 _) g208 (by decide +kernel) ?_
  intro T209 h211 S210 W212 f213
  have f214 : Arv Z h211 a201 k202 .byte (1 : Int32) ([(.int k.toInt8.toInt32)]) (.int 0) := f213
  refine own_retA C S210 rfl rfl (by decide +kernel) (by decide) (by decide) ?_
  have o215 : h0.size ≤ a201 := by rw [g203]; exact (Nat.le_refl _)
  have f216 := (Exa.wr W212 x206)
  exact ⟨a201, k202, rfl, o215, (((Keep.refl _ _).ext E204).wr W212 (Or.inr o215)), f214, f216⟩
theorem own_putc (l : Launch) (Z : State) (a0 : Array Value) (hw : ∀ d ∈ tables_1, d.before a0 Z = true) (G1 : Int32) (G3 : Value) (U8 : Addr) (b : Addr) (bk : ClassId) (k : Int32) (h0 : Heap) (n0 : Nat) (z0 : n0 ≤ h0.size) (ge_b : n0 ≤ b) (X00 : Old Z n0 h0) (bK : Arv Z h0 b bk .byte (2 : Int32) ([(.int 0), (.int 0)]) (.int 0)) (O2 : Sta Z Z.heap "java/lang/String" "COMPACT_STRINGS" "Z" (.int G1)) (O4 : Sta Z Z.heap "jdk/internal/util/Preconditions" "SIOOBE_FORMATTER" "Ljava/util/function/BiFunction;" G3) (P5 : ¬ G1 = (0 : Int32)) (rG3 : G3.isRef = true) (OU1 : Sta Z Z.heap "java/nio/charset/StandardCharsets" "UTF_8" "Ljava/nio/charset/Charset;" (.ref U8)) (OU2 : Sta Z Z.heap "sun/nio/cs/UTF_8" "INSTANCE" "Lsun/nio/cs/UTF_8;" (.ref U8)) (OA : Sta Z Z.heap "java/lang/StringUTF16" "$assertionsDisabled" "Z" (.int 1)) (OH : Sta Z Z.heap "java/lang/StringUTF16" "HI_BYTE_SHIFT" "I" (.int 0)) (OL : Sta Z Z.heap "java/lang/StringUTF16" "LO_BYTE_SHIFT" "I" (.int 8)) :
    own_Met l Z (⟨"java/lang/StringUTF16", "putChar", "([BII)V"⟩ : MethodName) jdk_52_method_4_code 3 none ({ frames := 0, cells := 0, slots := 0, locals := 0 } : Room) n0 #[(.ref b), (.int 0), (.int k)] h0 (fun v h => v = none ∧ Keep h0 h [b] ∧ Arv Z h b bk .byte (2 : Int32) ([(.int ((k >>> ((0 : Int32) &&& 31)).toInt8.toInt32)), (.int ((k >>> ((8 : Int32) &&& 31)).toInt8.toInt32))]) (.int 0)) := by
  refine own_met (by decide +kernel) #[.val (.ref b), .val (.int 0), .val (.int k)] (fun m => by first | (simp [entryFrame, mkF, argsToLocals, Value.category]; done) | rfl) ?_
  intro p e s m below meth c T0 C S0
  refine own_getS C S0 (own_wd hw 272 rfl) Via.refl (OA.ext X00.2) (by decide +kernel) ?_
  intro T217 S218
  refine own_if C S218 (q := .ne) (o := 25) (by decide +kernel) 28 (by decide) (by decide) (fun (q219 : ¬ (1 : Int32) = (0 : Int32)) => ?_) (fun (hq : (1 : Int32) = (0 : Int32)) => False.elim (absurd hq (by decide)))
  refine own_seg C S218 [(28, .iload_n 1, 1), (29, .iconst 1, 1), (30, .ishl, 1), (31, .istore_n 1, 1), (32, .aload_n 0, 1), (33, .iload_n 1, 1), (34, .iinc 1 1, 3), (37, .iload_n 2, 1)] (by decide +kernel) 38 #[.val (.ref b), .val (.int (((0 : Int32) <<< ((1 : Int32) &&& 31)) + (1 : Int32))), .val (.int k)] [(.int k), (.int ((0 : Int32) <<< ((1 : Int32) &&& 31))), (.ref b)] rfl ?_
  refine own_getS C S218 (own_wd hw 273 rfl) Via.refl (OH.ext X00.2) (by decide +kernel) ?_
  intro T220 S221
  show own_Go p e below _ T220 (mkF m 41 #[.val (.ref b), .val (.int 1), .val (.int k)] [(.int 0), (.int k), (.int 0), (.ref b)])
  refine own_seg C S221 [(41, .ishr, 1), (42, .i2b, 1)] (by decide +kernel) 43 #[.val (.ref b), .val (.int 1), .val (.int k)] [(.int ((k >>> ((0 : Int32) &&& 31)).toInt8.toInt32)), (.int 0), (.ref b)] rfl ?_
  refine own_bastore C S221 bK ⟨(by decide), (by decide)⟩ 0 rfl (Nat.le_of_ble_eq_true rfl) ((k >>> ((0 : Int32) &&& 31)).toInt8.toInt32) (own_i2b2 _) ge_b (by decide +kernel) ?_
  intro T222 h224 S223 W225 f226
  have f227 : Arv Z h224 b bk .byte (2 : Int32) ([(.int ((k >>> ((0 : Int32) &&& 31)).toInt8.toInt32)), (.int 0)]) (.int 0) := f226
  refine own_seg C S223 [(44, .aload_n 0, 1), (45, .iload_n 1, 1), (46, .iload_n 2, 1)] (by decide +kernel) 47 #[.val (.ref b), .val (.int 1), .val (.int k)] [(.int k), (.int 1), (.ref b)] rfl ?_
  have f228 := (X00.wr W225 ge_b)
  refine own_getS C S223 (own_wd hw 274 rfl) Via.refl (OL.ext f228.2) (by decide +kernel) ?_
  intro T229 S230
  refine own_seg C S230 [(50, .ishr, 1), (51, .i2b, 1)] (by decide +kernel) 52 #[.val (.ref b), .val (.int 1), .val (.int k)] [(.int ((k >>> ((8 : Int32) &&& 31)).toInt8.toInt32)), (.int 1), (.ref b)] rfl ?_
  refine own_bastore C S230 f227 ⟨(by decide), (by decide)⟩ 1 rfl (Nat.le_of_ble_eq_true rfl) ((k >>> ((8 : Int32) &&& 31)).toInt8.toInt32) (own_i2b2 _) ge_b (by decide +kernel) ?_
  intro T231 h233 S232 W234 f235
  have f236 : Arv Z h233 b bk .byte (2 : Int32) ([(.int ((k >>> ((0 : Int32) &&& 31)).toInt8.toInt32)), (.int ((k >>> ((8 : Int32) &&& 31)).toInt8.toInt32))]) (.int 0) := f235
  refine own_retV C S232 (by decide +kernel) (by decide) (by decide) ?_
  exact ⟨rfl, (((Keep.refl _ _).wr W225 (Or.inl (List.mem_of_getElem? (i := 0) rfl))).wr W234 (Or.inl (List.mem_of_getElem? (i := 0) rfl))), f236⟩
theorem own_pd10 : parseMethodDescriptor "([BII)V" = some ⟨[(.array .byte), .int, .int], none⟩ := by decide +kernel
theorem own_tbU (l : Launch) (Z : State) (a0 : Array Value) (hw : ∀ d ∈ tables_1, d.before a0 Z = true) (G1 : Int32) (G3 : Value) (U8 : Addr) (k : Int32) (h0 : Heap) (n0 : Nat) (z0 : n0 ≤ h0.size) (X00 : Old Z n0 h0) (O2 : Sta Z Z.heap "java/lang/String" "COMPACT_STRINGS" "Z" (.int G1)) (O4 : Sta Z Z.heap "jdk/internal/util/Preconditions" "SIOOBE_FORMATTER" "Ljava/util/function/BiFunction;" G3) (P5 : ¬ G1 = (0 : Int32)) (rG3 : G3.isRef = true) (OU1 : Sta Z Z.heap "java/nio/charset/StandardCharsets" "UTF_8" "Ljava/nio/charset/Charset;" (.ref U8)) (OU2 : Sta Z Z.heap "sun/nio/cs/UTF_8" "INSTANCE" "Lsun/nio/cs/UTF_8;" (.ref U8)) (OA : Sta Z Z.heap "java/lang/StringUTF16" "$assertionsDisabled" "Z" (.int 1)) (OH : Sta Z Z.heap "java/lang/StringUTF16" "HI_BYTE_SHIFT" "I" (.int 0)) (OL : Sta Z Z.heap "java/lang/StringUTF16" "LO_BYTE_SHIFT" "I" (.int 8)) :
    own_Met l Z (⟨"java/lang/StringUTF16", "toBytes", "(C)[B"⟩ : MethodName) jdk_52_method_24_code 2 (some (.array .byte)) ({ frames := 1, cells := 1, slots := 2, locals := 14 } : Room) n0 #[(.int k)] h0 (fun v h => ∃ r : Addr, ∃ rk : ClassId, v = some (.ref r) ∧ h0.size ≤ r ∧ Keep h0 h [] ∧ Arv Z h r rk .byte (2 : Int32) ([(.int ((k >>> ((0 : Int32) &&& 31)).toInt8.toInt32)), (.int ((k >>> ((8 : Int32) &&& 31)).toInt8.toInt32))]) (.int 0) ∧ Exa Z h r "[B") := by
  refine own_met (by decide +kernel) #[.val (.int k), .unset] (fun m => by first | (simp [entryFrame, mkF, argsToLocals, Value.category]; done) | rfl) ?_
  intro p e s m below meth c T0 C S0
  refine own_seg C S0 [(0, .iconst 2, 1)] (by decide +kernel) 1 #[.val (.int k), .unset] [(.int 2)] rfl ?_
  refine own_newPE C S0 (aty := .byte) (ad := "[B") (by decide) (own_wd hw 16 rfl) (by decide +kernel) (by decide) 2 (by decide) (by decide) (by decide) (by decide) ?_
  intro T237 h239 a240 k241 S238 g242 E243 f244 x245
  have f246 : Arv Z h239 a240 k241 .byte (2 : Int32) ([(.int 0), (.int 0)]) (.int 0) := Arv.pad f244 (pad_rep [] (.int 0) 2)
  refine own_seg C S238 [(3, .astore_n 1, 1), (4, .aload_n 1, 1), (5, .iconst 0, 1), (6, .iload_n 0, 1)] (by decide +kernel) 7 #[.val (.int k), .val (.ref a240)] [(.int k), (.int 0), (.ref a240)] rfl ?_
  have f247 := (X00.ext E243)
  have f248 : n0 ≤ h239.size := (Nat.le_trans z0 E243.1)
  have g249 : n0 ≤ a240 := by rw [g242]; exact z0
  refine own_callS C S238 (own_wd hw 269 rfl) (own_wd hw 270 rfl) (own_wd hw 242 rfl) (own_wd hw 271 rfl) (by decide) (own_Met.pay (own_putc l Z a0 hw G1 G3 U8 a240 _ k h239 n0 f248 g249 f247 f246 O2 O4 P5 rG3 OU1 OU2 OA OH OL) C 0 (own_wd hw 271 rfl) (own_wd hw 242 rfl) (by decide) (by decide)) (fun _ _ _ q => q.2) [(.ref a240), (.int 0), (.int k)] [] rfl own_pd10 rfl rfl rfl (Nat.le_of_ble_eq_true rfl) (by decide) (by decide) (by decide +kernel) ?_
  rintro T252 h253 v254 L255 S256 ⟨⟨rfl, K250, f251⟩, -⟩
  show own_Go p e below _ T252 (mkF m 10 #[.val (.int k), .val (.ref a240)] [])
  refine own_seg C S256 [(10, .aload_n 1, 1)] (by decide +kernel) 11 #[.val (.int k), .val (.ref a240)] [(.ref a240)] rfl ?_
  refine own_retA C S256 rfl rfl (by decide +kernel) (by decide) (by decide) ?_
  have o257 : h0.size ≤ a240 := by rw [g242]; exact (Nat.le_refl _)
  have f258 := (x245.keep K250)
  exact ⟨a240, k241, rfl, o257, (((Keep.refl _ _).ext E243).trans K250 (allS (Or.inr o257) all0)), f251, f258⟩
theorem own_pd11 : parseMethodDescriptor "(C)Z" = some ⟨[.char], (some .boolean)⟩ := by decide +kernel
theorem own_pd12 : parseMethodDescriptor "(C)[B" = some ⟨[.char], (some (.array .byte))⟩ := by decide +kernel
theorem own_pd13 : parseMethodDescriptor "([BB)V" = some ⟨[(.array .byte), .byte], none⟩ := by decide +kernel
theorem own_voL (l : Launch) (Z : State) (a0 : Array Value) (hw : ∀ d ∈ tables_1, d.before a0 Z = true) (G1 : Int32) (G3 : Value) (U8 : Addr) (k : Int32) (h0 : Heap) (n0 : Nat) (z0 : n0 ≤ h0.size) (X00 : Old Z n0 h0) (O2 : Sta Z Z.heap "java/lang/String" "COMPACT_STRINGS" "Z" (.int G1)) (O4 : Sta Z Z.heap "jdk/internal/util/Preconditions" "SIOOBE_FORMATTER" "Ljava/util/function/BiFunction;" G3) (P5 : ¬ G1 = (0 : Int32)) (rG3 : G3.isRef = true) (OU1 : Sta Z Z.heap "java/nio/charset/StandardCharsets" "UTF_8" "Ljava/nio/charset/Charset;" (.ref U8)) (OU2 : Sta Z Z.heap "sun/nio/cs/UTF_8" "INSTANCE" "Lsun/nio/cs/UTF_8;" (.ref U8)) (OA : Sta Z Z.heap "java/lang/StringUTF16" "$assertionsDisabled" "Z" (.int 1)) (OH : Sta Z Z.heap "java/lang/StringUTF16" "HI_BYTE_SHIFT" "I" (.int 0)) (OL : Sta Z Z.heap "java/lang/StringUTF16" "LO_BYTE_SHIFT" "I" (.int 8)) (k0 : ¬ (255 : Int32) < k) :
    own_Met l Z (⟨"java/lang/String", "valueOf", "(C)Ljava/lang/String;"⟩ : MethodName) jdk_42_method_139_code 1 (some (.object "java/lang/String")) ({ frames := 2, cells := 2, slots := 5, locals := 27 } : Room) n0 #[(.int k)] h0 (fun v h => ∃ x : Addr, ∃ r : Addr, ∃ rk : ClassId, v = some (.ref x) ∧ h0.size ≤ x ∧ h0.size ≤ r ∧ Keep h0 h [] ∧ Exa Z h x "java/lang/String" ∧ Fld Z h x "java/lang/String" "value" "[B" (.ref r) ∧ Fld Z h x "java/lang/String" "coder" "B" (.int 0) ∧ Arv Z h r rk .byte (1 : Int32) ([(.int k.toInt8.toInt32)]) (.int 0) ∧ Exa Z h r "[B") := by
  refine own_met (by decide +kernel) #[.val (.int k)] (fun m => by first | (simp [entryFrame, mkF, argsToLocals, Value.category]; done) | rfl) ?_
  intro p e s m below meth c T0 C S0
  refine own_getS C S0 (own_wd hw 6 rfl) Via.refl (O2.ext X00.2) (by decide +kernel) ?_
  intro T259 S260
  refine own_if C S260 (q := .eq) (o := 23) (by decide +kernel) 26 (by decide) (by decide) (fun (hq : G1 = (0 : Int32)) => False.elim (P5 hq)) (fun (q261 : ¬ G1 = (0 : Int32)) => ?_)
  refine own_seg C S260 [(6, .iload_n 0, 1)] (by decide +kernel) 7 #[.val (.int k)] [(.int k)] rfl ?_
  refine own_callS C S260 (own_wd hw 7 rfl) (own_wd hw 8 rfl) (own_wd hw 9 rfl) (own_wd hw 10 rfl) (by decide) (own_Met.pay (own_cec l Z a0 hw k h0 n0 z0 k0) C 0 (own_wd hw 10 rfl) (own_wd hw 9 rfl) (by decide) (by decide)) (fun _ _ _ q => q.2) [(.int k)] [] rfl own_pd11 rfl rfl rfl (Nat.le_of_ble_eq_true rfl) (by decide) (by decide) (by decide +kernel) ?_
  rintro T263 h264 v265 L266 S267 ⟨⟨rfl, e262⟩, -⟩
  rw [e262] at S267; clear e262
  show own_Go p e below _ T263 (mkF m 10 #[.val (.int k)] [(.int 1)])
  refine own_if C S267 (q := .eq) (o := 16) (by decide +kernel) 26 (by decide) (by decide) (fun (hq : (1 : Int32) = (0 : Int32)) => False.elim (absurd hq (by decide))) (fun (q268 : ¬ (1 : Int32) = (0 : Int32)) => ?_)
  refine own_new C S267 (own_wd hw 11 rfl) (own_wd hw 12 rfl) (own_wd hw 4 rfl) (by decide +kernel) (by decide) (by decide) ?_
  intro T269 h271 a272 S270 g273 E274 x275 D276
  have f277 : Fld Z h271 a272 "java/lang/String" "value" "[B" .null := D276 (ty := (.array .byte)) (Or.inr (own_wd hw 25 rfl)) own_fd0
  have f278 : Fld Z h271 a272 "java/lang/String" "coder" "B" (.int 0) := D276 (ty := .byte) (Or.inr (own_wd hw 27 rfl)) own_fd1
  refine own_seg C S270 [(16, .dup, 1), (17, .iload_n 0, 1)] (by decide +kernel) 18 #[.val (.int k)] [(.int k), (.ref a272), (.ref a272)] rfl ?_
  have f279 : n0 ≤ h271.size := (Nat.le_trans z0 E274.1)
  refine own_callS C S270 (own_wd hw 13 rfl) (own_wd hw 14 rfl) (own_wd hw 9 rfl) (own_wd hw 15 rfl) (by decide) (own_Met.pay (own_tb l Z a0 hw k h271 n0 f279) C 2 (own_wd hw 15 rfl) (own_wd hw 9 rfl) (by decide) (by decide)) (fun _ _ _ q => q.2) [(.int k)] [(.ref a272), (.ref a272)] rfl own_pd12 rfl rfl rfl (Nat.le_of_ble_eq_true rfl) (by decide) (by decide) (by decide +kernel) ?_
  rintro T286 h287 v288 L289 S290 ⟨⟨a280, k281, rfl, g282, K283, f284, f285⟩, -⟩
  show own_Go p e below _ T286 (mkF m 21 #[.val (.int k)] [(.ref a280), (.ref a272), (.ref a272)])
  refine own_seg C S290 [(21, .iconst 0, 1)] (by decide +kernel) 22 #[.val (.int k)] [(.int 0), (.ref a280), (.ref a272), (.ref a272)] rfl ?_
  have f291 := (x275.keep K283)
  have f292 := (f277.keep K283 nin0)
  have f293 := (f278.keep K283 nin0)
  have f294 : n0 ≤ h287.size := (Nat.le_trans f279 K283.1)
  have g295 : n0 ≤ a272 := by rw [g273]; exact z0
  refine own_callI C S290 rfl (own_wd hw 17 rfl) (own_wd hw 18 rfl) (own_wd hw 20 rfl) (by decide) (own_Met.pay (own_si0 l Z a0 hw a272 a280 h287 n0 f294 g295 f291 f292 f293) C 1 (own_wd hw 20 rfl) (own_wd hw 4 rfl) (by decide) (by decide)) (fun _ _ _ q => q.2) [(.ref a280), (.int 0)] [(.ref a272)] rfl own_pd13 rfl rfl rfl (Nat.le_of_ble_eq_true rfl) (by decide) (by decide) (by decide +kernel) ?_
  rintro T300 h301 v302 L303 S304 ⟨⟨rfl, K296, f297, f298, f299⟩, -⟩
  show own_Go p e below _ T300 (mkF m 25 #[.val (.int k)] [(.ref a272)])
  refine own_retA C S304 rfl rfl (by decide +kernel) (by decide) (by decide) ?_
  have o305 : h0.size ≤ a272 := by rw [g273]; exact (Nat.le_refl _)
  have o307 : h0.size ≤ h271.size := (Nat.le_trans (Nat.le_refl _) E274.1)
  have o306 : h0.size ≤ a280 := Nat.le_trans o307 g282
  have n308 : a272 ≠ a280 := Nat.ne_of_lt (Nat.lt_of_lt_of_le x275.lt g282)
  have f309 := (f284.keep K296 (ninS (Ne.symm n308) nin0))
  have f310 := (f285.keep K296)
  exact ⟨a272, a280, k281, rfl, o305, o306, ((((Keep.refl _ _).ext E274).trans K283 all0).trans K296 (allS (Or.inr o305) all0)), f297, f298, f299, f309, f310⟩
theorem own_voU (l : Launch) (Z : State) (a0 : Array Value) (hw : ∀ d ∈ tables_1, d.before a0 Z = true) (G1 : Int32) (G3 : Value) (U8 : Addr) (k : Int32) (h0 : Heap) (n0 : Nat) (z0 : n0 ≤ h0.size) (X00 : Old Z n0 h0) (O2 : Sta Z Z.heap "java/lang/String" "COMPACT_STRINGS" "Z" (.int G1)) (O4 : Sta Z Z.heap "jdk/internal/util/Preconditions" "SIOOBE_FORMATTER" "Ljava/util/function/BiFunction;" G3) (P5 : ¬ G1 = (0 : Int32)) (rG3 : G3.isRef = true) (OU1 : Sta Z Z.heap "java/nio/charset/StandardCharsets" "UTF_8" "Ljava/nio/charset/Charset;" (.ref U8)) (OU2 : Sta Z Z.heap "sun/nio/cs/UTF_8" "INSTANCE" "Lsun/nio/cs/UTF_8;" (.ref U8)) (OA : Sta Z Z.heap "java/lang/StringUTF16" "$assertionsDisabled" "Z" (.int 1)) (OH : Sta Z Z.heap "java/lang/StringUTF16" "HI_BYTE_SHIFT" "I" (.int 0)) (OL : Sta Z Z.heap "java/lang/StringUTF16" "LO_BYTE_SHIFT" "I" (.int 8)) (k0 : (255 : Int32) < k) :
    own_Met l Z (⟨"java/lang/String", "valueOf", "(C)Ljava/lang/String;"⟩ : MethodName) jdk_42_method_139_code 1 (some (.object "java/lang/String")) ({ frames := 2, cells := 2, slots := 6, locals := 29 } : Room) n0 #[(.int k)] h0 (fun v h => ∃ x : Addr, ∃ r : Addr, ∃ rk : ClassId, v = some (.ref x) ∧ h0.size ≤ x ∧ h0.size ≤ r ∧ Keep h0 h [] ∧ Exa Z h x "java/lang/String" ∧ Fld Z h x "java/lang/String" "value" "[B" (.ref r) ∧ Fld Z h x "java/lang/String" "coder" "B" (.int 1) ∧ Arv Z h r rk .byte (2 : Int32) ([(.int ((k >>> ((0 : Int32) &&& 31)).toInt8.toInt32)), (.int ((k >>> ((8 : Int32) &&& 31)).toInt8.toInt32))]) (.int 0) ∧ Exa Z h r "[B") := by
  refine own_met (by decide +kernel) #[.val (.int k)] (fun m => by first | (simp [entryFrame, mkF, argsToLocals, Value.category]; done) | rfl) ?_
  intro p e s m below meth c T0 C S0
  refine own_getS C S0 (own_wd hw 6 rfl) Via.refl (O2.ext X00.2) (by decide +kernel) ?_
  intro T311 S312
  refine own_if C S312 (q := .eq) (o := 23) (by decide +kernel) 26 (by decide) (by decide) (fun (hq : G1 = (0 : Int32)) => False.elim (P5 hq)) (fun (q313 : ¬ G1 = (0 : Int32)) => ?_)
  refine own_seg C S312 [(6, .iload_n 0, 1)] (by decide +kernel) 7 #[.val (.int k)] [(.int k)] rfl ?_
  refine own_callS C S312 (own_wd hw 7 rfl) (own_wd hw 8 rfl) (own_wd hw 9 rfl) (own_wd hw 10 rfl) (by decide) (own_Met.pay (own_ceU l Z a0 hw k h0 n0 z0 k0) C 0 (own_wd hw 10 rfl) (own_wd hw 9 rfl) (by decide) (by decide)) (fun _ _ _ q => q.2) [(.int k)] [] rfl own_pd11 rfl rfl rfl (Nat.le_of_ble_eq_true rfl) (by decide) (by decide) (by decide +kernel) ?_
  rintro T315 h316 v317 L318 S319 ⟨⟨rfl, e314⟩, -⟩
  rw [e314] at S319; clear e314
  show own_Go p e below _ T315 (mkF m 10 #[.val (.int k)] [(.int 0)])
  refine own_if C S319 (q := .eq) (o := 16) (by decide +kernel) 26 (by decide) (by decide) (fun (q320 : (0 : Int32) = (0 : Int32)) => ?_) (fun (hq : ¬ (0 : Int32) = (0 : Int32)) => False.elim (hq rfl))
  refine own_new C S319 (own_wd hw 11 rfl) (own_wd hw 12 rfl) (own_wd hw 4 rfl) (by decide +kernel) (by decide) (by decide) ?_
  intro T321 h323 a324 S322 g325 E326 x327 D328
  have f329 : Fld Z h323 a324 "java/lang/String" "value" "[B" .null := D328 (ty := (.array .byte)) (Or.inr (own_wd hw 25 rfl)) own_fd0
  have f330 : Fld Z h323 a324 "java/lang/String" "coder" "B" (.int 0) := D328 (ty := .byte) (Or.inr (own_wd hw 27 rfl)) own_fd1
  refine own_seg C S322 [(29, .dup, 1), (30, .iload_n 0, 1)] (by decide +kernel) 31 #[.val (.int k)] [(.int k), (.ref a324), (.ref a324)] rfl ?_
  have f331 := (X00.ext E326)
  have f332 : n0 ≤ h323.size := (Nat.le_trans z0 E326.1)
  refine own_callS C S322 (own_wd hw 266 rfl) (own_wd hw 267 rfl) (own_wd hw 242 rfl) (own_wd hw 268 rfl) (by decide) (own_Met.pay (own_tbU l Z a0 hw G1 G3 U8 k h323 n0 f332 f331 O2 O4 P5 rG3 OU1 OU2 OA OH OL) C 2 (own_wd hw 268 rfl) (own_wd hw 242 rfl) (by decide) (by decide)) (fun _ _ _ q => q.2) [(.int k)] [(.ref a324), (.ref a324)] rfl own_pd12 rfl rfl rfl (Nat.le_of_ble_eq_true rfl) (by decide) (by decide) (by decide +kernel) ?_
  rintro T339 h340 v341 L342 S343 ⟨⟨a333, k334, rfl, g335, K336, f337, f338⟩, -⟩
  show own_Go p e below _ T339 (mkF m 34 #[.val (.int k)] [(.ref a333), (.ref a324), (.ref a324)])
  refine own_seg C S343 [(34, .iconst 1, 1)] (by decide +kernel) 35 #[.val (.int k)] [(.int 1), (.ref a333), (.ref a324), (.ref a324)] rfl ?_
  have f344 := (x327.keep K336)
  have f345 := (f329.keep K336 nin0)
  have f346 := (f330.keep K336 nin0)
  have f347 : n0 ≤ h340.size := (Nat.le_trans f332 K336.1)
  have g348 : n0 ≤ a324 := by rw [g325]; exact z0
  refine own_callI C S343 rfl (own_wd hw 17 rfl) (own_wd hw 18 rfl) (own_wd hw 20 rfl) (by decide) (own_Met.pay (own_si1 l Z a0 hw a324 a333 h340 n0 f347 g348 f344 f345 f346) C 1 (own_wd hw 20 rfl) (own_wd hw 4 rfl) (by decide) (by decide)) (fun _ _ _ q => q.2) [(.ref a333), (.int 1)] [(.ref a324)] rfl own_pd13 rfl rfl rfl (Nat.le_of_ble_eq_true rfl) (by decide) (by decide) (by decide +kernel) ?_
  rintro T353 h354 v355 L356 S357 ⟨⟨rfl, K349, f350, f351, f352⟩, -⟩
  show own_Go p e below _ T353 (mkF m 38 #[.val (.int k)] [(.ref a324)])
  refine own_retA C S357 rfl rfl (by decide +kernel) (by decide) (by decide) ?_
  have o358 : h0.size ≤ a324 := by rw [g325]; exact (Nat.le_refl _)
  have o360 : h0.size ≤ h323.size := (Nat.le_trans (Nat.le_refl _) E326.1)
  have o359 : h0.size ≤ a333 := Nat.le_trans o360 g335
  have n361 : a324 ≠ a333 := Nat.ne_of_lt (Nat.lt_of_lt_of_le x327.lt g335)
  have f362 := (f337.keep K349 (ninS (Ne.symm n361) nin0))
  have f363 := (f338.keep K349)
  exact ⟨a324, a333, k334, rfl, o358, o359, ((((Keep.refl _ _).ext E326).trans K336 all0).trans K349 (allS (Or.inr o358) all0)), f350, f351, f352, f362, f363⟩
theorem own_gch (l : Launch) (Z : State) (a0 : Array Value) (hw : ∀ d ∈ tables_1, d.before a0 Z = true) (G1 : Int32) (G3 : Value) (U8 : Addr) (b : Addr) (bk : ClassId) (k : Int32) (h0 : Heap) (n0 : Nat) (z0 : n0 ≤ h0.size) (X00 : Old Z n0 h0) (bK : Arv Z h0 b bk .byte (2 : Int32) ([(.int ((k >>> ((0 : Int32) &&& 31)).toInt8.toInt32)), (.int ((k >>> ((8 : Int32) &&& 31)).toInt8.toInt32))]) (.int 0)) (O2 : Sta Z Z.heap "java/lang/String" "COMPACT_STRINGS" "Z" (.int G1)) (O4 : Sta Z Z.heap "jdk/internal/util/Preconditions" "SIOOBE_FORMATTER" "Ljava/util/function/BiFunction;" G3) (P5 : ¬ G1 = (0 : Int32)) (rG3 : G3.isRef = true) (OU1 : Sta Z Z.heap "java/nio/charset/StandardCharsets" "UTF_8" "Ljava/nio/charset/Charset;" (.ref U8)) (OU2 : Sta Z Z.heap "sun/nio/cs/UTF_8" "INSTANCE" "Lsun/nio/cs/UTF_8;" (.ref U8)) (OA : Sta Z Z.heap "java/lang/StringUTF16" "$assertionsDisabled" "Z" (.int 1)) (OH : Sta Z Z.heap "java/lang/StringUTF16" "HI_BYTE_SHIFT" "I" (.int 0)) (OL : Sta Z Z.heap "java/lang/StringUTF16" "LO_BYTE_SHIFT" "I" (.int 8)) (hk : 0 ≤ k.toInt ∧ k.toInt ≤ 65535) :
    own_Met l Z (⟨"java/lang/StringUTF16", "getChar", "([BI)C"⟩ : MethodName) jdk_52_method_5_code 2 (some .char) ({ frames := 0, cells := 0, slots := 0, locals := 0 } : Room) n0 #[(.ref b), (.int 0)] h0 (fun v h => v = some (.int k) ∧ h = h0) := by
  refine own_met (by decide +kernel) #[.val (.ref b), .val (.int 0)] (fun m => by first | (simp [entryFrame, mkF, argsToLocals, Value.category]; done) | rfl) ?_
  intro p e s m below meth c T0 C S0
  refine own_getS C S0 (own_wd hw 272 rfl) Via.refl (OA.ext X00.2) (by decide +kernel) ?_
  intro T364 S365
  refine own_if C S365 (q := .ne) (o := 25) (by decide +kernel) 28 (by decide) (by decide) (fun (q366 : ¬ (1 : Int32) = (0 : Int32)) => ?_) (fun (hq : (1 : Int32) = (0 : Int32)) => False.elim (absurd hq (by decide)))
  refine own_seg C S365 [(28, .iload_n 1, 1), (29, .iconst 1, 1), (30, .ishl, 1), (31, .istore_n 1, 1), (32, .aload_n 0, 1), (33, .iload_n 1, 1), (34, .iinc 1 1, 3)] (by decide +kernel) 37 #[.val (.ref b), .val (.int (((0 : Int32) <<< ((1 : Int32) &&& 31)) + (1 : Int32)))] [(.int ((0 : Int32) <<< ((1 : Int32) &&& 31))), (.ref b)] rfl ?_
  show own_Go p e below _ T364 (mkF m 37 #[.val (.ref b), .val (.int 1)] [(.int 0), (.ref b)])
  refine own_baload C S365 bK ⟨(by decide), (by decide)⟩ (.int ((k >>> ((0 : Int32) &&& 31)).toInt8.toInt32)) rfl (by decide +kernel) ?_
  refine own_seg C S365 [(38, .sipush 255, 3), (41, .iand, 1)] (by decide +kernel) 42 #[.val (.ref b), .val (.int 1)] [(.int ((k >>> ((0 : Int32) &&& 31)).toInt8.toInt32 &&& (255 : Int32)))] rfl ?_
  refine own_getS C S365 (own_wd hw 273 rfl) Via.refl (OH.ext X00.2) (by decide +kernel) ?_
  intro T367 S368
  refine own_seg C S368 [(45, .ishl, 1), (46, .aload_n 0, 1), (47, .iload_n 1, 1)] (by decide +kernel) 48 #[.val (.ref b), .val (.int 1)] [(.int 1), (.ref b), (.int (((k >>> ((0 : Int32) &&& 31)).toInt8.toInt32 &&& (255 : Int32)) <<< ((0 : Int32) &&& 31)))] rfl ?_
  refine own_baload C S368 bK ⟨(by decide), (by decide)⟩ (.int ((k >>> ((8 : Int32) &&& 31)).toInt8.toInt32)) rfl (by decide +kernel) ?_
  refine own_seg C S368 [(49, .sipush 255, 3), (52, .iand, 1)] (by decide +kernel) 53 #[.val (.ref b), .val (.int 1)] [(.int ((k >>> ((8 : Int32) &&& 31)).toInt8.toInt32 &&& (255 : Int32))), (.int (((k >>> ((0 : Int32) &&& 31)).toInt8.toInt32 &&& (255 : Int32)) <<< ((0 : Int32) &&& 31)))] rfl ?_
  refine own_getS C S368 (own_wd hw 274 rfl) Via.refl (OL.ext X00.2) (by decide +kernel) ?_
  intro T369 S370
  refine own_seg C S370 [(56, .ishl, 1), (57, .ior, 1), (58, .i2c, 1)] (by decide +kernel) 59 #[.val (.ref b), .val (.int 1)] [(.int (((((k >>> ((0 : Int32) &&& 31)).toInt8.toInt32 &&& (255 : Int32)) <<< ((0 : Int32) &&& 31)) ||| (((k >>> ((8 : Int32) &&& 31)).toInt8.toInt32 &&& (255 : Int32)) <<< ((8 : Int32) &&& 31))).toUInt32.toUInt16.toUInt32.toInt32))] rfl ?_
  rw [show ((((k >>> ((0 : Int32) &&& 31)).toInt8.toInt32 &&& (255 : Int32)) <<< ((0 : Int32) &&& 31)) ||| (((k >>> ((8 : Int32) &&& 31)).toInt8.toInt32 &&& (255 : Int32)) <<< ((8 : Int32) &&& 31))).toUInt32.toUInt16.toUInt32.toInt32 = k from own_u16 hk.1 hk.2]
  refine own_retC C S370 (by decide +kernel) (own_c65 hk.1 hk.2) (by decide) (by decide) ?_
  exact ⟨rfl, rfl⟩
theorem own_sur (l : Launch) (Z : State) (a0 : Array Value) (hw : ∀ d ∈ tables_1, d.before a0 Z = true) (k : Int32) (h0 : Heap) (n0 : Nat) (z0 : n0 ≤ h0.size) (hs : k < (55296 : Int32) ∨ ¬ k < (57344 : Int32)) :
    own_Met l Z (⟨"java/lang/Character", "isSurrogate", "(C)Z"⟩ : MethodName) jdk_89_method_16_code 1 (some .boolean) ({ frames := 0, cells := 0, slots := 0, locals := 0 } : Room) n0 #[(.int k)] h0 (fun v h => v = some (.int 0) ∧ h = h0) := by
  refine own_met (by decide +kernel) #[.val (.int k)] (fun m => by first | (simp [entryFrame, mkF, argsToLocals, Value.category]; done) | rfl) ?_
  intro p e s m below meth c T0 C S0
  refine own_seg C S0 [(0, .iload_n 0, 1)] (by decide +kernel) 1 #[.val (.int k)] [(.int k)] rfl ?_
  refine own_ldc C S0 (own_wd hw 285 rfl) (by decide +kernel) ?_
  refine own_icmp C S0 (q := .lt) (o := 13) (by decide +kernel) 16 (by decide) (by decide) (fun (q371 : k < 55296) => ?_) (fun (q372 : ¬ k < 55296) => ?_)
  · refine own_seg C S0 [(16, .iconst 0, 1)] (by decide +kernel) 17 #[.val (.int k)] [(.int 0)] rfl ?_
    refine own_retZ C S0 (by decide +kernel) (by decide) (by decide) (by decide) ?_
    exact ⟨rfl, rfl⟩
  · refine own_seg C S0 [(6, .iload_n 0, 1)] (by decide +kernel) 7 #[.val (.int k)] [(.int k)] rfl ?_
    refine own_ldc C S0 (own_wd hw 295 rfl) (by decide +kernel) ?_
    refine own_icmp C S0 (q := .ge) (o := 7) (by decide +kernel) 16 (by decide) (by decide) (fun (q373 : ¬ k < 57344) => ?_) (fun (hq : k < 57344) => False.elim (hs.elim (fun q => q372 q) (fun q => q hq)))
    refine own_seg C S0 [(16, .iconst 0, 1)] (by decide +kernel) 17 #[.val (.int k)] [(.int 0)] rfl ?_
    refine own_retZ C S0 (by decide +kernel) (by decide) (by decide) (by decide) ?_
    exact ⟨rfl, rfl⟩
theorem own_co2 (l : Launch) (Z : State) (a0 : Array Value) (hw : ∀ d ∈ tables_1, d.before a0 Z = true) (b : Addr) (bk : ClassId) (b0 : Int32) (b1 : Int32) (b2 : Int32) (h0 : Heap) (n0 : Nat) (z0 : n0 ≤ h0.size) (bK : Arv Z h0 b bk .byte (3 : Int32) ([(.int b0), (.int b1), (.int b2)]) (.int 0)) :
    own_Met l Z (⟨"java/util/Arrays", "copyOf", "([BI)[B"⟩ : MethodName) jdk_65_method_121_code 3 (some (.array .byte)) ({ frames := 1, cells := 1, slots := 2, locals := 18 } : Room) n0 #[(.ref b), (.int 2)] h0 (fun v h => ∃ r : Addr, ∃ rk : ClassId, v = some (.ref r) ∧ h0.size ≤ r ∧ Keep h0 h [] ∧ Arv Z h r rk .byte (2 : Int32) ([(.int b0), (.int b1)]) (.int 0) ∧ Exa Z h r "[B") := by
  refine own_met (by decide +kernel) #[.val (.ref b), .val (.int 2), .unset] (fun m => by first | (simp [entryFrame, mkF, argsToLocals, Value.category]; done) | rfl) ?_
  intro p e s m below meth c T0 C S0
  refine own_seg C S0 [(0, .iload_n 1, 1), (1, .aload_n 0, 1)] (by decide +kernel) 2 #[.val (.ref b), .val (.int 2), .unset] [(.ref b), (.int 2)] rfl ?_
  refine own_alen C S0 bK (by decide +kernel) ?_
  refine own_icmp C S0 (q := .ne) (o := 11) (by decide +kernel) 14 (by decide) (by decide) (fun (q374 : ¬ (2 : Int32) = (3 : Int32)) => ?_) (fun (hq : (2 : Int32) = (3 : Int32)) => False.elim (by revert hq; decide))
  refine own_seg C S0 [(14, .iload_n 1, 1)] (by decide +kernel) 15 #[.val (.ref b), .val (.int 2), .unset] [(.int 2)] rfl ?_
  refine own_newPE C S0 (aty := .byte) (ad := "[B") (by decide) (own_wd hw 16 rfl) (by decide +kernel) (by decide) 2 (by decide) (by decide) (by decide) (by decide) ?_
  intro T375 h377 a378 k379 S376 g380 E381 f382 x383
  have f384 : Arv Z h377 a378 k379 .byte (2 : Int32) ([(.int 0), (.int 0)]) (.int 0) := Arv.pad f382 (pad_rep [] (.int 0) 2)
  refine own_seg C S376 [(17, .astore_n 2, 1), (18, .aload_n 0, 1), (19, .iconst 0, 1), (20, .aload_n 2, 1), (21, .iconst 0, 1), (22, .aload_n 0, 1)] (by decide +kernel) 23 #[.val (.ref b), .val (.int 2), .val (.ref a378)] [(.ref b), (.int 0), (.ref a378), (.int 0), (.ref b)] rfl ?_
  have f385 := (bK.ext E381)
  refine own_alen C S376 f385 (by decide +kernel) ?_
  refine own_seg C S376 [(24, .iload_n 1, 1)] (by decide +kernel) 25 #[.val (.ref b), .val (.int 2), .val (.ref a378)] [(.int 2), (.int 3), (.int 0), (.ref a378), (.int 0), (.ref b)] rfl ?_
  have f386 : n0 ≤ h377.size := (Nat.le_trans z0 E381.1)
  refine own_callS C S376 (own_wd hw 185 rfl) (own_wd hw 124 rfl) (own_wd hw 121 rfl) (own_wd hw 125 rfl) (by decide) (own_Met.pay (own_min l Z a0 hw (3 : Int32) (2 : Int32) h377 n0 f386) C 4 (own_wd hw 125 rfl) (own_wd hw 121 rfl) (by decide) (by decide)) (fun _ _ _ q => q.2) [(.int 3), (.int 2)] [(.int 0), (.ref a378), (.int 0), (.ref b)] rfl own_pd2 rfl rfl rfl (Nat.le_of_ble_eq_true rfl) (by decide) (by decide) (by decide +kernel) ?_
  rintro T388 h389 v390 L391 S392 ⟨⟨rfl, e387⟩, -⟩
  rw [e387] at S392; clear e387
  show own_Go p e below _ T388 (mkF m 28 #[.val (.ref b), .val (.int 2), .val (.ref a378)] [(.int (if (2 : Int32) < (3 : Int32) then (2 : Int32) else (3 : Int32))), (.int 0), (.ref a378), (.int 0), (.ref b)])
  show own_Go p e below _ T388 (mkF m 28 #[.val (.ref b), .val (.int 2), .val (.ref a378)] [(.int 2), (.int 0), (.ref a378), (.int 0), (.ref b)])
  have g393 : n0 ≤ a378 := by rw [g380]; exact z0
  refine own_copy C S392 (own_wd hw 186 rfl) (own_wd hw 189 rfl) (own_wd hw 187 rfl) (own_wd hw 188 rfl) f385 f384 rfl (by decide) (by decide) (by decide) (by decide) (by decide) (by decide) g393 ([(.int b0), (.int b1)]) rfl rfl (by decide +kernel) (by decide) 0 (Nat.le_of_ble_eq_true rfl) (by decide) ?_
  intro T394 h396 S395 K397 f398
  refine own_seg C S395 [(31, .aload_n 2, 1)] (by decide +kernel) 32 #[.val (.ref b), .val (.int 2), .val (.ref a378)] [(.ref a378)] rfl ?_
  refine own_retA C S395 rfl rfl (by decide +kernel) (by decide) (by decide) ?_
  have o399 : h0.size ≤ a378 := by rw [g380]; exact (Nat.le_refl _)
  have f400 := (x383.keep K397)
  exact ⟨a378, k379, rfl, o399, (((Keep.refl _ _).ext E381).trans K397 (allS (Or.inr o399) all0)), f398, f400⟩
theorem own_pd14 : parseMethodDescriptor "([BI)[B" = some ⟨[(.array .byte), .int], (some (.array .byte))⟩ := by decide +kernel
theorem own_eu2 (l : Launch) (Z : State) (a0 : Array Value) (hw : ∀ d ∈ tables_1, d.before a0 Z = true) (G1 : Int32) (G3 : Value) (U8 : Addr) (b : Addr) (bk : ClassId) (k : Int32) (h0 : Heap) (n0 : Nat) (z0 : n0 ≤ h0.size) (X00 : Old Z n0 h0) (bK : Arv Z h0 b bk .byte (2 : Int32) ([(.int ((k >>> ((0 : Int32) &&& 31)).toInt8.toInt32)), (.int ((k >>> ((8 : Int32) &&& 31)).toInt8.toInt32))]) (.int 0)) (O2 : Sta Z Z.heap "java/lang/String" "COMPACT_STRINGS" "Z" (.int G1)) (O4 : Sta Z Z.heap "jdk/internal/util/Preconditions" "SIOOBE_FORMATTER" "Ljava/util/function/BiFunction;" G3) (P5 : ¬ G1 = (0 : Int32)) (rG3 : G3.isRef = true) (OU1 : Sta Z Z.heap "java/nio/charset/StandardCharsets" "UTF_8" "Ljava/nio/charset/Charset;" (.ref U8)) (OU2 : Sta Z Z.heap "sun/nio/cs/UTF_8" "INSTANCE" "Lsun/nio/cs/UTF_8;" (.ref U8)) (OA : Sta Z Z.heap "java/lang/StringUTF16" "$assertionsDisabled" "Z" (.int 1)) (OH : Sta Z Z.heap "java/lang/StringUTF16" "HI_BYTE_SHIFT" "I" (.int 0)) (OL : Sta Z Z.heap "java/lang/StringUTF16" "LO_BYTE_SHIFT" "I" (.int 8)) (hk : 0 ≤ k.toInt ∧ k.toInt ≤ 65535) (h1 : ¬ k < (128 : Int32)) (h2 : k < (2048 : Int32)) :
    own_Met l Z (⟨"java/lang/String", "encodeUTF8_UTF16", "([BZ)[B"⟩ : MethodName) jdk_42_method_47_code 9 (some (.array .byte)) ({ frames := 2, cells := 2, slots := 5, locals := 32 } : Room) n0 #[(.ref b), (.int 1)] h0 (fun v h => ∃ r : Addr, ∃ rk : ClassId, v = some (.ref r) ∧ h0.size ≤ r ∧ Keep h0 h [] ∧ Arv Z h r rk .byte (2 : Int32) ([(.int (((192 : Int32) ||| (k >>> ((6 : Int32) &&& 31))).toInt8.toInt32)), (.int (((128 : Int32) ||| (k &&& (63 : Int32))).toInt8.toInt32))]) (.int 0) ∧ Exa Z h r "[B") := by
  refine own_met (by decide +kernel) #[.val (.ref b), .val (.int 1), .unset, .unset, .unset, .unset, .unset, .unset, .unset] (fun m => by first | (simp [entryFrame, mkF, argsToLocals, Value.category]; done) | rfl) ?_
  intro p e s m below meth c T0 C S0
  refine own_seg C S0 [(0, .iconst 0, 1), (1, .istore_n 2, 1), (2, .iconst 0, 1), (3, .istore_n 3, 1), (4, .aload_n 0, 1)] (by decide +kernel) 5 #[.val (.ref b), .val (.int 1), .val (.int 0), .val (.int 0), .unset, .unset, .unset, .unset, .unset] [(.ref b)] rfl ?_
  refine own_alen C S0 bK (by decide +kernel) ?_
  refine own_seg C S0 [(6, .iconst 1, 1), (7, .ishr, 1), (8, .istore 4, 2), (10, .iload 4, 2), (12, .iconst 3, 1), (13, .imul, 1)] (by decide +kernel) 14 #[.val (.ref b), .val (.int 1), .val (.int 0), .val (.int 0), .val (.int ((2 : Int32) >>> ((1 : Int32) &&& 31))), .unset, .unset, .unset, .unset] [(.int (((2 : Int32) >>> ((1 : Int32) &&& 31)) * (3 : Int32)))] rfl ?_
  show own_Go p e below _ T0 (mkF m 14 #[.val (.ref b), .val (.int 1), .val (.int 0), .val (.int 0), .val (.int 1), .unset, .unset, .unset, .unset] [(.int 3)])
  refine own_newPE C S0 (aty := .byte) (ad := "[B") (by decide) (own_wd hw 16 rfl) (by decide +kernel) (by decide) 3 (by decide) (by decide) (by decide) (by decide) ?_
  intro T401 h403 a404 k405 S402 g406 E407 f408 x409
  have f410 : Arv Z h403 a404 k405 .byte (3 : Int32) ([(.int 0), (.int 0), (.int 0)]) (.int 0) := Arv.pad f408 (pad_rep [] (.int 0) 3)
  refine own_seg C S402 [(16, .astore 5, 2), (18, .iload_n 3, 1), (19, .iload 4, 2)] (by decide +kernel) 21 #[.val (.ref b), .val (.int 1), .val (.int 0), .val (.int 0), .val (.int 1), .val (.ref a404), .unset, .unset, .unset] [(.int 1), (.int 0)] rfl ?_
  refine own_icmp C S402 (q := .ge) (o := 37) (by decide +kernel) 58 (by decide) (by decide) (fun (hq : ¬ (0 : Int32) < (1 : Int32)) => False.elim (by revert hq; decide)) (fun (q411 : (0 : Int32) < (1 : Int32)) => ?_)
  refine own_seg C S402 [(24, .aload_n 0, 1), (25, .iload_n 3, 1)] (by decide +kernel) 26 #[.val (.ref b), .val (.int 1), .val (.int 0), .val (.int 0), .val (.int 1), .val (.ref a404), .unset, .unset, .unset] [(.int 0), (.ref b)] rfl ?_
  have f412 := (X00.ext E407)
  have f413 := (bK.ext E407)
  have f414 : n0 ≤ h403.size := (Nat.le_trans z0 E407.1)
  refine own_callS C S402 (own_wd hw 278 rfl) (own_wd hw 279 rfl) (own_wd hw 242 rfl) (own_wd hw 280 rfl) (by decide) (own_Met.pay (own_gch l Z a0 hw G1 G3 U8 b _ k h403 n0 f414 f412 f413 O2 O4 P5 rG3 OU1 OU2 OA OH OL hk) C 0 (own_wd hw 280 rfl) (own_wd hw 242 rfl) (by decide) (by decide)) (fun _ _ _ q => q.2) [(.ref b), (.int 0)] [] rfl own_pd9 rfl rfl rfl (Nat.le_of_ble_eq_true rfl) (by decide) (by decide) (by decide +kernel) ?_
  rintro T416 h417 v418 L419 S420 ⟨⟨rfl, e415⟩, -⟩
  rw [e415] at S420; clear e415
  show own_Go p e below _ T416 (mkF m 29 #[.val (.ref b), .val (.int 1), .val (.int 0), .val (.int 0), .val (.int 1), .val (.ref a404), .unset, .unset, .unset] [(.int k)])
  refine own_seg C S420 [(29, .istore 6, 2), (31, .iload 6, 2), (33, .sipush 128, 3)] (by decide +kernel) 36 #[.val (.ref b), .val (.int 1), .val (.int 0), .val (.int 0), .val (.int 1), .val (.ref a404), .val (.int k), .unset, .unset] [(.int 128), (.int k)] rfl ?_
  refine own_icmp C S420 (q := .lt) (o := 6) (by decide +kernel) 42 (by decide) (by decide) (fun (hq : k < (128 : Int32)) => False.elim (h1 hq)) (fun (q421 : ¬ k < (128 : Int32)) => ?_)
  refine own_seg C S420 [(39, .goto 19, 3), (58, .iload_n 3, 1), (59, .iload 4, 2)] (by decide +kernel) 61 #[.val (.ref b), .val (.int 1), .val (.int 0), .val (.int 0), .val (.int 1), .val (.ref a404), .val (.int k), .unset, .unset] [(.int 1), (.int 0)] rfl ?_
  refine own_icmp C S420 (q := .ge) (o := 294) (by decide +kernel) 355 (by decide) (by decide) (fun (hq : ¬ (0 : Int32) < (1 : Int32)) => False.elim (by revert hq; decide)) (fun (q422 : (0 : Int32) < (1 : Int32)) => ?_)
  refine own_seg C S420 [(64, .aload_n 0, 1), (65, .iload_n 3, 1), (66, .iinc 3 1, 3)] (by decide +kernel) 69 #[.val (.ref b), .val (.int 1), .val (.int 0), .val (.int ((0 : Int32) + (1 : Int32))), .val (.int 1), .val (.ref a404), .val (.int k), .unset, .unset] [(.int 0), (.ref b)] rfl ?_
  refine own_callS C S420 (own_wd hw 278 rfl) (own_wd hw 279 rfl) (own_wd hw 242 rfl) (own_wd hw 280 rfl) (by decide) (own_Met.pay (own_gch l Z a0 hw G1 G3 U8 b _ k h403 n0 f414 f412 f413 O2 O4 P5 rG3 OU1 OU2 OA OH OL hk) C 0 (own_wd hw 280 rfl) (own_wd hw 242 rfl) (by decide) (by decide)) (fun _ _ _ q => q.2) [(.ref b), (.int 0)] [] rfl own_pd9 rfl rfl rfl (Nat.le_of_ble_eq_true rfl) (by decide) (by decide) (by decide +kernel) ?_
  rintro T424 h425 v426 L427 S428 ⟨⟨rfl, e423⟩, -⟩
  rw [e423] at S428; clear e423
  show own_Go p e below _ T424 (mkF m 72 #[.val (.ref b), .val (.int 1), .val (.int 0), .val (.int ((0 : Int32) + (1 : Int32))), .val (.int 1), .val (.ref a404), .val (.int k), .unset, .unset] [(.int k)])
  refine own_seg C S428 [(72, .istore 6, 2), (74, .iload 6, 2), (76, .sipush 128, 3)] (by decide +kernel) 79 #[.val (.ref b), .val (.int 1), .val (.int 0), .val (.int ((0 : Int32) + (1 : Int32))), .val (.int 1), .val (.ref a404), .val (.int k), .unset, .unset] [(.int 128), (.int k)] rfl ?_
  show own_Go p e below _ T424 (mkF m 79 #[.val (.ref b), .val (.int 1), .val (.int 0), .val (.int 1), .val (.int 1), .val (.ref a404), .val (.int k), .unset, .unset] [(.int 128), (.int k)])
  refine own_icmp C S428 (q := .ge) (o := 16) (by decide +kernel) 95 (by decide) (by decide) (fun (q429 : ¬ k < (128 : Int32)) => ?_) (fun (hq : k < (128 : Int32)) => False.elim (h1 hq))
  refine own_seg C S428 [(95, .iload 6, 2), (97, .sipush 2048, 3)] (by decide +kernel) 100 #[.val (.ref b), .val (.int 1), .val (.int 0), .val (.int 1), .val (.int 1), .val (.ref a404), .val (.int k), .unset, .unset] [(.int 2048), (.int k)] rfl ?_
  refine own_icmp C S428 (q := .ge) (o := 40) (by decide +kernel) 140 (by decide) (by decide) (fun (hq : ¬ k < (2048 : Int32)) => False.elim (hq h2)) (fun (q430 : k < (2048 : Int32)) => ?_)
  refine own_seg C S428 [(103, .aload 5, 2), (105, .iload_n 2, 1), (106, .iinc 2 1, 3), (109, .sipush 192, 3), (112, .iload 6, 2), (114, .bipush 6, 2), (116, .ishr, 1), (117, .ior, 1), (118, .i2b, 1)] (by decide +kernel) 119 #[.val (.ref b), .val (.int 1), .val (.int ((0 : Int32) + (1 : Int32))), .val (.int 1), .val (.int 1), .val (.ref a404), .val (.int k), .unset, .unset] [(.int (((192 : Int32) ||| (k >>> ((6 : Int32) &&& 31))).toInt8.toInt32)), (.int 0), (.ref a404)] rfl ?_
  show own_Go p e below _ T424 (mkF m 119 #[.val (.ref b), .val (.int 1), .val (.int 1), .val (.int 1), .val (.int 1), .val (.ref a404), .val (.int k), .unset, .unset] [(.int (((192 : Int32) ||| (k >>> ((6 : Int32) &&& 31))).toInt8.toInt32)), (.int 0), (.ref a404)])
  have g431 : n0 ≤ a404 := by rw [g406]; exact z0
  refine own_bastore C S428 f410 ⟨(by decide), (by decide)⟩ 0 rfl (Nat.le_of_ble_eq_true rfl) (((192 : Int32) ||| (k >>> ((6 : Int32) &&& 31))).toInt8.toInt32) (own_i2b2 _) g431 (by decide +kernel) ?_
  intro T432 h434 S433 W435 f436
  have f437 : Arv Z h434 a404 k405 .byte (3 : Int32) ([(.int (((192 : Int32) ||| (k >>> ((6 : Int32) &&& 31))).toInt8.toInt32)), (.int 0), (.int 0)]) (.int 0) := f436
  refine own_seg C S433 [(120, .aload 5, 2), (122, .iload_n 2, 1), (123, .iinc 2 1, 3), (126, .sipush 128, 3), (129, .iload 6, 2), (131, .bipush 63, 2), (133, .iand, 1), (134, .ior, 1), (135, .i2b, 1)] (by decide +kernel) 136 #[.val (.ref b), .val (.int 1), .val (.int ((1 : Int32) + (1 : Int32))), .val (.int 1), .val (.int 1), .val (.ref a404), .val (.int k), .unset, .unset] [(.int (((128 : Int32) ||| (k &&& (63 : Int32))).toInt8.toInt32)), (.int 1), (.ref a404)] rfl ?_
  show own_Go p e below _ T432 (mkF m 136 #[.val (.ref b), .val (.int 1), .val (.int 2), .val (.int 1), .val (.int 1), .val (.ref a404), .val (.int k), .unset, .unset] [(.int (((128 : Int32) ||| (k &&& (63 : Int32))).toInt8.toInt32)), (.int 1), (.ref a404)])
  refine own_bastore C S433 f437 ⟨(by decide), (by decide)⟩ 1 rfl (Nat.le_of_ble_eq_true rfl) (((128 : Int32) ||| (k &&& (63 : Int32))).toInt8.toInt32) (own_i2b2 _) g431 (by decide +kernel) ?_
  intro T438 h440 S439 W441 f442
  have f443 : Arv Z h440 a404 k405 .byte (3 : Int32) ([(.int (((192 : Int32) ||| (k >>> ((6 : Int32) &&& 31))).toInt8.toInt32)), (.int (((128 : Int32) ||| (k &&& (63 : Int32))).toInt8.toInt32)), (.int 0)]) (.int 0) := f442
  refine own_seg C S439 [(137, .goto 215, 3), (352, .goto (-294), 3), (58, .iload_n 3, 1), (59, .iload 4, 2)] (by decide +kernel) 61 #[.val (.ref b), .val (.int 1), .val (.int 2), .val (.int 1), .val (.int 1), .val (.ref a404), .val (.int k), .unset, .unset] [(.int 1), (.int 1)] rfl ?_
  refine own_icmp C S439 (q := .ge) (o := 294) (by decide +kernel) 355 (by decide) (by decide) (fun (q444 : ¬ (1 : Int32) < (1 : Int32)) => ?_) (fun (hq : (1 : Int32) < (1 : Int32)) => False.elim (by revert hq; decide))
  refine own_seg C S439 [(355, .iload_n 2, 1), (356, .aload 5, 2)] (by decide +kernel) 358 #[.val (.ref b), .val (.int 1), .val (.int 2), .val (.int 1), .val (.int 1), .val (.ref a404), .val (.int k), .unset, .unset] [(.ref a404), (.int 2)] rfl ?_
  refine own_alen C S439 f443 (by decide +kernel) ?_
  refine own_icmp C S439 (q := .ne) (o := 6) (by decide +kernel) 365 (by decide) (by decide) (fun (q445 : ¬ (2 : Int32) = (3 : Int32)) => ?_) (fun (hq : (2 : Int32) = (3 : Int32)) => False.elim (by revert hq; decide))
  refine own_seg C S439 [(365, .aload 5, 2), (367, .iload_n 2, 1)] (by decide +kernel) 368 #[.val (.ref b), .val (.int 1), .val (.int 2), .val (.int 1), .val (.int 1), .val (.ref a404), .val (.int k), .unset, .unset] [(.int 2), (.ref a404)] rfl ?_
  have f446 : n0 ≤ h440.size := (by rw [W441.size]; exact (by rw [W435.size]; exact f414))
  refine own_callS C S439 (own_wd hw 286 rfl) (own_wd hw 182 rfl) (own_wd hw 183 rfl) (own_wd hw 184 rfl) (by decide) (own_Met.pay (own_co2 l Z a0 hw a404 _ (((192 : Int32) ||| (k >>> ((6 : Int32) &&& 31))).toInt8.toInt32) (((128 : Int32) ||| (k &&& (63 : Int32))).toInt8.toInt32) (0 : Int32) h440 n0 f446 f443) C 0 (own_wd hw 184 rfl) (own_wd hw 183 rfl) (by decide) (by decide)) (fun _ _ _ q => q.2) [(.ref a404), (.int 2)] [] rfl own_pd14 rfl rfl rfl (Nat.le_of_ble_eq_true rfl) (by decide) (by decide) (by decide +kernel) ?_
  rintro T453 h454 v455 L456 S457 ⟨⟨a447, k448, rfl, g449, K450, f451, f452⟩, -⟩
  show own_Go p e below _ T453 (mkF m 371 #[.val (.ref b), .val (.int 1), .val (.int 2), .val (.int 1), .val (.int 1), .val (.ref a404), .val (.int k), .unset, .unset] [(.ref a447)])
  refine own_retA C S457 rfl rfl (by decide +kernel) (by decide) (by decide) ?_
  have o459 : h0.size ≤ h440.size := (by rw [W441.size]; exact (by rw [W435.size]; exact (Nat.le_trans (Nat.le_refl _) E407.1)))
  have o458 : h0.size ≤ a447 := Nat.le_trans o459 g449
  have o460 : h0.size ≤ a404 := by rw [g406]; exact (Nat.le_refl _)
  exact ⟨a447, k448, rfl, o458, (((((Keep.refl _ _).ext E407).wr W435 (Or.inr o460)).wr W441 (Or.inr o460)).trans K450 all0), f451, f452⟩
theorem own_eu3 (l : Launch) (Z : State) (a0 : Array Value) (hw : ∀ d ∈ tables_1, d.before a0 Z = true) (G1 : Int32) (G3 : Value) (U8 : Addr) (b : Addr) (bk : ClassId) (k : Int32) (h0 : Heap) (n0 : Nat) (z0 : n0 ≤ h0.size) (X00 : Old Z n0 h0) (bK : Arv Z h0 b bk .byte (2 : Int32) ([(.int ((k >>> ((0 : Int32) &&& 31)).toInt8.toInt32)), (.int ((k >>> ((8 : Int32) &&& 31)).toInt8.toInt32))]) (.int 0)) (O2 : Sta Z Z.heap "java/lang/String" "COMPACT_STRINGS" "Z" (.int G1)) (O4 : Sta Z Z.heap "jdk/internal/util/Preconditions" "SIOOBE_FORMATTER" "Ljava/util/function/BiFunction;" G3) (P5 : ¬ G1 = (0 : Int32)) (rG3 : G3.isRef = true) (OU1 : Sta Z Z.heap "java/nio/charset/StandardCharsets" "UTF_8" "Ljava/nio/charset/Charset;" (.ref U8)) (OU2 : Sta Z Z.heap "sun/nio/cs/UTF_8" "INSTANCE" "Lsun/nio/cs/UTF_8;" (.ref U8)) (OA : Sta Z Z.heap "java/lang/StringUTF16" "$assertionsDisabled" "Z" (.int 1)) (OH : Sta Z Z.heap "java/lang/StringUTF16" "HI_BYTE_SHIFT" "I" (.int 0)) (OL : Sta Z Z.heap "java/lang/StringUTF16" "LO_BYTE_SHIFT" "I" (.int 8)) (hk : 0 ≤ k.toInt ∧ k.toInt ≤ 65535) (h1 : ¬ k < (128 : Int32)) (h2 : ¬ k < (2048 : Int32)) (hs : k < (55296 : Int32) ∨ ¬ k < (57344 : Int32)) :
    own_Met l Z (⟨"java/lang/String", "encodeUTF8_UTF16", "([BZ)[B"⟩ : MethodName) jdk_42_method_47_code 9 (some (.array .byte)) ({ frames := 1, cells := 1, slots := 3, locals := 13 } : Room) n0 #[(.ref b), (.int 1)] h0 (fun v h => ∃ r : Addr, ∃ rk : ClassId, v = some (.ref r) ∧ h0.size ≤ r ∧ Keep h0 h [] ∧ Arv Z h r rk .byte (3 : Int32) ([(.int (((224 : Int32) ||| (k >>> ((12 : Int32) &&& 31))).toInt8.toInt32)), (.int (((128 : Int32) ||| ((k >>> ((6 : Int32) &&& 31)) &&& (63 : Int32))).toInt8.toInt32)), (.int (((128 : Int32) ||| (k &&& (63 : Int32))).toInt8.toInt32))]) (.int 0) ∧ Exa Z h r "[B") := by
  refine own_met (by decide +kernel) #[.val (.ref b), .val (.int 1), .unset, .unset, .unset, .unset, .unset, .unset, .unset] (fun m => by first | (simp [entryFrame, mkF, argsToLocals, Value.category]; done) | rfl) ?_
  intro p e s m below meth c T0 C S0
  refine own_seg C S0 [(0, .iconst 0, 1), (1, .istore_n 2, 1), (2, .iconst 0, 1), (3, .istore_n 3, 1), (4, .aload_n 0, 1)] (by decide +kernel) 5 #[.val (.ref b), .val (.int 1), .val (.int 0), .val (.int 0), .unset, .unset, .unset, .unset, .unset] [(.ref b)] rfl ?_
  refine own_alen C S0 bK (by decide +kernel) ?_
  refine own_seg C S0 [(6, .iconst 1, 1), (7, .ishr, 1), (8, .istore 4, 2), (10, .iload 4, 2), (12, .iconst 3, 1), (13, .imul, 1)] (by decide +kernel) 14 #[.val (.ref b), .val (.int 1), .val (.int 0), .val (.int 0), .val (.int ((2 : Int32) >>> ((1 : Int32) &&& 31))), .unset, .unset, .unset, .unset] [(.int (((2 : Int32) >>> ((1 : Int32) &&& 31)) * (3 : Int32)))] rfl ?_
  show own_Go p e below _ T0 (mkF m 14 #[.val (.ref b), .val (.int 1), .val (.int 0), .val (.int 0), .val (.int 1), .unset, .unset, .unset, .unset] [(.int 3)])
  refine own_newPE C S0 (aty := .byte) (ad := "[B") (by decide) (own_wd hw 16 rfl) (by decide +kernel) (by decide) 3 (by decide) (by decide) (by decide) (by decide) ?_
  intro T461 h463 a464 k465 S462 g466 E467 f468 x469
  have f470 : Arv Z h463 a464 k465 .byte (3 : Int32) ([(.int 0), (.int 0), (.int 0)]) (.int 0) := Arv.pad f468 (pad_rep [] (.int 0) 3)
  refine own_seg C S462 [(16, .astore 5, 2), (18, .iload_n 3, 1), (19, .iload 4, 2)] (by decide +kernel) 21 #[.val (.ref b), .val (.int 1), .val (.int 0), .val (.int 0), .val (.int 1), .val (.ref a464), .unset, .unset, .unset] [(.int 1), (.int 0)] rfl ?_
  refine own_icmp C S462 (q := .ge) (o := 37) (by decide +kernel) 58 (by decide) (by decide) (fun (hq : ¬ (0 : Int32) < (1 : Int32)) => False.elim (by revert hq; decide)) (fun (q471 : (0 : Int32) < (1 : Int32)) => ?_)
  refine own_seg C S462 [(24, .aload_n 0, 1), (25, .iload_n 3, 1)] (by decide +kernel) 26 #[.val (.ref b), .val (.int 1), .val (.int 0), .val (.int 0), .val (.int 1), .val (.ref a464), .unset, .unset, .unset] [(.int 0), (.ref b)] rfl ?_
  have f472 := (X00.ext E467)
  have f473 := (bK.ext E467)
  have f474 : n0 ≤ h463.size := (Nat.le_trans z0 E467.1)
  refine own_callS C S462 (own_wd hw 278 rfl) (own_wd hw 279 rfl) (own_wd hw 242 rfl) (own_wd hw 280 rfl) (by decide) (own_Met.pay (own_gch l Z a0 hw G1 G3 U8 b _ k h463 n0 f474 f472 f473 O2 O4 P5 rG3 OU1 OU2 OA OH OL hk) C 0 (own_wd hw 280 rfl) (own_wd hw 242 rfl) (by decide) (by decide)) (fun _ _ _ q => q.2) [(.ref b), (.int 0)] [] rfl own_pd9 rfl rfl rfl (Nat.le_of_ble_eq_true rfl) (by decide) (by decide) (by decide +kernel) ?_
  rintro T476 h477 v478 L479 S480 ⟨⟨rfl, e475⟩, -⟩
  rw [e475] at S480; clear e475
  show own_Go p e below _ T476 (mkF m 29 #[.val (.ref b), .val (.int 1), .val (.int 0), .val (.int 0), .val (.int 1), .val (.ref a464), .unset, .unset, .unset] [(.int k)])
  refine own_seg C S480 [(29, .istore 6, 2), (31, .iload 6, 2), (33, .sipush 128, 3)] (by decide +kernel) 36 #[.val (.ref b), .val (.int 1), .val (.int 0), .val (.int 0), .val (.int 1), .val (.ref a464), .val (.int k), .unset, .unset] [(.int 128), (.int k)] rfl ?_
  refine own_icmp C S480 (q := .lt) (o := 6) (by decide +kernel) 42 (by decide) (by decide) (fun (hq : k < (128 : Int32)) => False.elim (h1 hq)) (fun (q481 : ¬ k < (128 : Int32)) => ?_)
  refine own_seg C S480 [(39, .goto 19, 3), (58, .iload_n 3, 1), (59, .iload 4, 2)] (by decide +kernel) 61 #[.val (.ref b), .val (.int 1), .val (.int 0), .val (.int 0), .val (.int 1), .val (.ref a464), .val (.int k), .unset, .unset] [(.int 1), (.int 0)] rfl ?_
  refine own_icmp C S480 (q := .ge) (o := 294) (by decide +kernel) 355 (by decide) (by decide) (fun (hq : ¬ (0 : Int32) < (1 : Int32)) => False.elim (by revert hq; decide)) (fun (q482 : (0 : Int32) < (1 : Int32)) => ?_)
  refine own_seg C S480 [(64, .aload_n 0, 1), (65, .iload_n 3, 1), (66, .iinc 3 1, 3)] (by decide +kernel) 69 #[.val (.ref b), .val (.int 1), .val (.int 0), .val (.int ((0 : Int32) + (1 : Int32))), .val (.int 1), .val (.ref a464), .val (.int k), .unset, .unset] [(.int 0), (.ref b)] rfl ?_
  refine own_callS C S480 (own_wd hw 278 rfl) (own_wd hw 279 rfl) (own_wd hw 242 rfl) (own_wd hw 280 rfl) (by decide) (own_Met.pay (own_gch l Z a0 hw G1 G3 U8 b _ k h463 n0 f474 f472 f473 O2 O4 P5 rG3 OU1 OU2 OA OH OL hk) C 0 (own_wd hw 280 rfl) (own_wd hw 242 rfl) (by decide) (by decide)) (fun _ _ _ q => q.2) [(.ref b), (.int 0)] [] rfl own_pd9 rfl rfl rfl (Nat.le_of_ble_eq_true rfl) (by decide) (by decide) (by decide +kernel) ?_
  rintro T484 h485 v486 L487 S488 ⟨⟨rfl, e483⟩, -⟩
  rw [e483] at S488; clear e483
  show own_Go p e below _ T484 (mkF m 72 #[.val (.ref b), .val (.int 1), .val (.int 0), .val (.int ((0 : Int32) + (1 : Int32))), .val (.int 1), .val (.ref a464), .val (.int k), .unset, .unset] [(.int k)])
  refine own_seg C S488 [(72, .istore 6, 2), (74, .iload 6, 2), (76, .sipush 128, 3)] (by decide +kernel) 79 #[.val (.ref b), .val (.int 1), .val (.int 0), .val (.int ((0 : Int32) + (1 : Int32))), .val (.int 1), .val (.ref a464), .val (.int k), .unset, .unset] [(.int 128), (.int k)] rfl ?_
  show own_Go p e below _ T484 (mkF m 79 #[.val (.ref b), .val (.int 1), .val (.int 0), .val (.int 1), .val (.int 1), .val (.ref a464), .val (.int k), .unset, .unset] [(.int 128), (.int k)])
  refine own_icmp C S488 (q := .ge) (o := 16) (by decide +kernel) 95 (by decide) (by decide) (fun (q489 : ¬ k < (128 : Int32)) => ?_) (fun (hq : k < (128 : Int32)) => False.elim (h1 hq))
  refine own_seg C S488 [(95, .iload 6, 2), (97, .sipush 2048, 3)] (by decide +kernel) 100 #[.val (.ref b), .val (.int 1), .val (.int 0), .val (.int 1), .val (.int 1), .val (.ref a464), .val (.int k), .unset, .unset] [(.int 2048), (.int k)] rfl ?_
  refine own_icmp C S488 (q := .ge) (o := 40) (by decide +kernel) 140 (by decide) (by decide) (fun (q490 : ¬ k < (2048 : Int32)) => ?_) (fun (hq : k < (2048 : Int32)) => False.elim (h2 hq))
  refine own_seg C S488 [(140, .iload 6, 2)] (by decide +kernel) 142 #[.val (.ref b), .val (.int 1), .val (.int 0), .val (.int 1), .val (.int 1), .val (.ref a464), .val (.int k), .unset, .unset] [(.int k)] rfl ?_
  refine own_callS C S488 (own_wd hw 281 rfl) (own_wd hw 282 rfl) (own_wd hw 283 rfl) (own_wd hw 284 rfl) (by decide) (own_Met.pay (own_sur l Z a0 hw k h463 n0 f474 hs) C 0 (own_wd hw 284 rfl) (own_wd hw 283 rfl) (by decide) (by decide)) (fun _ _ _ q => q.2) [(.int k)] [] rfl own_pd11 rfl rfl rfl (Nat.le_of_ble_eq_true rfl) (by decide) (by decide) (by decide +kernel) ?_
  rintro T492 h493 v494 L495 S496 ⟨⟨rfl, e491⟩, -⟩
  rw [e491] at S496; clear e491
  show own_Go p e below _ T492 (mkF m 145 #[.val (.ref b), .val (.int 1), .val (.int 0), .val (.int 1), .val (.int 1), .val (.ref a464), .val (.int k), .unset, .unset] [(.int 0)])
  refine own_if C S496 (q := .eq) (o := 153) (by decide +kernel) 298 (by decide) (by decide) (fun (q497 : (0 : Int32) = (0 : Int32)) => ?_) (fun (hq : ¬ (0 : Int32) = (0 : Int32)) => False.elim (absurd hq (by decide)))
  refine own_seg C S496 [(298, .aload 5, 2), (300, .iload_n 2, 1), (301, .iinc 2 1, 3), (304, .sipush 224, 3), (307, .iload 6, 2), (309, .bipush 12, 2), (311, .ishr, 1), (312, .ior, 1), (313, .i2b, 1)] (by decide +kernel) 314 #[.val (.ref b), .val (.int 1), .val (.int ((0 : Int32) + (1 : Int32))), .val (.int 1), .val (.int 1), .val (.ref a464), .val (.int k), .unset, .unset] [(.int (((224 : Int32) ||| (k >>> ((12 : Int32) &&& 31))).toInt8.toInt32)), (.int 0), (.ref a464)] rfl ?_
  show own_Go p e below _ T492 (mkF m 314 #[.val (.ref b), .val (.int 1), .val (.int 1), .val (.int 1), .val (.int 1), .val (.ref a464), .val (.int k), .unset, .unset] [(.int (((224 : Int32) ||| (k >>> ((12 : Int32) &&& 31))).toInt8.toInt32)), (.int 0), (.ref a464)])
  have g498 : n0 ≤ a464 := by rw [g466]; exact z0
  refine own_bastore C S496 f470 ⟨(by decide), (by decide)⟩ 0 rfl (Nat.le_of_ble_eq_true rfl) (((224 : Int32) ||| (k >>> ((12 : Int32) &&& 31))).toInt8.toInt32) (own_i2b2 _) g498 (by decide +kernel) ?_
  intro T499 h501 S500 W502 f503
  have f504 : Arv Z h501 a464 k465 .byte (3 : Int32) ([(.int (((224 : Int32) ||| (k >>> ((12 : Int32) &&& 31))).toInt8.toInt32)), (.int 0), (.int 0)]) (.int 0) := f503
  refine own_seg C S500 [(315, .aload 5, 2), (317, .iload_n 2, 1), (318, .iinc 2 1, 3), (321, .sipush 128, 3), (324, .iload 6, 2), (326, .bipush 6, 2), (328, .ishr, 1), (329, .bipush 63, 2), (331, .iand, 1), (332, .ior, 1), (333, .i2b, 1)] (by decide +kernel) 334 #[.val (.ref b), .val (.int 1), .val (.int ((1 : Int32) + (1 : Int32))), .val (.int 1), .val (.int 1), .val (.ref a464), .val (.int k), .unset, .unset] [(.int (((128 : Int32) ||| ((k >>> ((6 : Int32) &&& 31)) &&& (63 : Int32))).toInt8.toInt32)), (.int 1), (.ref a464)] rfl ?_
  show own_Go p e below _ T499 (mkF m 334 #[.val (.ref b), .val (.int 1), .val (.int 2), .val (.int 1), .val (.int 1), .val (.ref a464), .val (.int k), .unset, .unset] [(.int (((128 : Int32) ||| ((k >>> ((6 : Int32) &&& 31)) &&& (63 : Int32))).toInt8.toInt32)), (.int 1), (.ref a464)])
  refine own_bastore C S500 f504 ⟨(by decide), (by decide)⟩ 1 rfl (Nat.le_of_ble_eq_true rfl) (((128 : Int32) ||| ((k >>> ((6 : Int32) &&& 31)) &&& (63 : Int32))).toInt8.toInt32) (own_i2b2 _) g498 (by decide +kernel) ?_
  intro T505 h507 S506 W508 f509
  have f510 : Arv Z h507 a464 k465 .byte (3 : Int32) ([(.int (((224 : Int32) ||| (k >>> ((12 : Int32) &&& 31))).toInt8.toInt32)), (.int (((128 : Int32) ||| ((k >>> ((6 : Int32) &&& 31)) &&& (63 : Int32))).toInt8.toInt32)), (.int 0)]) (.int 0) := f509
  refine own_seg C S506 [(335, .aload 5, 2), (337, .iload_n 2, 1), (338, .iinc 2 1, 3), (341, .sipush 128, 3), (344, .iload 6, 2), (346, .bipush 63, 2), (348, .iand, 1), (349, .ior, 1), (350, .i2b, 1)] (by decide +kernel) 351 #[.val (.ref b), .val (.int 1), .val (.int ((2 : Int32) + (1 : Int32))), .val (.int 1), .val (.int 1), .val (.ref a464), .val (.int k), .unset, .unset] [(.int (((128 : Int32) ||| (k &&& (63 : Int32))).toInt8.toInt32)), (.int 2), (.ref a464)] rfl ?_
  show own_Go p e below _ T505 (mkF m 351 #[.val (.ref b), .val (.int 1), .val (.int 3), .val (.int 1), .val (.int 1), .val (.ref a464), .val (.int k), .unset, .unset] [(.int (((128 : Int32) ||| (k &&& (63 : Int32))).toInt8.toInt32)), (.int 2), (.ref a464)])
  refine own_bastore C S506 f510 ⟨(by decide), (by decide)⟩ 2 rfl (Nat.le_of_ble_eq_true rfl) (((128 : Int32) ||| (k &&& (63 : Int32))).toInt8.toInt32) (own_i2b2 _) g498 (by decide +kernel) ?_
  intro T511 h513 S512 W514 f515
  have f516 : Arv Z h513 a464 k465 .byte (3 : Int32) ([(.int (((224 : Int32) ||| (k >>> ((12 : Int32) &&& 31))).toInt8.toInt32)), (.int (((128 : Int32) ||| ((k >>> ((6 : Int32) &&& 31)) &&& (63 : Int32))).toInt8.toInt32)), (.int (((128 : Int32) ||| (k &&& (63 : Int32))).toInt8.toInt32))]) (.int 0) := f515
  refine own_seg C S512 [(352, .goto (-294), 3), (58, .iload_n 3, 1), (59, .iload 4, 2)] (by decide +kernel) 61 #[.val (.ref b), .val (.int 1), .val (.int 3), .val (.int 1), .val (.int 1), .val (.ref a464), .val (.int k), .unset, .unset] [(.int 1), (.int 1)] rfl ?_
  refine own_icmp C S512 (q := .ge) (o := 294) (by decide +kernel) 355 (by decide) (by decide) (fun (q517 : ¬ (1 : Int32) < (1 : Int32)) => ?_) (fun (hq : (1 : Int32) < (1 : Int32)) => False.elim (by revert hq; decide))
  refine own_seg C S512 [(355, .iload_n 2, 1), (356, .aload 5, 2)] (by decide +kernel) 358 #[.val (.ref b), .val (.int 1), .val (.int 3), .val (.int 1), .val (.int 1), .val (.ref a464), .val (.int k), .unset, .unset] [(.ref a464), (.int 3)] rfl ?_
  refine own_alen C S512 f516 (by decide +kernel) ?_
  refine own_icmp C S512 (q := .ne) (o := 6) (by decide +kernel) 365 (by decide) (by decide) (fun (hq : ¬ (3 : Int32) = (3 : Int32)) => False.elim (by revert hq; decide)) (fun (q518 : (3 : Int32) = (3 : Int32)) => ?_)
  refine own_seg C S512 [(362, .aload 5, 2)] (by decide +kernel) 364 #[.val (.ref b), .val (.int 1), .val (.int 3), .val (.int 1), .val (.int 1), .val (.ref a464), .val (.int k), .unset, .unset] [(.ref a464)] rfl ?_
  refine own_retA C S512 rfl rfl (by decide +kernel) (by decide) (by decide) ?_
  have o519 : h0.size ≤ a464 := by rw [g466]; exact (Nat.le_refl _)
  have f520 := (Exa.wr W514 (Exa.wr W508 (Exa.wr W502 x469)))
  exact ⟨a464, k465, rfl, o519, (((((Keep.refl _ _).ext E467).wr W502 (Or.inr o519)).wr W508 (Or.inr o519)).wr W514 (Or.inr o519)), f516, f520⟩
theorem own_cp0 (l : Launch) (Z : State) (a0 : Array Value) (hw : ∀ d ∈ tables_1, d.before a0 Z = true) (b : Addr) (bk : ClassId) (h0 : Heap) (n0 : Nat) (z0 : n0 ≤ h0.size) (bK : Arv Z h0 b bk .byte (0 : Int32) ([]) (.int 0)) :
    own_Met l Z (⟨"java/lang/StringCoding", "countPositives", "([BII)I"⟩ : MethodName) jdk_123_method_3_code 5 (some .int) ({ frames := 0, cells := 0, slots := 0, locals := 0 } : Room) n0 #[(.ref b), (.int 0), (.int 0)] h0 (fun v h => v = some (.int 0) ∧ h = h0) := by
  refine own_met (by decide +kernel) #[.val (.ref b), .val (.int 0), .val (.int 0), .unset, .unset] (fun m => by first | (simp [entryFrame, mkF, argsToLocals, Value.category]; done) | rfl) ?_
  intro p e s m below meth c T0 C S0
  refine own_seg C S0 [(0, .iload_n 1, 1), (1, .iload_n 2, 1), (2, .iadd, 1), (3, .istore_n 3, 1), (4, .iload_n 1, 1), (5, .istore 4, 2), (7, .iload 4, 2), (9, .iload_n 3, 1)] (by decide +kernel) 10 #[.val (.ref b), .val (.int 0), .val (.int 0), .val (.int ((0 : Int32) + (0 : Int32))), .val (.int 0)] [(.int ((0 : Int32) + (0 : Int32))), (.int 0)] rfl ?_
  show own_Go p e below _ T0 (mkF m 10 #[.val (.ref b), .val (.int 0), .val (.int 0), .val (.int 0), .val (.int 0)] [(.int 0), (.int 0)])
  refine own_icmp C S0 (q := .ge) (o := 21) (by decide +kernel) 31 (by decide) (by decide) (fun (q521 : ¬ (0 : Int32) < (0 : Int32)) => ?_) (fun (hq : (0 : Int32) < (0 : Int32)) => False.elim (by revert hq; decide))
  refine own_seg C S0 [(31, .iload_n 2, 1)] (by decide +kernel) 32 #[.val (.ref b), .val (.int 0), .val (.int 0), .val (.int 0), .val (.int 0)] [(.int 0)] rfl ?_
  refine own_retI C S0 (by decide +kernel) (by decide) (by decide) ?_
  exact ⟨rfl, rfl⟩
theorem own_pd15 : parseMethodDescriptor "([BII)I" = some ⟨[(.array .byte), .int, .int], (some .int)⟩ := by decide +kernel
theorem own_hn0 (l : Launch) (Z : State) (a0 : Array Value) (hw : ∀ d ∈ tables_1, d.before a0 Z = true) (b : Addr) (bk : ClassId) (h0 : Heap) (n0 : Nat) (z0 : n0 ≤ h0.size) (bK : Arv Z h0 b bk .byte (0 : Int32) ([]) (.int 0)) :
    own_Met l Z (⟨"java/lang/StringCoding", "hasNegatives", "([BII)Z"⟩ : MethodName) jdk_123_method_2_code 3 (some .boolean) ({ frames := 1, cells := 0, slots := 0, locals := 16 } : Room) n0 #[(.ref b), (.int 0), (.int 0)] h0 (fun v h => v = some (.int 0) ∧ h = h0) := by
  refine own_met (by decide +kernel) #[.val (.ref b), .val (.int 0), .val (.int 0)] (fun m => by first | (simp [entryFrame, mkF, argsToLocals, Value.category]; done) | rfl) ?_
  intro p e s m below meth c T0 C S0
  refine own_seg C S0 [(0, .aload_n 0, 1), (1, .iload_n 1, 1), (2, .iload_n 2, 1)] (by decide +kernel) 3 #[.val (.ref b), .val (.int 0), .val (.int 0)] [(.int 0), (.int 0), (.ref b)] rfl ?_
  refine own_callS C S0 (own_wd hw 79 rfl) (own_wd hw 80 rfl) (own_wd hw 77 rfl) (own_wd hw 81 rfl) (by decide) (own_Met.pay (own_cp0 l Z a0 hw b _ h0 n0 z0 bK) C 0 (own_wd hw 81 rfl) (own_wd hw 77 rfl) (by decide) (by decide)) (fun _ _ _ q => q.2) [(.ref b), (.int 0), (.int 0)] [] rfl own_pd15 rfl rfl rfl (Nat.le_of_ble_eq_true rfl) (by decide) (by decide) (by decide +kernel) ?_
  rintro T523 h524 v525 L526 S527 ⟨⟨rfl, e522⟩, -⟩
  rw [e522] at S527; clear e522
  show own_Go p e below _ T523 (mkF m 6 #[.val (.ref b), .val (.int 0), .val (.int 0)] [(.int 0)])
  refine own_seg C S527 [(6, .iload_n 2, 1)] (by decide +kernel) 7 #[.val (.ref b), .val (.int 0), .val (.int 0)] [(.int 0), (.int 0)] rfl ?_
  refine own_icmp C S527 (q := .eq) (o := 7) (by decide +kernel) 14 (by decide) (by decide) (fun (q528 : (0 : Int32) = (0 : Int32)) => ?_) (fun (hq : ¬ (0 : Int32) = (0 : Int32)) => False.elim (by revert hq; decide))
  refine own_seg C S527 [(14, .iconst 0, 1)] (by decide +kernel) 15 #[.val (.ref b), .val (.int 0), .val (.int 0)] [(.int 0)] rfl ?_
  refine own_retZ C S527 (by decide +kernel) (by decide) (by decide) (by decide) ?_
  exact ⟨rfl, rfl⟩
theorem own_cp1 (l : Launch) (Z : State) (a0 : Array Value) (hw : ∀ d ∈ tables_1, d.before a0 Z = true) (b : Addr) (bk : ClassId) (k : Int32) (h0 : Heap) (n0 : Nat) (z0 : n0 ≤ h0.size) (bK : Arv Z h0 b bk .byte (1 : Int32) ([(.int k.toInt8.toInt32)]) (.int 0)) (hb : ¬ k.toInt8.toInt32 < 0) :
    own_Met l Z (⟨"java/lang/StringCoding", "countPositives", "([BII)I"⟩ : MethodName) jdk_123_method_3_code 5 (some .int) ({ frames := 0, cells := 0, slots := 0, locals := 0 } : Room) n0 #[(.ref b), (.int 0), (.int 1)] h0 (fun v h => v = some (.int 1) ∧ h = h0) := by
  refine own_met (by decide +kernel) #[.val (.ref b), .val (.int 0), .val (.int 1), .unset, .unset] (fun m => by first | (simp [entryFrame, mkF, argsToLocals, Value.category]; done) | rfl) ?_
  intro p e s m below meth c T0 C S0
  refine own_seg C S0 [(0, .iload_n 1, 1), (1, .iload_n 2, 1), (2, .iadd, 1), (3, .istore_n 3, 1), (4, .iload_n 1, 1), (5, .istore 4, 2), (7, .iload 4, 2), (9, .iload_n 3, 1)] (by decide +kernel) 10 #[.val (.ref b), .val (.int 0), .val (.int 1), .val (.int ((0 : Int32) + (1 : Int32))), .val (.int 0)] [(.int ((0 : Int32) + (1 : Int32))), (.int 0)] rfl ?_
  show own_Go p e below _ T0 (mkF m 10 #[.val (.ref b), .val (.int 0), .val (.int 1), .val (.int 1), .val (.int 0)] [(.int 1), (.int 0)])
  refine own_icmp C S0 (q := .ge) (o := 21) (by decide +kernel) 31 (by decide) (by decide) (fun (hq : ¬ (0 : Int32) < (1 : Int32)) => False.elim (by revert hq; decide)) (fun (q529 : (0 : Int32) < (1 : Int32)) => ?_)
  refine own_seg C S0 [(13, .aload_n 0, 1), (14, .iload 4, 2)] (by decide +kernel) 16 #[.val (.ref b), .val (.int 0), .val (.int 1), .val (.int 1), .val (.int 0)] [(.int 0), (.ref b)] rfl ?_
  refine own_baload C S0 bK ⟨(by decide), (by decide)⟩ (.int k.toInt8.toInt32) rfl (by decide +kernel) ?_
  refine own_if C S0 (q := .ge) (o := 8) (by decide +kernel) 25 (by decide) (by decide) (fun (q530 : ¬ k.toInt8.toInt32 < (0 : Int32)) => ?_) (fun (hq : k.toInt8.toInt32 < (0 : Int32)) => False.elim (hb hq))
  refine own_seg C S0 [(25, .iinc 4 1, 3), (28, .goto (-21), 3), (7, .iload 4, 2), (9, .iload_n 3, 1)] (by decide +kernel) 10 #[.val (.ref b), .val (.int 0), .val (.int 1), .val (.int 1), .val (.int ((0 : Int32) + (1 : Int32)))] [(.int 1), (.int ((0 : Int32) + (1 : Int32)))] rfl ?_
  show own_Go p e below _ T0 (mkF m 10 #[.val (.ref b), .val (.int 0), .val (.int 1), .val (.int 1), .val (.int 1)] [(.int 1), (.int 1)])
  refine own_icmp C S0 (q := .ge) (o := 21) (by decide +kernel) 31 (by decide) (by decide) (fun (q531 : ¬ (1 : Int32) < (1 : Int32)) => ?_) (fun (hq : (1 : Int32) < (1 : Int32)) => False.elim (by revert hq; decide))
  refine own_seg C S0 [(31, .iload_n 2, 1)] (by decide +kernel) 32 #[.val (.ref b), .val (.int 0), .val (.int 1), .val (.int 1), .val (.int 1)] [(.int 1)] rfl ?_
  refine own_retI C S0 (by decide +kernel) (by decide) (by decide) ?_
  exact ⟨rfl, rfl⟩
theorem own_hn1 (l : Launch) (Z : State) (a0 : Array Value) (hw : ∀ d ∈ tables_1, d.before a0 Z = true) (b : Addr) (bk : ClassId) (k : Int32) (h0 : Heap) (n0 : Nat) (z0 : n0 ≤ h0.size) (bK : Arv Z h0 b bk .byte (1 : Int32) ([(.int k.toInt8.toInt32)]) (.int 0)) (hb : ¬ k.toInt8.toInt32 < 0) :
    own_Met l Z (⟨"java/lang/StringCoding", "hasNegatives", "([BII)Z"⟩ : MethodName) jdk_123_method_2_code 3 (some .boolean) ({ frames := 1, cells := 0, slots := 0, locals := 16 } : Room) n0 #[(.ref b), (.int 0), (.int 1)] h0 (fun v h => v = some (.int 0) ∧ h = h0) := by
  refine own_met (by decide +kernel) #[.val (.ref b), .val (.int 0), .val (.int 1)] (fun m => by first | (simp [entryFrame, mkF, argsToLocals, Value.category]; done) | rfl) ?_
  intro p e s m below meth c T0 C S0
  refine own_seg C S0 [(0, .aload_n 0, 1), (1, .iload_n 1, 1), (2, .iload_n 2, 1)] (by decide +kernel) 3 #[.val (.ref b), .val (.int 0), .val (.int 1)] [(.int 1), (.int 0), (.ref b)] rfl ?_
  refine own_callS C S0 (own_wd hw 79 rfl) (own_wd hw 80 rfl) (own_wd hw 77 rfl) (own_wd hw 81 rfl) (by decide) (own_Met.pay (own_cp1 l Z a0 hw b _ k h0 n0 z0 bK hb) C 0 (own_wd hw 81 rfl) (own_wd hw 77 rfl) (by decide) (by decide)) (fun _ _ _ q => q.2) [(.ref b), (.int 0), (.int 1)] [] rfl own_pd15 rfl rfl rfl (Nat.le_of_ble_eq_true rfl) (by decide) (by decide) (by decide +kernel) ?_
  rintro T533 h534 v535 L536 S537 ⟨⟨rfl, e532⟩, -⟩
  rw [e532] at S537; clear e532
  show own_Go p e below _ T533 (mkF m 6 #[.val (.ref b), .val (.int 0), .val (.int 1)] [(.int 1)])
  refine own_seg C S537 [(6, .iload_n 2, 1)] (by decide +kernel) 7 #[.val (.ref b), .val (.int 0), .val (.int 1)] [(.int 1), (.int 1)] rfl ?_
  refine own_icmp C S537 (q := .eq) (o := 7) (by decide +kernel) 14 (by decide) (by decide) (fun (q538 : (1 : Int32) = (1 : Int32)) => ?_) (fun (hq : ¬ (1 : Int32) = (1 : Int32)) => False.elim (by revert hq; decide))
  refine own_seg C S537 [(14, .iconst 0, 1)] (by decide +kernel) 15 #[.val (.ref b), .val (.int 0), .val (.int 1)] [(.int 0)] rfl ?_
  refine own_retZ C S537 (by decide +kernel) (by decide) (by decide) (by decide) ?_
  exact ⟨rfl, rfl⟩
theorem own_cp2 (l : Launch) (Z : State) (a0 : Array Value) (hw : ∀ d ∈ tables_1, d.before a0 Z = true) (b : Addr) (bk : ClassId) (k : Int32) (h0 : Heap) (n0 : Nat) (z0 : n0 ≤ h0.size) (bK : Arv Z h0 b bk .byte (1 : Int32) ([(.int k.toInt8.toInt32)]) (.int 0)) (hb : k.toInt8.toInt32 < 0) :
    own_Met l Z (⟨"java/lang/StringCoding", "countPositives", "([BII)I"⟩ : MethodName) jdk_123_method_3_code 5 (some .int) ({ frames := 0, cells := 0, slots := 0, locals := 0 } : Room) n0 #[(.ref b), (.int 0), (.int 1)] h0 (fun v h => v = some (.int 0) ∧ h = h0) := by
  refine own_met (by decide +kernel) #[.val (.ref b), .val (.int 0), .val (.int 1), .unset, .unset] (fun m => by first | (simp [entryFrame, mkF, argsToLocals, Value.category]; done) | rfl) ?_
  intro p e s m below meth c T0 C S0
  refine own_seg C S0 [(0, .iload_n 1, 1), (1, .iload_n 2, 1), (2, .iadd, 1), (3, .istore_n 3, 1), (4, .iload_n 1, 1), (5, .istore 4, 2), (7, .iload 4, 2), (9, .iload_n 3, 1)] (by decide +kernel) 10 #[.val (.ref b), .val (.int 0), .val (.int 1), .val (.int ((0 : Int32) + (1 : Int32))), .val (.int 0)] [(.int ((0 : Int32) + (1 : Int32))), (.int 0)] rfl ?_
  show own_Go p e below _ T0 (mkF m 10 #[.val (.ref b), .val (.int 0), .val (.int 1), .val (.int 1), .val (.int 0)] [(.int 1), (.int 0)])
  refine own_icmp C S0 (q := .ge) (o := 21) (by decide +kernel) 31 (by decide) (by decide) (fun (hq : ¬ (0 : Int32) < (1 : Int32)) => False.elim (by revert hq; decide)) (fun (q539 : (0 : Int32) < (1 : Int32)) => ?_)
  refine own_seg C S0 [(13, .aload_n 0, 1), (14, .iload 4, 2)] (by decide +kernel) 16 #[.val (.ref b), .val (.int 0), .val (.int 1), .val (.int 1), .val (.int 0)] [(.int 0), (.ref b)] rfl ?_
  refine own_baload C S0 bK ⟨(by decide), (by decide)⟩ (.int k.toInt8.toInt32) rfl (by decide +kernel) ?_
  refine own_if C S0 (q := .ge) (o := 8) (by decide +kernel) 25 (by decide) (by decide) (fun (hq : ¬ k.toInt8.toInt32 < (0 : Int32)) => False.elim (hq hb)) (fun (q540 : k.toInt8.toInt32 < (0 : Int32)) => ?_)
  refine own_seg C S0 [(20, .iload 4, 2), (22, .iload_n 1, 1), (23, .isub, 1)] (by decide +kernel) 24 #[.val (.ref b), .val (.int 0), .val (.int 1), .val (.int 1), .val (.int 0)] [(.int ((0 : Int32) - (0 : Int32)))] rfl ?_
  refine own_retI C S0 (by decide +kernel) (by decide) (by decide) ?_
  exact ⟨rfl, rfl⟩
theorem own_hn2 (l : Launch) (Z : State) (a0 : Array Value) (hw : ∀ d ∈ tables_1, d.before a0 Z = true) (b : Addr) (bk : ClassId) (k : Int32) (h0 : Heap) (n0 : Nat) (z0 : n0 ≤ h0.size) (bK : Arv Z h0 b bk .byte (1 : Int32) ([(.int k.toInt8.toInt32)]) (.int 0)) (hb : k.toInt8.toInt32 < 0) :
    own_Met l Z (⟨"java/lang/StringCoding", "hasNegatives", "([BII)Z"⟩ : MethodName) jdk_123_method_2_code 3 (some .boolean) ({ frames := 1, cells := 0, slots := 0, locals := 16 } : Room) n0 #[(.ref b), (.int 0), (.int 1)] h0 (fun v h => v = some (.int 1) ∧ h = h0) := by
  refine own_met (by decide +kernel) #[.val (.ref b), .val (.int 0), .val (.int 1)] (fun m => by first | (simp [entryFrame, mkF, argsToLocals, Value.category]; done) | rfl) ?_
  intro p e s m below meth c T0 C S0
  refine own_seg C S0 [(0, .aload_n 0, 1), (1, .iload_n 1, 1), (2, .iload_n 2, 1)] (by decide +kernel) 3 #[.val (.ref b), .val (.int 0), .val (.int 1)] [(.int 1), (.int 0), (.ref b)] rfl ?_
  refine own_callS C S0 (own_wd hw 79 rfl) (own_wd hw 80 rfl) (own_wd hw 77 rfl) (own_wd hw 81 rfl) (by decide) (own_Met.pay (own_cp2 l Z a0 hw b _ k h0 n0 z0 bK hb) C 0 (own_wd hw 81 rfl) (own_wd hw 77 rfl) (by decide) (by decide)) (fun _ _ _ q => q.2) [(.ref b), (.int 0), (.int 1)] [] rfl own_pd15 rfl rfl rfl (Nat.le_of_ble_eq_true rfl) (by decide) (by decide) (by decide +kernel) ?_
  rintro T542 h543 v544 L545 S546 ⟨⟨rfl, e541⟩, -⟩
  rw [e541] at S546; clear e541
  show own_Go p e below _ T542 (mkF m 6 #[.val (.ref b), .val (.int 0), .val (.int 1)] [(.int 0)])
  refine own_seg C S546 [(6, .iload_n 2, 1)] (by decide +kernel) 7 #[.val (.ref b), .val (.int 0), .val (.int 1)] [(.int 1), (.int 0)] rfl ?_
  refine own_icmp C S546 (q := .eq) (o := 7) (by decide +kernel) 14 (by decide) (by decide) (fun (hq : (0 : Int32) = (1 : Int32)) => False.elim (by revert hq; decide)) (fun (q547 : ¬ (0 : Int32) = (1 : Int32)) => ?_)
  refine own_seg C S546 [(10, .iconst 1, 1), (11, .goto 4, 3)] (by decide +kernel) 15 #[.val (.ref b), .val (.int 0), .val (.int 1)] [(.int 1)] rfl ?_
  refine own_retZ C S546 (by decide +kernel) (by decide) (by decide) (by decide) ?_
  exact ⟨rfl, rfl⟩
theorem own_nbl (l : Launch) (Z : State) (a0 : Array Value) (hw : ∀ d ∈ tables_1, d.before a0 Z = true) (h0 : Heap) (n0 : Nat) (z0 : n0 ≤ h0.size) :
    own_Met l Z (⟨"java/lang/StringUTF16", "newBytesLength", "(I)I"⟩ : MethodName) jdk_52_method_3_code 1 (some .int) ({ frames := 0, cells := 0, slots := 0, locals := 0 } : Room) n0 #[(.int 1)] h0 (fun v h => v = some (.int 2) ∧ h = h0) := by
  refine own_met (by decide +kernel) #[.val (.int 1)] (fun m => by first | (simp [entryFrame, mkF, argsToLocals, Value.category]; done) | rfl) ?_
  intro p e s m below meth c T0 C S0
  refine own_seg C S0 [(0, .iload_n 0, 1)] (by decide +kernel) 1 #[.val (.int 1)] [(.int 1)] rfl ?_
  refine own_if C S0 (q := .ge) (o := 11) (by decide +kernel) 12 (by decide) (by decide) (fun (q548 : ¬ (1 : Int32) < (0 : Int32)) => ?_) (fun (hq : (1 : Int32) < (0 : Int32)) => False.elim (by revert hq; decide))
  refine own_seg C S0 [(12, .iload_n 0, 1)] (by decide +kernel) 13 #[.val (.int 1)] [(.int 1)] rfl ?_
  refine own_ldc C S0 (own_wd hw 293 rfl) (by decide +kernel) ?_
  show own_Go p e below _ T0 (mkF m 15 #[.val (.int 1)] [(.int 1073741823), (.int 1)])
  refine own_icmp C S0 (q := .lt) (o := 40) (by decide +kernel) 55 (by decide) (by decide) (fun (q549 : (1 : Int32) < (1073741823 : Int32)) => ?_) (fun (hq : ¬ (1 : Int32) < (1073741823 : Int32)) => False.elim (by revert hq; decide))
  refine own_seg C S0 [(55, .iload_n 0, 1), (56, .iconst 1, 1), (57, .ishl, 1)] (by decide +kernel) 58 #[.val (.int 1)] [(.int ((1 : Int32) <<< ((1 : Int32) &&& 31)))] rfl ?_
  refine own_retI C S0 (by decide +kernel) (by decide) (by decide) ?_
  exact ⟨rfl, rfl⟩
theorem own_pd16 : parseMethodDescriptor "(I)I" = some ⟨[.int], (some .int)⟩ := by decide +kernel
theorem own_nbf (l : Launch) (Z : State) (a0 : Array Value) (hw : ∀ d ∈ tables_1, d.before a0 Z = true) (h0 : Heap) (n0 : Nat) (z0 : n0 ≤ h0.size) :
    own_Met l Z (⟨"java/lang/StringUTF16", "newBytesFor", "(I)[B"⟩ : MethodName) jdk_52_method_2_code 1 (some (.array .byte)) ({ frames := 1, cells := 1, slots := 2, locals := 12 } : Room) n0 #[(.int 1)] h0 (fun v h => ∃ r : Addr, ∃ rk : ClassId, v = some (.ref r) ∧ h0.size ≤ r ∧ Keep h0 h [] ∧ Arv Z h r rk .byte (2 : Int32) ([(.int 0), (.int 0)]) (.int 0) ∧ Exa Z h r "[B") := by
  refine own_met (by decide +kernel) #[.val (.int 1)] (fun m => by first | (simp [entryFrame, mkF, argsToLocals, Value.category]; done) | rfl) ?_
  intro p e s m below meth c T0 C S0
  refine own_seg C S0 [(0, .iload_n 0, 1)] (by decide +kernel) 1 #[.val (.int 1)] [(.int 1)] rfl ?_
  refine own_callS C S0 (own_wd hw 290 rfl) (own_wd hw 291 rfl) (own_wd hw 242 rfl) (own_wd hw 292 rfl) (by decide) (own_Met.pay (own_nbl l Z a0 hw  h0 n0 z0) C 0 (own_wd hw 292 rfl) (own_wd hw 242 rfl) (by decide) (by decide)) (fun _ _ _ q => q.2) [(.int 1)] [] rfl own_pd16 rfl rfl rfl (Nat.le_of_ble_eq_true rfl) (by decide) (by decide) (by decide +kernel) ?_
  rintro T551 h552 v553 L554 S555 ⟨⟨rfl, e550⟩, -⟩
  rw [e550] at S555; clear e550
  show own_Go p e below _ T551 (mkF m 4 #[.val (.int 1)] [(.int 2)])
  refine own_newPE C S555 (aty := .byte) (ad := "[B") (by decide) (own_wd hw 16 rfl) (by decide +kernel) (by decide) 2 (by decide) (by decide) (by decide) (by decide) ?_
  intro T556 h558 a559 k560 S557 g561 E562 f563 x564
  have f565 : Arv Z h558 a559 k560 .byte (2 : Int32) ([(.int 0), (.int 0)]) (.int 0) := Arv.pad f563 (pad_rep [] (.int 0) 2)
  refine own_retA C S557 rfl rfl (by decide +kernel) (by decide) (by decide) ?_
  have o566 : h0.size ≤ a559 := by rw [g561]; exact (Nat.le_refl _)
  exact ⟨a559, k560, rfl, o566, ((Keep.refl _ _).ext E562), f565, x564⟩
theorem own_pd17 : parseMethodDescriptor "([BII)Z" = some ⟨[(.array .byte), .int, .int], (some .boolean)⟩ := by decide +kernel
theorem own_e80 (l : Launch) (Z : State) (a0 : Array Value) (hw : ∀ d ∈ tables_1, d.before a0 Z = true) (G1 : Int32) (G3 : Value) (U8 : Addr) (b : Addr) (bk : ClassId) (h0 : Heap) (n0 : Nat) (z0 : n0 ≤ h0.size) (X00 : Old Z n0 h0) (bK : Arv Z h0 b bk .byte (0 : Int32) ([]) (.int 0)) (bE : Exa Z h0 b "[B") (O2 : Sta Z Z.heap "java/lang/String" "COMPACT_STRINGS" "Z" (.int G1)) (O4 : Sta Z Z.heap "jdk/internal/util/Preconditions" "SIOOBE_FORMATTER" "Ljava/util/function/BiFunction;" G3) (P5 : ¬ G1 = (0 : Int32)) (rG3 : G3.isRef = true) (OU1 : Sta Z Z.heap "java/nio/charset/StandardCharsets" "UTF_8" "Ljava/nio/charset/Charset;" (.ref U8)) (OU2 : Sta Z Z.heap "sun/nio/cs/UTF_8" "INSTANCE" "Lsun/nio/cs/UTF_8;" (.ref U8)) (OA : Sta Z Z.heap "java/lang/StringUTF16" "$assertionsDisabled" "Z" (.int 1)) (OH : Sta Z Z.heap "java/lang/StringUTF16" "HI_BYTE_SHIFT" "I" (.int 0)) (OL : Sta Z Z.heap "java/lang/StringUTF16" "LO_BYTE_SHIFT" "I" (.int 8)) :
    own_Met l Z (⟨"java/lang/String", "encodeUTF8", "(B[BZ)[B"⟩ : MethodName) jdk_42_method_46_code 9 (some (.array .byte)) ({ frames := 2, cells := 1, slots := 0, locals := 30 } : Room) n0 #[(.int 0), (.ref b), (.int 1)] h0 (fun v h => ∃ r : Addr, ∃ rk : ClassId, v = some (.ref r) ∧ h0.size ≤ r ∧ Keep h0 h [] ∧ Arv Z h r rk .byte (0 : Int32) ([]) (.int 0) ∧ Exa Z h r "[B") := by
  refine own_met (by decide +kernel) #[.val (.int 0), .val (.ref b), .val (.int 1), .unset, .unset, .unset, .unset, .unset, .unset] (fun m => by first | (simp [entryFrame, mkF, argsToLocals, Value.category]; done) | rfl) ?_
  intro p e s m below meth c T0 C S0
  refine own_seg C S0 [(0, .iload_n 0, 1), (1, .iconst 1, 1)] (by decide +kernel) 2 #[.val (.int 0), .val (.ref b), .val (.int 1), .unset, .unset, .unset, .unset, .unset, .unset] [(.int 1), (.int 0)] rfl ?_
  refine own_icmp C S0 (q := .ne) (o := 9) (by decide +kernel) 11 (by decide) (by decide) (fun (q567 : ¬ (0 : Int32) = (1 : Int32)) => ?_) (fun (hq : (0 : Int32) = (1 : Int32)) => False.elim (by revert hq; decide))
  refine own_seg C S0 [(11, .aload_n 1, 1), (12, .iconst 0, 1), (13, .aload_n 1, 1)] (by decide +kernel) 14 #[.val (.int 0), .val (.ref b), .val (.int 1), .unset, .unset, .unset, .unset, .unset, .unset] [(.ref b), (.int 0), (.ref b)] rfl ?_
  refine own_alen C S0 bK (by decide +kernel) ?_
  refine own_callS C S0 (own_wd hw 75 rfl) (own_wd hw 76 rfl) (own_wd hw 77 rfl) (own_wd hw 78 rfl) (by decide) (own_Met.pay (own_hn0 l Z a0 hw b _ h0 n0 z0 bK) C 0 (own_wd hw 78 rfl) (own_wd hw 77 rfl) (by decide) (by decide)) (fun _ _ _ q => q.2) [(.ref b), (.int 0), (.int 0)] [] rfl own_pd17 rfl rfl rfl (Nat.le_of_ble_eq_true rfl) (by decide) (by decide) (by decide +kernel) ?_
  rintro T569 h570 v571 L572 S573 ⟨⟨rfl, e568⟩, -⟩
  rw [e568] at S573; clear e568
  show own_Go p e below _ T569 (mkF m 18 #[.val (.int 0), .val (.ref b), .val (.int 1), .unset, .unset, .unset, .unset, .unset, .unset] [(.int 0)])
  refine own_if C S573 (q := .ne) (o := 11) (by decide +kernel) 29 (by decide) (by decide) (fun (hq : ¬ (0 : Int32) = (0 : Int32)) => False.elim (by revert hq; decide)) (fun (q574 : (0 : Int32) = (0 : Int32)) => ?_)
  refine own_seg C S573 [(21, .aload_n 1, 1)] (by decide +kernel) 22 #[.val (.int 0), .val (.ref b), .val (.int 1), .unset, .unset, .unset, .unset, .unset, .unset] [(.ref b)] rfl ?_
  refine own_clone C S573 (own_wd hw 82 rfl) (own_wd hw 83 rfl) (own_wd hw 87 rfl) (own_wd hw 85 rfl) (own_wd hw 86 rfl) (own_wd hw 88 rfl) bK bE rfl (by decide +kernel) (by decide) 0 0 (Nat.le_of_ble_eq_true rfl) (by decide) (by decide) (by decide) (by decide) ?_
  intro T575 h577 a578 S576 g579 E580 f581 x582
  refine own_cast C S576 (own_wd hw 89 rfl) (Ins.self x582) (by decide +kernel) ?_
  intro T583 S584
  refine own_retA C S584 rfl rfl (by decide +kernel) (by decide) (by decide) ?_
  have o585 : h0.size ≤ a578 := by rw [g579]; exact (Nat.le_refl _)
  exact ⟨a578, bk, rfl, o585, ((Keep.refl _ _).ext E580), f581, x582⟩
theorem own_pd18 : parseMethodDescriptor "(B[BZ)[B" = some ⟨[.byte, (.array .byte), .boolean], (some (.array .byte))⟩ := by decide +kernel
theorem own_en0 (l : Launch) (Z : State) (a0 : Array Value) (hw : ∀ d ∈ tables_1, d.before a0 Z = true) (G1 : Int32) (G3 : Value) (U8 : Addr) (b : Addr) (bk : ClassId) (h0 : Heap) (n0 : Nat) (z0 : n0 ≤ h0.size) (X00 : Old Z n0 h0) (bK : Arv Z h0 b bk .byte (0 : Int32) ([]) (.int 0)) (bE : Exa Z h0 b "[B") (O2 : Sta Z Z.heap "java/lang/String" "COMPACT_STRINGS" "Z" (.int G1)) (O4 : Sta Z Z.heap "jdk/internal/util/Preconditions" "SIOOBE_FORMATTER" "Ljava/util/function/BiFunction;" G3) (P5 : ¬ G1 = (0 : Int32)) (rG3 : G3.isRef = true) (OU1 : Sta Z Z.heap "java/nio/charset/StandardCharsets" "UTF_8" "Ljava/nio/charset/Charset;" (.ref U8)) (OU2 : Sta Z Z.heap "sun/nio/cs/UTF_8" "INSTANCE" "Lsun/nio/cs/UTF_8;" (.ref U8)) (OA : Sta Z Z.heap "java/lang/StringUTF16" "$assertionsDisabled" "Z" (.int 1)) (OH : Sta Z Z.heap "java/lang/StringUTF16" "HI_BYTE_SHIFT" "I" (.int 0)) (OL : Sta Z Z.heap "java/lang/StringUTF16" "LO_BYTE_SHIFT" "I" (.int 8)) :
    own_Met l Z (⟨"java/lang/String", "encode", "(Ljava/nio/charset/Charset;B[B)[B"⟩ : MethodName) jdk_42_method_18_code 3 (some (.array .byte)) ({ frames := 3, cells := 1, slots := 0, locals := 50 } : Room) n0 #[(.ref U8), (.int 0), (.ref b)] h0 (fun v h => ∃ r : Addr, ∃ rk : ClassId, v = some (.ref r) ∧ h0.size ≤ r ∧ Keep h0 h [] ∧ Arv Z h r rk .byte (0 : Int32) ([]) (.int 0) ∧ Exa Z h r "[B") := by
  refine own_met (by decide +kernel) #[.val (.ref U8), .val (.int 0), .val (.ref b)] (fun m => by first | (simp [entryFrame, mkF, argsToLocals, Value.category]; done) | rfl) ?_
  intro p e s m below meth c T0 C S0
  refine own_seg C S0 [(0, .aload_n 0, 1)] (by decide +kernel) 1 #[.val (.ref U8), .val (.int 0), .val (.ref b)] [(.ref U8)] rfl ?_
  refine own_getS C S0 (own_wd hw 70 rfl) Via.refl (OU2.ext X00.2) (by decide +kernel) ?_
  intro T586 S587
  refine own_acmp C S587 (q := .ne) (o := 10) rfl rfl (by decide +kernel) 14 (by decide) (by decide) (fun (hq : ¬ ((.ref U8) : Value) = (.ref U8)) => False.elim (hq rfl)) (fun (q588 : ((.ref U8) : Value) = (.ref U8)) => ?_)
  refine own_seg C S587 [(7, .iload_n 1, 1), (8, .aload_n 2, 1), (9, .iconst 1, 1)] (by decide +kernel) 10 #[.val (.ref U8), .val (.int 0), .val (.ref b)] [(.int 1), (.ref b), (.int 0)] rfl ?_
  refine own_callS C S587 (own_wd hw 72 rfl) (own_wd hw 73 rfl) (own_wd hw 4 rfl) (own_wd hw 74 rfl) (by decide) (own_Met.pay (own_e80 l Z a0 hw G1 G3 U8 b _ h0 n0 z0 X00 bK bE O2 O4 P5 rG3 OU1 OU2 OA OH OL) C 0 (own_wd hw 74 rfl) (own_wd hw 4 rfl) (by decide) (by decide)) (fun _ _ _ q => q.2) [(.int 0), (.ref b), (.int 1)] [] rfl own_pd18 rfl rfl rfl (Nat.le_of_ble_eq_true rfl) (by decide) (by decide) (by decide +kernel) ?_
  rintro T595 h596 v597 L598 S599 ⟨⟨a589, k590, rfl, g591, K592, f593, f594⟩, -⟩
  show own_Go p e below _ T595 (mkF m 13 #[.val (.ref U8), .val (.int 0), .val (.ref b)] [(.ref a589)])
  refine own_retA C S599 rfl rfl (by decide +kernel) (by decide) (by decide) ?_
  have o600 : h0.size ≤ a589 := Nat.le_trans (Nat.le_refl _) g591
  exact ⟨a589, k590, rfl, o600, ((Keep.refl _ _).trans K592 all0), f593, f594⟩
theorem own_pd19 : parseMethodDescriptor "(Ljava/nio/charset/Charset;B[B)[B" = some ⟨[(.object "java/nio/charset/Charset"), .byte, (.array .byte)], (some (.array .byte))⟩ := by decide +kernel
theorem own_gb0 (l : Launch) (Z : State) (a0 : Array Value) (hw : ∀ d ∈ tables_1, d.before a0 Z = true) (G1 : Int32) (G3 : Value) (U8 : Addr) (x : Addr) (b : Addr) (bk : ClassId) (h0 : Heap) (n0 : Nat) (z0 : n0 ≤ h0.size) (X00 : Old Z n0 h0) (xE : Exa Z h0 x "java/lang/String") (xV : Fld Z h0 x "java/lang/String" "value" "[B" (.ref b)) (xC : Fld Z h0 x "java/lang/String" "coder" "B" (.int 0)) (bK : Arv Z h0 b bk .byte (0 : Int32) ([]) (.int 0)) (bE : Exa Z h0 b "[B") (O2 : Sta Z Z.heap "java/lang/String" "COMPACT_STRINGS" "Z" (.int G1)) (O4 : Sta Z Z.heap "jdk/internal/util/Preconditions" "SIOOBE_FORMATTER" "Ljava/util/function/BiFunction;" G3) (P5 : ¬ G1 = (0 : Int32)) (rG3 : G3.isRef = true) (OU1 : Sta Z Z.heap "java/nio/charset/StandardCharsets" "UTF_8" "Ljava/nio/charset/Charset;" (.ref U8)) (OU2 : Sta Z Z.heap "sun/nio/cs/UTF_8" "INSTANCE" "Lsun/nio/cs/UTF_8;" (.ref U8)) (OA : Sta Z Z.heap "java/lang/StringUTF16" "$assertionsDisabled" "Z" (.int 1)) (OH : Sta Z Z.heap "java/lang/StringUTF16" "HI_BYTE_SHIFT" "I" (.int 0)) (OL : Sta Z Z.heap "java/lang/StringUTF16" "LO_BYTE_SHIFT" "I" (.int 8)) :
    own_Met l Z (⟨"java/lang/String", "getBytes", "(Ljava/nio/charset/Charset;)[B"⟩ : MethodName) jdk_42_method_64_code 2 (some (.array .byte)) ({ frames := 4, cells := 1, slots := 0, locals := 64 } : Room) n0 #[(.ref x), (.ref U8)] h0 (fun v h => ∃ r : Addr, ∃ rk : ClassId, v = some (.ref r) ∧ h0.size ≤ r ∧ Keep h0 h [] ∧ Arv Z h r rk .byte (0 : Int32) ([]) (.int 0) ∧ Exa Z h r "[B") := by
  refine own_met (by decide +kernel) #[.val (.ref x), .val (.ref U8)] (fun m => by first | (simp [entryFrame, mkF, argsToLocals, Value.category]; done) | rfl) ?_
  intro p e s m below meth c T0 C S0
  refine own_seg C S0 [(0, .aload_n 1, 1), (1, .ifnonnull 11, 3), (12, .aload_n 1, 1), (13, .aload_n 0, 1)] (by decide +kernel) 14 #[.val (.ref x), .val (.ref U8)] [(.ref x), (.ref U8)] rfl ?_
  refine own_callV C S0 (own_wd hw 40 rfl) (own_wd hw 41 rfl) (own_wd hw 43 rfl) (own_wd hw 43 rfl) rfl (own_wd hw 42 rfl) (by decide) (own_Met.pay (own_coder l Z a0 hw G1 G3 x _ h0 n0 z0 X00 xC O2 O4 P5 rG3 (by decide)) C 1 (own_wd hw 44 rfl) (own_wd hw 4 rfl) (by decide) (by decide)) (fun _ _ _ q => q.2) xE [] [(.ref U8)] rfl own_pd0 rfl rfl rfl (Nat.le_of_ble_eq_true rfl) (by decide) (by decide) (by decide +kernel) ?_
  rintro T602 h603 v604 L605 S606 ⟨⟨rfl, e601⟩, -⟩
  rw [e601] at S606; clear e601
  show own_Go p e below _ T602 (mkF m 17 #[.val (.ref x), .val (.ref U8)] [(.int 0), (.ref U8)])
  refine own_seg C S606 [(17, .aload_n 0, 1)] (by decide +kernel) 18 #[.val (.ref x), .val (.ref U8)] [(.ref x), (.int 0), (.ref U8)] rfl ?_
  refine own_getF C S606 (host := "") (Or.inl (own_wd hw 24 rfl)) Via.refl xV (by decide +kernel) ?_
  intro T607 S608
  refine own_callS C S608 (own_wd hw 67 rfl) (own_wd hw 68 rfl) (own_wd hw 4 rfl) (own_wd hw 69 rfl) (by decide) (own_Met.pay (own_en0 l Z a0 hw G1 G3 U8 b _ h0 n0 z0 X00 bK bE O2 O4 P5 rG3 OU1 OU2 OA OH OL) C 0 (own_wd hw 69 rfl) (own_wd hw 4 rfl) (by decide) (by decide)) (fun _ _ _ q => q.2) [(.ref U8), (.int 0), (.ref b)] [] rfl own_pd19 rfl rfl rfl (Nat.le_of_ble_eq_true rfl) (by decide) (by decide) (by decide +kernel) ?_
  rintro T615 h616 v617 L618 S619 ⟨⟨a609, k610, rfl, g611, K612, f613, f614⟩, -⟩
  show own_Go p e below _ T615 (mkF m 24 #[.val (.ref x), .val (.ref U8)] [(.ref a609)])
  refine own_retA C S619 rfl rfl (by decide +kernel) (by decide) (by decide) ?_
  have o620 : h0.size ≤ a609 := Nat.le_trans (Nat.le_refl _) g611
  exact ⟨a609, k610, rfl, o620, ((Keep.refl _ _).trans K612 all0), f613, f614⟩
theorem own_e81 (l : Launch) (Z : State) (a0 : Array Value) (hw : ∀ d ∈ tables_1, d.before a0 Z = true) (G1 : Int32) (G3 : Value) (U8 : Addr) (b : Addr) (bk : ClassId) (k : Int32) (h0 : Heap) (n0 : Nat) (z0 : n0 ≤ h0.size) (X00 : Old Z n0 h0) (bK : Arv Z h0 b bk .byte (1 : Int32) ([(.int k.toInt8.toInt32)]) (.int 0)) (bE : Exa Z h0 b "[B") (O2 : Sta Z Z.heap "java/lang/String" "COMPACT_STRINGS" "Z" (.int G1)) (O4 : Sta Z Z.heap "jdk/internal/util/Preconditions" "SIOOBE_FORMATTER" "Ljava/util/function/BiFunction;" G3) (P5 : ¬ G1 = (0 : Int32)) (rG3 : G3.isRef = true) (OU1 : Sta Z Z.heap "java/nio/charset/StandardCharsets" "UTF_8" "Ljava/nio/charset/Charset;" (.ref U8)) (OU2 : Sta Z Z.heap "sun/nio/cs/UTF_8" "INSTANCE" "Lsun/nio/cs/UTF_8;" (.ref U8)) (OA : Sta Z Z.heap "java/lang/StringUTF16" "$assertionsDisabled" "Z" (.int 1)) (OH : Sta Z Z.heap "java/lang/StringUTF16" "HI_BYTE_SHIFT" "I" (.int 0)) (OL : Sta Z Z.heap "java/lang/StringUTF16" "LO_BYTE_SHIFT" "I" (.int 8)) (hb : ¬ k.toInt8.toInt32 < 0) :
    own_Met l Z (⟨"java/lang/String", "encodeUTF8", "(B[BZ)[B"⟩ : MethodName) jdk_42_method_46_code 9 (some (.array .byte)) ({ frames := 2, cells := 1, slots := 1, locals := 30 } : Room) n0 #[(.int 0), (.ref b), (.int 1)] h0 (fun v h => ∃ r : Addr, ∃ rk : ClassId, v = some (.ref r) ∧ h0.size ≤ r ∧ Keep h0 h [] ∧ Arv Z h r rk .byte (1 : Int32) ([(.int k.toInt8.toInt32)]) (.int 0) ∧ Exa Z h r "[B") := by
  refine own_met (by decide +kernel) #[.val (.int 0), .val (.ref b), .val (.int 1), .unset, .unset, .unset, .unset, .unset, .unset] (fun m => by first | (simp [entryFrame, mkF, argsToLocals, Value.category]; done) | rfl) ?_
  intro p e s m below meth c T0 C S0
  refine own_seg C S0 [(0, .iload_n 0, 1), (1, .iconst 1, 1)] (by decide +kernel) 2 #[.val (.int 0), .val (.ref b), .val (.int 1), .unset, .unset, .unset, .unset, .unset, .unset] [(.int 1), (.int 0)] rfl ?_
  refine own_icmp C S0 (q := .ne) (o := 9) (by decide +kernel) 11 (by decide) (by decide) (fun (q621 : ¬ (0 : Int32) = (1 : Int32)) => ?_) (fun (hq : (0 : Int32) = (1 : Int32)) => False.elim (by revert hq; decide))
  refine own_seg C S0 [(11, .aload_n 1, 1), (12, .iconst 0, 1), (13, .aload_n 1, 1)] (by decide +kernel) 14 #[.val (.int 0), .val (.ref b), .val (.int 1), .unset, .unset, .unset, .unset, .unset, .unset] [(.ref b), (.int 0), (.ref b)] rfl ?_
  refine own_alen C S0 bK (by decide +kernel) ?_
  refine own_callS C S0 (own_wd hw 75 rfl) (own_wd hw 76 rfl) (own_wd hw 77 rfl) (own_wd hw 78 rfl) (by decide) (own_Met.pay (own_hn1 l Z a0 hw b _ k h0 n0 z0 bK hb) C 0 (own_wd hw 78 rfl) (own_wd hw 77 rfl) (by decide) (by decide)) (fun _ _ _ q => q.2) [(.ref b), (.int 0), (.int 1)] [] rfl own_pd17 rfl rfl rfl (Nat.le_of_ble_eq_true rfl) (by decide) (by decide) (by decide +kernel) ?_
  rintro T623 h624 v625 L626 S627 ⟨⟨rfl, e622⟩, -⟩
  rw [e622] at S627; clear e622
  show own_Go p e below _ T623 (mkF m 18 #[.val (.int 0), .val (.ref b), .val (.int 1), .unset, .unset, .unset, .unset, .unset, .unset] [(.int 0)])
  refine own_if C S627 (q := .ne) (o := 11) (by decide +kernel) 29 (by decide) (by decide) (fun (hq : ¬ (0 : Int32) = (0 : Int32)) => False.elim (by revert hq; decide)) (fun (q628 : (0 : Int32) = (0 : Int32)) => ?_)
  refine own_seg C S627 [(21, .aload_n 1, 1)] (by decide +kernel) 22 #[.val (.int 0), .val (.ref b), .val (.int 1), .unset, .unset, .unset, .unset, .unset, .unset] [(.ref b)] rfl ?_
  refine own_clone C S627 (own_wd hw 82 rfl) (own_wd hw 83 rfl) (own_wd hw 87 rfl) (own_wd hw 85 rfl) (own_wd hw 86 rfl) (own_wd hw 88 rfl) bK bE rfl (by decide +kernel) (by decide) 0 1 (Nat.le_of_ble_eq_true rfl) (by decide) (by decide) (by decide) (by decide) ?_
  intro T629 h631 a632 S630 g633 E634 f635 x636
  refine own_cast C S630 (own_wd hw 89 rfl) (Ins.self x636) (by decide +kernel) ?_
  intro T637 S638
  refine own_retA C S638 rfl rfl (by decide +kernel) (by decide) (by decide) ?_
  have o639 : h0.size ≤ a632 := by rw [g633]; exact (Nat.le_refl _)
  exact ⟨a632, bk, rfl, o639, ((Keep.refl _ _).ext E634), f635, x636⟩
theorem own_en1 (l : Launch) (Z : State) (a0 : Array Value) (hw : ∀ d ∈ tables_1, d.before a0 Z = true) (G1 : Int32) (G3 : Value) (U8 : Addr) (b : Addr) (bk : ClassId) (k : Int32) (h0 : Heap) (n0 : Nat) (z0 : n0 ≤ h0.size) (X00 : Old Z n0 h0) (bK : Arv Z h0 b bk .byte (1 : Int32) ([(.int k.toInt8.toInt32)]) (.int 0)) (bE : Exa Z h0 b "[B") (O2 : Sta Z Z.heap "java/lang/String" "COMPACT_STRINGS" "Z" (.int G1)) (O4 : Sta Z Z.heap "jdk/internal/util/Preconditions" "SIOOBE_FORMATTER" "Ljava/util/function/BiFunction;" G3) (P5 : ¬ G1 = (0 : Int32)) (rG3 : G3.isRef = true) (OU1 : Sta Z Z.heap "java/nio/charset/StandardCharsets" "UTF_8" "Ljava/nio/charset/Charset;" (.ref U8)) (OU2 : Sta Z Z.heap "sun/nio/cs/UTF_8" "INSTANCE" "Lsun/nio/cs/UTF_8;" (.ref U8)) (OA : Sta Z Z.heap "java/lang/StringUTF16" "$assertionsDisabled" "Z" (.int 1)) (OH : Sta Z Z.heap "java/lang/StringUTF16" "HI_BYTE_SHIFT" "I" (.int 0)) (OL : Sta Z Z.heap "java/lang/StringUTF16" "LO_BYTE_SHIFT" "I" (.int 8)) (hb : ¬ k.toInt8.toInt32 < 0) :
    own_Met l Z (⟨"java/lang/String", "encode", "(Ljava/nio/charset/Charset;B[B)[B"⟩ : MethodName) jdk_42_method_18_code 3 (some (.array .byte)) ({ frames := 3, cells := 1, slots := 1, locals := 50 } : Room) n0 #[(.ref U8), (.int 0), (.ref b)] h0 (fun v h => ∃ r : Addr, ∃ rk : ClassId, v = some (.ref r) ∧ h0.size ≤ r ∧ Keep h0 h [] ∧ Arv Z h r rk .byte (1 : Int32) ([(.int k.toInt8.toInt32)]) (.int 0) ∧ Exa Z h r "[B") := by
  refine own_met (by decide +kernel) #[.val (.ref U8), .val (.int 0), .val (.ref b)] (fun m => by first | (simp [entryFrame, mkF, argsToLocals, Value.category]; done) | rfl) ?_
  intro p e s m below meth c T0 C S0
  refine own_seg C S0 [(0, .aload_n 0, 1)] (by decide +kernel) 1 #[.val (.ref U8), .val (.int 0), .val (.ref b)] [(.ref U8)] rfl ?_
  refine own_getS C S0 (own_wd hw 70 rfl) Via.refl (OU2.ext X00.2) (by decide +kernel) ?_
  intro T640 S641
  refine own_acmp C S641 (q := .ne) (o := 10) rfl rfl (by decide +kernel) 14 (by decide) (by decide) (fun (hq : ¬ ((.ref U8) : Value) = (.ref U8)) => False.elim (hq rfl)) (fun (q642 : ((.ref U8) : Value) = (.ref U8)) => ?_)
  refine own_seg C S641 [(7, .iload_n 1, 1), (8, .aload_n 2, 1), (9, .iconst 1, 1)] (by decide +kernel) 10 #[.val (.ref U8), .val (.int 0), .val (.ref b)] [(.int 1), (.ref b), (.int 0)] rfl ?_
  refine own_callS C S641 (own_wd hw 72 rfl) (own_wd hw 73 rfl) (own_wd hw 4 rfl) (own_wd hw 74 rfl) (by decide) (own_Met.pay (own_e81 l Z a0 hw G1 G3 U8 b _ k h0 n0 z0 X00 bK bE O2 O4 P5 rG3 OU1 OU2 OA OH OL hb) C 0 (own_wd hw 74 rfl) (own_wd hw 4 rfl) (by decide) (by decide)) (fun _ _ _ q => q.2) [(.int 0), (.ref b), (.int 1)] [] rfl own_pd18 rfl rfl rfl (Nat.le_of_ble_eq_true rfl) (by decide) (by decide) (by decide +kernel) ?_
  rintro T649 h650 v651 L652 S653 ⟨⟨a643, k644, rfl, g645, K646, f647, f648⟩, -⟩
  show own_Go p e below _ T649 (mkF m 13 #[.val (.ref U8), .val (.int 0), .val (.ref b)] [(.ref a643)])
  refine own_retA C S653 rfl rfl (by decide +kernel) (by decide) (by decide) ?_
  have o654 : h0.size ≤ a643 := Nat.le_trans (Nat.le_refl _) g645
  exact ⟨a643, k644, rfl, o654, ((Keep.refl _ _).trans K646 all0), f647, f648⟩
theorem own_gb1 (l : Launch) (Z : State) (a0 : Array Value) (hw : ∀ d ∈ tables_1, d.before a0 Z = true) (G1 : Int32) (G3 : Value) (U8 : Addr) (x : Addr) (b : Addr) (bk : ClassId) (k : Int32) (h0 : Heap) (n0 : Nat) (z0 : n0 ≤ h0.size) (X00 : Old Z n0 h0) (xE : Exa Z h0 x "java/lang/String") (xV : Fld Z h0 x "java/lang/String" "value" "[B" (.ref b)) (xC : Fld Z h0 x "java/lang/String" "coder" "B" (.int 0)) (bK : Arv Z h0 b bk .byte (1 : Int32) ([(.int k.toInt8.toInt32)]) (.int 0)) (bE : Exa Z h0 b "[B") (O2 : Sta Z Z.heap "java/lang/String" "COMPACT_STRINGS" "Z" (.int G1)) (O4 : Sta Z Z.heap "jdk/internal/util/Preconditions" "SIOOBE_FORMATTER" "Ljava/util/function/BiFunction;" G3) (P5 : ¬ G1 = (0 : Int32)) (rG3 : G3.isRef = true) (OU1 : Sta Z Z.heap "java/nio/charset/StandardCharsets" "UTF_8" "Ljava/nio/charset/Charset;" (.ref U8)) (OU2 : Sta Z Z.heap "sun/nio/cs/UTF_8" "INSTANCE" "Lsun/nio/cs/UTF_8;" (.ref U8)) (OA : Sta Z Z.heap "java/lang/StringUTF16" "$assertionsDisabled" "Z" (.int 1)) (OH : Sta Z Z.heap "java/lang/StringUTF16" "HI_BYTE_SHIFT" "I" (.int 0)) (OL : Sta Z Z.heap "java/lang/StringUTF16" "LO_BYTE_SHIFT" "I" (.int 8)) (hb : ¬ k.toInt8.toInt32 < 0) :
    own_Met l Z (⟨"java/lang/String", "getBytes", "(Ljava/nio/charset/Charset;)[B"⟩ : MethodName) jdk_42_method_64_code 2 (some (.array .byte)) ({ frames := 4, cells := 1, slots := 1, locals := 64 } : Room) n0 #[(.ref x), (.ref U8)] h0 (fun v h => ∃ r : Addr, ∃ rk : ClassId, v = some (.ref r) ∧ h0.size ≤ r ∧ Keep h0 h [] ∧ Arv Z h r rk .byte (1 : Int32) ([(.int k.toInt8.toInt32)]) (.int 0) ∧ Exa Z h r "[B") := by
  refine own_met (by decide +kernel) #[.val (.ref x), .val (.ref U8)] (fun m => by first | (simp [entryFrame, mkF, argsToLocals, Value.category]; done) | rfl) ?_
  intro p e s m below meth c T0 C S0
  refine own_seg C S0 [(0, .aload_n 1, 1), (1, .ifnonnull 11, 3), (12, .aload_n 1, 1), (13, .aload_n 0, 1)] (by decide +kernel) 14 #[.val (.ref x), .val (.ref U8)] [(.ref x), (.ref U8)] rfl ?_
  refine own_callV C S0 (own_wd hw 40 rfl) (own_wd hw 41 rfl) (own_wd hw 43 rfl) (own_wd hw 43 rfl) rfl (own_wd hw 42 rfl) (by decide) (own_Met.pay (own_coder l Z a0 hw G1 G3 x _ h0 n0 z0 X00 xC O2 O4 P5 rG3 (by decide)) C 1 (own_wd hw 44 rfl) (own_wd hw 4 rfl) (by decide) (by decide)) (fun _ _ _ q => q.2) xE [] [(.ref U8)] rfl own_pd0 rfl rfl rfl (Nat.le_of_ble_eq_true rfl) (by decide) (by decide) (by decide +kernel) ?_
  rintro T656 h657 v658 L659 S660 ⟨⟨rfl, e655⟩, -⟩
  rw [e655] at S660; clear e655
  show own_Go p e below _ T656 (mkF m 17 #[.val (.ref x), .val (.ref U8)] [(.int 0), (.ref U8)])
  refine own_seg C S660 [(17, .aload_n 0, 1)] (by decide +kernel) 18 #[.val (.ref x), .val (.ref U8)] [(.ref x), (.int 0), (.ref U8)] rfl ?_
  refine own_getF C S660 (host := "") (Or.inl (own_wd hw 24 rfl)) Via.refl xV (by decide +kernel) ?_
  intro T661 S662
  refine own_callS C S662 (own_wd hw 67 rfl) (own_wd hw 68 rfl) (own_wd hw 4 rfl) (own_wd hw 69 rfl) (by decide) (own_Met.pay (own_en1 l Z a0 hw G1 G3 U8 b _ k h0 n0 z0 X00 bK bE O2 O4 P5 rG3 OU1 OU2 OA OH OL hb) C 0 (own_wd hw 69 rfl) (own_wd hw 4 rfl) (by decide) (by decide)) (fun _ _ _ q => q.2) [(.ref U8), (.int 0), (.ref b)] [] rfl own_pd19 rfl rfl rfl (Nat.le_of_ble_eq_true rfl) (by decide) (by decide) (by decide +kernel) ?_
  rintro T669 h670 v671 L672 S673 ⟨⟨a663, k664, rfl, g665, K666, f667, f668⟩, -⟩
  show own_Go p e below _ T669 (mkF m 24 #[.val (.ref x), .val (.ref U8)] [(.ref a663)])
  refine own_retA C S673 rfl rfl (by decide +kernel) (by decide) (by decide) ?_
  have o674 : h0.size ≤ a663 := Nat.le_trans (Nat.le_refl _) g665
  exact ⟨a663, k664, rfl, o674, ((Keep.refl _ _).trans K666 all0), f667, f668⟩
theorem own_pd20 : parseMethodDescriptor "(I)[B" = some ⟨[.int], (some (.array .byte))⟩ := by decide +kernel
theorem own_e82 (l : Launch) (Z : State) (a0 : Array Value) (hw : ∀ d ∈ tables_1, d.before a0 Z = true) (G1 : Int32) (G3 : Value) (U8 : Addr) (b : Addr) (bk : ClassId) (k : Int32) (h0 : Heap) (n0 : Nat) (z0 : n0 ≤ h0.size) (X00 : Old Z n0 h0) (bK : Arv Z h0 b bk .byte (1 : Int32) ([(.int k.toInt8.toInt32)]) (.int 0)) (bE : Exa Z h0 b "[B") (O2 : Sta Z Z.heap "java/lang/String" "COMPACT_STRINGS" "Z" (.int G1)) (O4 : Sta Z Z.heap "jdk/internal/util/Preconditions" "SIOOBE_FORMATTER" "Ljava/util/function/BiFunction;" G3) (P5 : ¬ G1 = (0 : Int32)) (rG3 : G3.isRef = true) (OU1 : Sta Z Z.heap "java/nio/charset/StandardCharsets" "UTF_8" "Ljava/nio/charset/Charset;" (.ref U8)) (OU2 : Sta Z Z.heap "sun/nio/cs/UTF_8" "INSTANCE" "Lsun/nio/cs/UTF_8;" (.ref U8)) (OA : Sta Z Z.heap "java/lang/StringUTF16" "$assertionsDisabled" "Z" (.int 1)) (OH : Sta Z Z.heap "java/lang/StringUTF16" "HI_BYTE_SHIFT" "I" (.int 0)) (OL : Sta Z Z.heap "java/lang/StringUTF16" "LO_BYTE_SHIFT" "I" (.int 8)) (hb : k.toInt8.toInt32 < 0) :
    own_Met l Z (⟨"java/lang/String", "encodeUTF8", "(B[BZ)[B"⟩ : MethodName) jdk_42_method_46_code 9 (some (.array .byte)) ({ frames := 2, cells := 1, slots := 2, locals := 30 } : Room) n0 #[(.int 0), (.ref b), (.int 1)] h0 (fun v h => ∃ r : Addr, ∃ rk : ClassId, v = some (.ref r) ∧ h0.size ≤ r ∧ Keep h0 h [] ∧ Arv Z h r rk .byte (2 : Int32) ([(.int (((192 : Int32) ||| ((k.toInt8.toInt32 &&& (255 : Int32)) >>> ((6 : Int32) &&& 31))).toInt8.toInt32)), (.int (((128 : Int32) ||| (k.toInt8.toInt32 &&& (63 : Int32))).toInt8.toInt32))]) (.int 0) ∧ Exa Z h r "[B") := by
  refine own_met (by decide +kernel) #[.val (.int 0), .val (.ref b), .val (.int 1), .unset, .unset, .unset, .unset, .unset, .unset] (fun m => by first | (simp [entryFrame, mkF, argsToLocals, Value.category]; done) | rfl) ?_
  intro p e s m below meth c T0 C S0
  refine own_seg C S0 [(0, .iload_n 0, 1), (1, .iconst 1, 1)] (by decide +kernel) 2 #[.val (.int 0), .val (.ref b), .val (.int 1), .unset, .unset, .unset, .unset, .unset, .unset] [(.int 1), (.int 0)] rfl ?_
  refine own_icmp C S0 (q := .ne) (o := 9) (by decide +kernel) 11 (by decide) (by decide) (fun (q675 : ¬ (0 : Int32) = (1 : Int32)) => ?_) (fun (hq : (0 : Int32) = (1 : Int32)) => False.elim (by revert hq; decide))
  refine own_seg C S0 [(11, .aload_n 1, 1), (12, .iconst 0, 1), (13, .aload_n 1, 1)] (by decide +kernel) 14 #[.val (.int 0), .val (.ref b), .val (.int 1), .unset, .unset, .unset, .unset, .unset, .unset] [(.ref b), (.int 0), (.ref b)] rfl ?_
  refine own_alen C S0 bK (by decide +kernel) ?_
  refine own_callS C S0 (own_wd hw 75 rfl) (own_wd hw 76 rfl) (own_wd hw 77 rfl) (own_wd hw 78 rfl) (by decide) (own_Met.pay (own_hn2 l Z a0 hw b _ k h0 n0 z0 bK hb) C 0 (own_wd hw 78 rfl) (own_wd hw 77 rfl) (by decide) (by decide)) (fun _ _ _ q => q.2) [(.ref b), (.int 0), (.int 1)] [] rfl own_pd17 rfl rfl rfl (Nat.le_of_ble_eq_true rfl) (by decide) (by decide) (by decide +kernel) ?_
  rintro T677 h678 v679 L680 S681 ⟨⟨rfl, e676⟩, -⟩
  rw [e676] at S681; clear e676
  show own_Go p e below _ T677 (mkF m 18 #[.val (.int 0), .val (.ref b), .val (.int 1), .unset, .unset, .unset, .unset, .unset, .unset] [(.int 1)])
  refine own_if C S681 (q := .ne) (o := 11) (by decide +kernel) 29 (by decide) (by decide) (fun (q682 : ¬ (1 : Int32) = (0 : Int32)) => ?_) (fun (hq : (1 : Int32) = (0 : Int32)) => False.elim (by revert hq; decide))
  refine own_seg C S681 [(29, .iconst 0, 1), (30, .istore_n 3, 1), (31, .aload_n 1, 1)] (by decide +kernel) 32 #[.val (.int 0), .val (.ref b), .val (.int 1), .val (.int 0), .unset, .unset, .unset, .unset, .unset] [(.ref b)] rfl ?_
  refine own_alen C S681 bK (by decide +kernel) ?_
  refine own_callS C S681 (own_wd hw 287 rfl) (own_wd hw 288 rfl) (own_wd hw 242 rfl) (own_wd hw 289 rfl) (by decide) (own_Met.pay (own_nbf l Z a0 hw  h0 n0 z0) C 0 (own_wd hw 289 rfl) (own_wd hw 242 rfl) (by decide) (by decide)) (fun _ _ _ q => q.2) [(.int 1)] [] rfl own_pd20 rfl rfl rfl (Nat.le_of_ble_eq_true rfl) (by decide) (by decide) (by decide +kernel) ?_
  rintro T689 h690 v691 L692 S693 ⟨⟨a683, k684, rfl, g685, K686, f687, f688⟩, -⟩
  show own_Go p e below _ T689 (mkF m 36 #[.val (.int 0), .val (.ref b), .val (.int 1), .val (.int 0), .unset, .unset, .unset, .unset, .unset] [(.ref a683)])
  refine own_seg C S693 [(36, .astore 4, 2), (38, .aload_n 1, 1), (39, .astore 5, 2), (41, .aload 5, 2)] (by decide +kernel) 43 #[.val (.int 0), .val (.ref b), .val (.int 1), .val (.int 0), .val (.ref a683), .val (.ref b), .unset, .unset, .unset] [(.ref b)] rfl ?_
  have f694 := (bK.keep K686 nin0)
  refine own_alen C S693 f694 (by decide +kernel) ?_
  refine own_seg C S693 [(44, .istore 6, 2), (46, .iconst 0, 1), (47, .istore 7, 2), (49, .iload 7, 2), (51, .iload 6, 2)] (by decide +kernel) 53 #[.val (.int 0), .val (.ref b), .val (.int 1), .val (.int 0), .val (.ref a683), .val (.ref b), .val (.int 1), .val (.int 0), .unset] [(.int 1), (.int 0)] rfl ?_
  refine own_icmp C S693 (q := .ge) (o := 71) (by decide +kernel) 124 (by decide) (by decide) (fun (hq : ¬ (0 : Int32) < (1 : Int32)) => False.elim (by revert hq; decide)) (fun (q695 : (0 : Int32) < (1 : Int32)) => ?_)
  refine own_seg C S693 [(56, .aload 5, 2), (58, .iload 7, 2)] (by decide +kernel) 60 #[.val (.int 0), .val (.ref b), .val (.int 1), .val (.int 0), .val (.ref a683), .val (.ref b), .val (.int 1), .val (.int 0), .unset] [(.int 0), (.ref b)] rfl ?_
  refine own_baload C S693 f694 ⟨(by decide), (by decide)⟩ (.int k.toInt8.toInt32) rfl (by decide +kernel) ?_
  refine own_seg C S693 [(61, .istore 8, 2), (63, .iload 8, 2)] (by decide +kernel) 65 #[.val (.int 0), .val (.ref b), .val (.int 1), .val (.int 0), .val (.ref a683), .val (.ref b), .val (.int 1), .val (.int 0), .val (.int k.toInt8.toInt32)] [(.int k.toInt8.toInt32)] rfl ?_
  refine own_if C S693 (q := .ge) (o := 44) (by decide +kernel) 109 (by decide) (by decide) (fun (hq : ¬ k.toInt8.toInt32 < (0 : Int32)) => False.elim (hq hb)) (fun (q696 : k.toInt8.toInt32 < (0 : Int32)) => ?_)
  refine own_seg C S693 [(68, .aload 4, 2), (70, .iload_n 3, 1), (71, .iinc 3 1, 3), (74, .sipush 192, 3), (77, .iload 8, 2), (79, .sipush 255, 3), (82, .iand, 1), (83, .bipush 6, 2), (85, .ishr, 1), (86, .ior, 1), (87, .i2b, 1)] (by decide +kernel) 88 #[.val (.int 0), .val (.ref b), .val (.int 1), .val (.int ((0 : Int32) + (1 : Int32))), .val (.ref a683), .val (.ref b), .val (.int 1), .val (.int 0), .val (.int k.toInt8.toInt32)] [(.int (((192 : Int32) ||| ((k.toInt8.toInt32 &&& (255 : Int32)) >>> ((6 : Int32) &&& 31))).toInt8.toInt32)), (.int 0), (.ref a683)] rfl ?_
  show own_Go p e below _ T689 (mkF m 88 #[.val (.int 0), .val (.ref b), .val (.int 1), .val (.int 1), .val (.ref a683), .val (.ref b), .val (.int 1), .val (.int 0), .val (.int k.toInt8.toInt32)] [(.int (((192 : Int32) ||| ((k.toInt8.toInt32 &&& (255 : Int32)) >>> ((6 : Int32) &&& 31))).toInt8.toInt32)), (.int 0), (.ref a683)])
  have g697 : n0 ≤ a683 := Nat.le_trans z0 g685
  refine own_bastore C S693 f687 ⟨(by decide), (by decide)⟩ 0 rfl (Nat.le_of_ble_eq_true rfl) (((192 : Int32) ||| ((k.toInt8.toInt32 &&& (255 : Int32)) >>> ((6 : Int32) &&& 31))).toInt8.toInt32) (own_i2b2 _) g697 (by decide +kernel) ?_
  intro T698 h700 S699 W701 f702
  have f703 : Arv Z h700 a683 k684 .byte (2 : Int32) ([(.int (((192 : Int32) ||| ((k.toInt8.toInt32 &&& (255 : Int32)) >>> ((6 : Int32) &&& 31))).toInt8.toInt32)), (.int 0)]) (.int 0) := f702
  refine own_seg C S699 [(89, .aload 4, 2), (91, .iload_n 3, 1), (92, .iinc 3 1, 3), (95, .sipush 128, 3), (98, .iload 8, 2), (100, .bipush 63, 2), (102, .iand, 1), (103, .ior, 1), (104, .i2b, 1)] (by decide +kernel) 105 #[.val (.int 0), .val (.ref b), .val (.int 1), .val (.int ((1 : Int32) + (1 : Int32))), .val (.ref a683), .val (.ref b), .val (.int 1), .val (.int 0), .val (.int k.toInt8.toInt32)] [(.int (((128 : Int32) ||| (k.toInt8.toInt32 &&& (63 : Int32))).toInt8.toInt32)), (.int 1), (.ref a683)] rfl ?_
  show own_Go p e below _ T698 (mkF m 105 #[.val (.int 0), .val (.ref b), .val (.int 1), .val (.int 2), .val (.ref a683), .val (.ref b), .val (.int 1), .val (.int 0), .val (.int k.toInt8.toInt32)] [(.int (((128 : Int32) ||| (k.toInt8.toInt32 &&& (63 : Int32))).toInt8.toInt32)), (.int 1), (.ref a683)])
  refine own_bastore C S699 f703 ⟨(by decide), (by decide)⟩ 1 rfl (Nat.le_of_ble_eq_true rfl) (((128 : Int32) ||| (k.toInt8.toInt32 &&& (63 : Int32))).toInt8.toInt32) (own_i2b2 _) g697 (by decide +kernel) ?_
  intro T704 h706 S705 W707 f708
  have f709 : Arv Z h706 a683 k684 .byte (2 : Int32) ([(.int (((192 : Int32) ||| ((k.toInt8.toInt32 &&& (255 : Int32)) >>> ((6 : Int32) &&& 31))).toInt8.toInt32)), (.int (((128 : Int32) ||| (k.toInt8.toInt32 &&& (63 : Int32))).toInt8.toInt32))]) (.int 0) := f708
  refine own_seg C S705 [(106, .goto 12, 3), (118, .iinc 7 1, 3), (121, .goto (-72), 3), (49, .iload 7, 2), (51, .iload 6, 2)] (by decide +kernel) 53 #[.val (.int 0), .val (.ref b), .val (.int 1), .val (.int 2), .val (.ref a683), .val (.ref b), .val (.int 1), .val (.int ((0 : Int32) + (1 : Int32))), .val (.int k.toInt8.toInt32)] [(.int 1), (.int ((0 : Int32) + (1 : Int32)))] rfl ?_
  show own_Go p e below _ T704 (mkF m 53 #[.val (.int 0), .val (.ref b), .val (.int 1), .val (.int 2), .val (.ref a683), .val (.ref b), .val (.int 1), .val (.int 1), .val (.int k.toInt8.toInt32)] [(.int 1), (.int 1)])
  refine own_icmp C S705 (q := .ge) (o := 71) (by decide +kernel) 124 (by decide) (by decide) (fun (q710 : ¬ (1 : Int32) < (1 : Int32)) => ?_) (fun (hq : (1 : Int32) < (1 : Int32)) => False.elim (by revert hq; decide))
  refine own_seg C S705 [(124, .iload_n 3, 1), (125, .aload 4, 2)] (by decide +kernel) 127 #[.val (.int 0), .val (.ref b), .val (.int 1), .val (.int 2), .val (.ref a683), .val (.ref b), .val (.int 1), .val (.int 1), .val (.int k.toInt8.toInt32)] [(.ref a683), (.int 2)] rfl ?_
  refine own_alen C S705 f709 (by decide +kernel) ?_
  refine own_icmp C S705 (q := .ne) (o := 6) (by decide +kernel) 134 (by decide) (by decide) (fun (hq : ¬ (2 : Int32) = (2 : Int32)) => False.elim (by revert hq; decide)) (fun (q711 : (2 : Int32) = (2 : Int32)) => ?_)
  refine own_seg C S705 [(131, .aload 4, 2)] (by decide +kernel) 133 #[.val (.int 0), .val (.ref b), .val (.int 1), .val (.int 2), .val (.ref a683), .val (.ref b), .val (.int 1), .val (.int 1), .val (.int k.toInt8.toInt32)] [(.ref a683)] rfl ?_
  refine own_retA C S705 rfl rfl (by decide +kernel) (by decide) (by decide) ?_
  have o712 : h0.size ≤ a683 := Nat.le_trans (Nat.le_refl _) g685
  have f713 := (Exa.wr W707 (Exa.wr W701 f688))
  exact ⟨a683, k684, rfl, o712, ((((Keep.refl _ _).trans K686 all0).wr W701 (Or.inr o712)).wr W707 (Or.inr o712)), f709, f713⟩
theorem own_en2 (l : Launch) (Z : State) (a0 : Array Value) (hw : ∀ d ∈ tables_1, d.before a0 Z = true) (G1 : Int32) (G3 : Value) (U8 : Addr) (b : Addr) (bk : ClassId) (k : Int32) (h0 : Heap) (n0 : Nat) (z0 : n0 ≤ h0.size) (X00 : Old Z n0 h0) (bK : Arv Z h0 b bk .byte (1 : Int32) ([(.int k.toInt8.toInt32)]) (.int 0)) (bE : Exa Z h0 b "[B") (O2 : Sta Z Z.heap "java/lang/String" "COMPACT_STRINGS" "Z" (.int G1)) (O4 : Sta Z Z.heap "jdk/internal/util/Preconditions" "SIOOBE_FORMATTER" "Ljava/util/function/BiFunction;" G3) (P5 : ¬ G1 = (0 : Int32)) (rG3 : G3.isRef = true) (OU1 : Sta Z Z.heap "java/nio/charset/StandardCharsets" "UTF_8" "Ljava/nio/charset/Charset;" (.ref U8)) (OU2 : Sta Z Z.heap "sun/nio/cs/UTF_8" "INSTANCE" "Lsun/nio/cs/UTF_8;" (.ref U8)) (OA : Sta Z Z.heap "java/lang/StringUTF16" "$assertionsDisabled" "Z" (.int 1)) (OH : Sta Z Z.heap "java/lang/StringUTF16" "HI_BYTE_SHIFT" "I" (.int 0)) (OL : Sta Z Z.heap "java/lang/StringUTF16" "LO_BYTE_SHIFT" "I" (.int 8)) (hb : k.toInt8.toInt32 < 0) :
    own_Met l Z (⟨"java/lang/String", "encode", "(Ljava/nio/charset/Charset;B[B)[B"⟩ : MethodName) jdk_42_method_18_code 3 (some (.array .byte)) ({ frames := 3, cells := 1, slots := 2, locals := 50 } : Room) n0 #[(.ref U8), (.int 0), (.ref b)] h0 (fun v h => ∃ r : Addr, ∃ rk : ClassId, v = some (.ref r) ∧ h0.size ≤ r ∧ Keep h0 h [] ∧ Arv Z h r rk .byte (2 : Int32) ([(.int (((192 : Int32) ||| ((k.toInt8.toInt32 &&& (255 : Int32)) >>> ((6 : Int32) &&& 31))).toInt8.toInt32)), (.int (((128 : Int32) ||| (k.toInt8.toInt32 &&& (63 : Int32))).toInt8.toInt32))]) (.int 0) ∧ Exa Z h r "[B") := by
  refine own_met (by decide +kernel) #[.val (.ref U8), .val (.int 0), .val (.ref b)] (fun m => by first | (simp [entryFrame, mkF, argsToLocals, Value.category]; done) | rfl) ?_
  intro p e s m below meth c T0 C S0
  refine own_seg C S0 [(0, .aload_n 0, 1)] (by decide +kernel) 1 #[.val (.ref U8), .val (.int 0), .val (.ref b)] [(.ref U8)] rfl ?_
  refine own_getS C S0 (own_wd hw 70 rfl) Via.refl (OU2.ext X00.2) (by decide +kernel) ?_
  intro T714 S715
  refine own_acmp C S715 (q := .ne) (o := 10) rfl rfl (by decide +kernel) 14 (by decide) (by decide) (fun (hq : ¬ ((.ref U8) : Value) = (.ref U8)) => False.elim (hq rfl)) (fun (q716 : ((.ref U8) : Value) = (.ref U8)) => ?_)
  refine own_seg C S715 [(7, .iload_n 1, 1), (8, .aload_n 2, 1), (9, .iconst 1, 1)] (by decide +kernel) 10 #[.val (.ref U8), .val (.int 0), .val (.ref b)] [(.int 1), (.ref b), (.int 0)] rfl ?_
  refine own_callS C S715 (own_wd hw 72 rfl) (own_wd hw 73 rfl) (own_wd hw 4 rfl) (own_wd hw 74 rfl) (by decide) (own_Met.pay (own_e82 l Z a0 hw G1 G3 U8 b _ k h0 n0 z0 X00 bK bE O2 O4 P5 rG3 OU1 OU2 OA OH OL hb) C 0 (own_wd hw 74 rfl) (own_wd hw 4 rfl) (by decide) (by decide)) (fun _ _ _ q => q.2) [(.int 0), (.ref b), (.int 1)] [] rfl own_pd18 rfl rfl rfl (Nat.le_of_ble_eq_true rfl) (by decide) (by decide) (by decide +kernel) ?_
  rintro T723 h724 v725 L726 S727 ⟨⟨a717, k718, rfl, g719, K720, f721, f722⟩, -⟩
  show own_Go p e below _ T723 (mkF m 13 #[.val (.ref U8), .val (.int 0), .val (.ref b)] [(.ref a717)])
  refine own_retA C S727 rfl rfl (by decide +kernel) (by decide) (by decide) ?_
  have o728 : h0.size ≤ a717 := Nat.le_trans (Nat.le_refl _) g719
  exact ⟨a717, k718, rfl, o728, ((Keep.refl _ _).trans K720 all0), f721, f722⟩
theorem own_gb2 (l : Launch) (Z : State) (a0 : Array Value) (hw : ∀ d ∈ tables_1, d.before a0 Z = true) (G1 : Int32) (G3 : Value) (U8 : Addr) (x : Addr) (b : Addr) (bk : ClassId) (k : Int32) (h0 : Heap) (n0 : Nat) (z0 : n0 ≤ h0.size) (X00 : Old Z n0 h0) (xE : Exa Z h0 x "java/lang/String") (xV : Fld Z h0 x "java/lang/String" "value" "[B" (.ref b)) (xC : Fld Z h0 x "java/lang/String" "coder" "B" (.int 0)) (bK : Arv Z h0 b bk .byte (1 : Int32) ([(.int k.toInt8.toInt32)]) (.int 0)) (bE : Exa Z h0 b "[B") (O2 : Sta Z Z.heap "java/lang/String" "COMPACT_STRINGS" "Z" (.int G1)) (O4 : Sta Z Z.heap "jdk/internal/util/Preconditions" "SIOOBE_FORMATTER" "Ljava/util/function/BiFunction;" G3) (P5 : ¬ G1 = (0 : Int32)) (rG3 : G3.isRef = true) (OU1 : Sta Z Z.heap "java/nio/charset/StandardCharsets" "UTF_8" "Ljava/nio/charset/Charset;" (.ref U8)) (OU2 : Sta Z Z.heap "sun/nio/cs/UTF_8" "INSTANCE" "Lsun/nio/cs/UTF_8;" (.ref U8)) (OA : Sta Z Z.heap "java/lang/StringUTF16" "$assertionsDisabled" "Z" (.int 1)) (OH : Sta Z Z.heap "java/lang/StringUTF16" "HI_BYTE_SHIFT" "I" (.int 0)) (OL : Sta Z Z.heap "java/lang/StringUTF16" "LO_BYTE_SHIFT" "I" (.int 8)) (hb : k.toInt8.toInt32 < 0) :
    own_Met l Z (⟨"java/lang/String", "getBytes", "(Ljava/nio/charset/Charset;)[B"⟩ : MethodName) jdk_42_method_64_code 2 (some (.array .byte)) ({ frames := 4, cells := 1, slots := 2, locals := 64 } : Room) n0 #[(.ref x), (.ref U8)] h0 (fun v h => ∃ r : Addr, ∃ rk : ClassId, v = some (.ref r) ∧ h0.size ≤ r ∧ Keep h0 h [] ∧ Arv Z h r rk .byte (2 : Int32) ([(.int (((192 : Int32) ||| ((k.toInt8.toInt32 &&& (255 : Int32)) >>> ((6 : Int32) &&& 31))).toInt8.toInt32)), (.int (((128 : Int32) ||| (k.toInt8.toInt32 &&& (63 : Int32))).toInt8.toInt32))]) (.int 0) ∧ Exa Z h r "[B") := by
  refine own_met (by decide +kernel) #[.val (.ref x), .val (.ref U8)] (fun m => by first | (simp [entryFrame, mkF, argsToLocals, Value.category]; done) | rfl) ?_
  intro p e s m below meth c T0 C S0
  refine own_seg C S0 [(0, .aload_n 1, 1), (1, .ifnonnull 11, 3), (12, .aload_n 1, 1), (13, .aload_n 0, 1)] (by decide +kernel) 14 #[.val (.ref x), .val (.ref U8)] [(.ref x), (.ref U8)] rfl ?_
  refine own_callV C S0 (own_wd hw 40 rfl) (own_wd hw 41 rfl) (own_wd hw 43 rfl) (own_wd hw 43 rfl) rfl (own_wd hw 42 rfl) (by decide) (own_Met.pay (own_coder l Z a0 hw G1 G3 x _ h0 n0 z0 X00 xC O2 O4 P5 rG3 (by decide)) C 1 (own_wd hw 44 rfl) (own_wd hw 4 rfl) (by decide) (by decide)) (fun _ _ _ q => q.2) xE [] [(.ref U8)] rfl own_pd0 rfl rfl rfl (Nat.le_of_ble_eq_true rfl) (by decide) (by decide) (by decide +kernel) ?_
  rintro T730 h731 v732 L733 S734 ⟨⟨rfl, e729⟩, -⟩
  rw [e729] at S734; clear e729
  show own_Go p e below _ T730 (mkF m 17 #[.val (.ref x), .val (.ref U8)] [(.int 0), (.ref U8)])
  refine own_seg C S734 [(17, .aload_n 0, 1)] (by decide +kernel) 18 #[.val (.ref x), .val (.ref U8)] [(.ref x), (.int 0), (.ref U8)] rfl ?_
  refine own_getF C S734 (host := "") (Or.inl (own_wd hw 24 rfl)) Via.refl xV (by decide +kernel) ?_
  intro T735 S736
  refine own_callS C S736 (own_wd hw 67 rfl) (own_wd hw 68 rfl) (own_wd hw 4 rfl) (own_wd hw 69 rfl) (by decide) (own_Met.pay (own_en2 l Z a0 hw G1 G3 U8 b _ k h0 n0 z0 X00 bK bE O2 O4 P5 rG3 OU1 OU2 OA OH OL hb) C 0 (own_wd hw 69 rfl) (own_wd hw 4 rfl) (by decide) (by decide)) (fun _ _ _ q => q.2) [(.ref U8), (.int 0), (.ref b)] [] rfl own_pd19 rfl rfl rfl (Nat.le_of_ble_eq_true rfl) (by decide) (by decide) (by decide +kernel) ?_
  rintro T743 h744 v745 L746 S747 ⟨⟨a737, k738, rfl, g739, K740, f741, f742⟩, -⟩
  show own_Go p e below _ T743 (mkF m 24 #[.val (.ref x), .val (.ref U8)] [(.ref a737)])
  refine own_retA C S747 rfl rfl (by decide +kernel) (by decide) (by decide) ?_
  have o748 : h0.size ≤ a737 := Nat.le_trans (Nat.le_refl _) g739
  exact ⟨a737, k738, rfl, o748, ((Keep.refl _ _).trans K740 all0), f741, f742⟩
theorem own_pd21 : parseMethodDescriptor "([BZ)[B" = some ⟨[(.array .byte), .boolean], (some (.array .byte))⟩ := by decide +kernel
theorem own_e83 (l : Launch) (Z : State) (a0 : Array Value) (hw : ∀ d ∈ tables_1, d.before a0 Z = true) (G1 : Int32) (G3 : Value) (U8 : Addr) (b : Addr) (bk : ClassId) (k : Int32) (h0 : Heap) (n0 : Nat) (z0 : n0 ≤ h0.size) (X00 : Old Z n0 h0) (bK : Arv Z h0 b bk .byte (2 : Int32) ([(.int ((k >>> ((0 : Int32) &&& 31)).toInt8.toInt32)), (.int ((k >>> ((8 : Int32) &&& 31)).toInt8.toInt32))]) (.int 0)) (bE : Exa Z h0 b "[B") (O2 : Sta Z Z.heap "java/lang/String" "COMPACT_STRINGS" "Z" (.int G1)) (O4 : Sta Z Z.heap "jdk/internal/util/Preconditions" "SIOOBE_FORMATTER" "Ljava/util/function/BiFunction;" G3) (P5 : ¬ G1 = (0 : Int32)) (rG3 : G3.isRef = true) (OU1 : Sta Z Z.heap "java/nio/charset/StandardCharsets" "UTF_8" "Ljava/nio/charset/Charset;" (.ref U8)) (OU2 : Sta Z Z.heap "sun/nio/cs/UTF_8" "INSTANCE" "Lsun/nio/cs/UTF_8;" (.ref U8)) (OA : Sta Z Z.heap "java/lang/StringUTF16" "$assertionsDisabled" "Z" (.int 1)) (OH : Sta Z Z.heap "java/lang/StringUTF16" "HI_BYTE_SHIFT" "I" (.int 0)) (OL : Sta Z Z.heap "java/lang/StringUTF16" "LO_BYTE_SHIFT" "I" (.int 8)) (hk : 0 ≤ k.toInt ∧ k.toInt ≤ 65535) (h1 : ¬ k < (128 : Int32)) (h2 : k < (2048 : Int32)) :
    own_Met l Z (⟨"java/lang/String", "encodeUTF8", "(B[BZ)[B"⟩ : MethodName) jdk_42_method_46_code 9 (some (.array .byte)) ({ frames := 3, cells := 2, slots := 5, locals := 52 } : Room) n0 #[(.int 1), (.ref b), (.int 1)] h0 (fun v h => ∃ r : Addr, ∃ rk : ClassId, v = some (.ref r) ∧ h0.size ≤ r ∧ Keep h0 h [] ∧ Arv Z h r rk .byte (2 : Int32) ([(.int (((192 : Int32) ||| (k >>> ((6 : Int32) &&& 31))).toInt8.toInt32)), (.int (((128 : Int32) ||| (k &&& (63 : Int32))).toInt8.toInt32))]) (.int 0) ∧ Exa Z h r "[B") := by
  refine own_met (by decide +kernel) #[.val (.int 1), .val (.ref b), .val (.int 1), .unset, .unset, .unset, .unset, .unset, .unset] (fun m => by first | (simp [entryFrame, mkF, argsToLocals, Value.category]; done) | rfl) ?_
  intro p e s m below meth c T0 C S0
  refine own_seg C S0 [(0, .iload_n 0, 1), (1, .iconst 1, 1)] (by decide +kernel) 2 #[.val (.int 1), .val (.ref b), .val (.int 1), .unset, .unset, .unset, .unset, .unset, .unset] [(.int 1), (.int 1)] rfl ?_
  refine own_icmp C S0 (q := .ne) (o := 9) (by decide +kernel) 11 (by decide) (by decide) (fun (hq : ¬ (1 : Int32) = (1 : Int32)) => False.elim (by revert hq; decide)) (fun (q749 : (1 : Int32) = (1 : Int32)) => ?_)
  refine own_seg C S0 [(5, .aload_n 1, 1), (6, .iload_n 2, 1)] (by decide +kernel) 7 #[.val (.int 1), .val (.ref b), .val (.int 1), .unset, .unset, .unset, .unset, .unset, .unset] [(.int 1), (.ref b)] rfl ?_
  refine own_callS C S0 (own_wd hw 275 rfl) (own_wd hw 276 rfl) (own_wd hw 4 rfl) (own_wd hw 277 rfl) (by decide) (own_Met.pay (own_eu2 l Z a0 hw G1 G3 U8 b _ k h0 n0 z0 X00 bK O2 O4 P5 rG3 OU1 OU2 OA OH OL hk h1 h2) C 0 (own_wd hw 277 rfl) (own_wd hw 4 rfl) (by decide) (by decide)) (fun _ _ _ q => q.2) [(.ref b), (.int 1)] [] rfl own_pd21 rfl rfl rfl (Nat.le_of_ble_eq_true rfl) (by decide) (by decide) (by decide +kernel) ?_
  rintro T756 h757 v758 L759 S760 ⟨⟨a750, k751, rfl, g752, K753, f754, f755⟩, -⟩
  show own_Go p e below _ T756 (mkF m 10 #[.val (.int 1), .val (.ref b), .val (.int 1), .unset, .unset, .unset, .unset, .unset, .unset] [(.ref a750)])
  refine own_retA C S760 rfl rfl (by decide +kernel) (by decide) (by decide) ?_
  have o761 : h0.size ≤ a750 := Nat.le_trans (Nat.le_refl _) g752
  exact ⟨a750, k751, rfl, o761, ((Keep.refl _ _).trans K753 all0), f754, f755⟩
theorem own_en3 (l : Launch) (Z : State) (a0 : Array Value) (hw : ∀ d ∈ tables_1, d.before a0 Z = true) (G1 : Int32) (G3 : Value) (U8 : Addr) (b : Addr) (bk : ClassId) (k : Int32) (h0 : Heap) (n0 : Nat) (z0 : n0 ≤ h0.size) (X00 : Old Z n0 h0) (bK : Arv Z h0 b bk .byte (2 : Int32) ([(.int ((k >>> ((0 : Int32) &&& 31)).toInt8.toInt32)), (.int ((k >>> ((8 : Int32) &&& 31)).toInt8.toInt32))]) (.int 0)) (bE : Exa Z h0 b "[B") (O2 : Sta Z Z.heap "java/lang/String" "COMPACT_STRINGS" "Z" (.int G1)) (O4 : Sta Z Z.heap "jdk/internal/util/Preconditions" "SIOOBE_FORMATTER" "Ljava/util/function/BiFunction;" G3) (P5 : ¬ G1 = (0 : Int32)) (rG3 : G3.isRef = true) (OU1 : Sta Z Z.heap "java/nio/charset/StandardCharsets" "UTF_8" "Ljava/nio/charset/Charset;" (.ref U8)) (OU2 : Sta Z Z.heap "sun/nio/cs/UTF_8" "INSTANCE" "Lsun/nio/cs/UTF_8;" (.ref U8)) (OA : Sta Z Z.heap "java/lang/StringUTF16" "$assertionsDisabled" "Z" (.int 1)) (OH : Sta Z Z.heap "java/lang/StringUTF16" "HI_BYTE_SHIFT" "I" (.int 0)) (OL : Sta Z Z.heap "java/lang/StringUTF16" "LO_BYTE_SHIFT" "I" (.int 8)) (hk : 0 ≤ k.toInt ∧ k.toInt ≤ 65535) (h1 : ¬ k < (128 : Int32)) (h2 : k < (2048 : Int32)) :
    own_Met l Z (⟨"java/lang/String", "encode", "(Ljava/nio/charset/Charset;B[B)[B"⟩ : MethodName) jdk_42_method_18_code 3 (some (.array .byte)) ({ frames := 4, cells := 2, slots := 5, locals := 72 } : Room) n0 #[(.ref U8), (.int 1), (.ref b)] h0 (fun v h => ∃ r : Addr, ∃ rk : ClassId, v = some (.ref r) ∧ h0.size ≤ r ∧ Keep h0 h [] ∧ Arv Z h r rk .byte (2 : Int32) ([(.int (((192 : Int32) ||| (k >>> ((6 : Int32) &&& 31))).toInt8.toInt32)), (.int (((128 : Int32) ||| (k &&& (63 : Int32))).toInt8.toInt32))]) (.int 0) ∧ Exa Z h r "[B") := by
  refine own_met (by decide +kernel) #[.val (.ref U8), .val (.int 1), .val (.ref b)] (fun m => by first | (simp [entryFrame, mkF, argsToLocals, Value.category]; done) | rfl) ?_
  intro p e s m below meth c T0 C S0
  refine own_seg C S0 [(0, .aload_n 0, 1)] (by decide +kernel) 1 #[.val (.ref U8), .val (.int 1), .val (.ref b)] [(.ref U8)] rfl ?_
  refine own_getS C S0 (own_wd hw 70 rfl) Via.refl (OU2.ext X00.2) (by decide +kernel) ?_
  intro T762 S763
  refine own_acmp C S763 (q := .ne) (o := 10) rfl rfl (by decide +kernel) 14 (by decide) (by decide) (fun (hq : ¬ ((.ref U8) : Value) = (.ref U8)) => False.elim (hq rfl)) (fun (q764 : ((.ref U8) : Value) = (.ref U8)) => ?_)
  refine own_seg C S763 [(7, .iload_n 1, 1), (8, .aload_n 2, 1), (9, .iconst 1, 1)] (by decide +kernel) 10 #[.val (.ref U8), .val (.int 1), .val (.ref b)] [(.int 1), (.ref b), (.int 1)] rfl ?_
  refine own_callS C S763 (own_wd hw 72 rfl) (own_wd hw 73 rfl) (own_wd hw 4 rfl) (own_wd hw 74 rfl) (by decide) (own_Met.pay (own_e83 l Z a0 hw G1 G3 U8 b _ k h0 n0 z0 X00 bK bE O2 O4 P5 rG3 OU1 OU2 OA OH OL hk h1 h2) C 0 (own_wd hw 74 rfl) (own_wd hw 4 rfl) (by decide) (by decide)) (fun _ _ _ q => q.2) [(.int 1), (.ref b), (.int 1)] [] rfl own_pd18 rfl rfl rfl (Nat.le_of_ble_eq_true rfl) (by decide) (by decide) (by decide +kernel) ?_
  rintro T771 h772 v773 L774 S775 ⟨⟨a765, k766, rfl, g767, K768, f769, f770⟩, -⟩
  show own_Go p e below _ T771 (mkF m 13 #[.val (.ref U8), .val (.int 1), .val (.ref b)] [(.ref a765)])
  refine own_retA C S775 rfl rfl (by decide +kernel) (by decide) (by decide) ?_
  have o776 : h0.size ≤ a765 := Nat.le_trans (Nat.le_refl _) g767
  exact ⟨a765, k766, rfl, o776, ((Keep.refl _ _).trans K768 all0), f769, f770⟩
theorem own_gb3 (l : Launch) (Z : State) (a0 : Array Value) (hw : ∀ d ∈ tables_1, d.before a0 Z = true) (G1 : Int32) (G3 : Value) (U8 : Addr) (x : Addr) (b : Addr) (bk : ClassId) (k : Int32) (h0 : Heap) (n0 : Nat) (z0 : n0 ≤ h0.size) (X00 : Old Z n0 h0) (xE : Exa Z h0 x "java/lang/String") (xV : Fld Z h0 x "java/lang/String" "value" "[B" (.ref b)) (xC : Fld Z h0 x "java/lang/String" "coder" "B" (.int 1)) (bK : Arv Z h0 b bk .byte (2 : Int32) ([(.int ((k >>> ((0 : Int32) &&& 31)).toInt8.toInt32)), (.int ((k >>> ((8 : Int32) &&& 31)).toInt8.toInt32))]) (.int 0)) (bE : Exa Z h0 b "[B") (O2 : Sta Z Z.heap "java/lang/String" "COMPACT_STRINGS" "Z" (.int G1)) (O4 : Sta Z Z.heap "jdk/internal/util/Preconditions" "SIOOBE_FORMATTER" "Ljava/util/function/BiFunction;" G3) (P5 : ¬ G1 = (0 : Int32)) (rG3 : G3.isRef = true) (OU1 : Sta Z Z.heap "java/nio/charset/StandardCharsets" "UTF_8" "Ljava/nio/charset/Charset;" (.ref U8)) (OU2 : Sta Z Z.heap "sun/nio/cs/UTF_8" "INSTANCE" "Lsun/nio/cs/UTF_8;" (.ref U8)) (OA : Sta Z Z.heap "java/lang/StringUTF16" "$assertionsDisabled" "Z" (.int 1)) (OH : Sta Z Z.heap "java/lang/StringUTF16" "HI_BYTE_SHIFT" "I" (.int 0)) (OL : Sta Z Z.heap "java/lang/StringUTF16" "LO_BYTE_SHIFT" "I" (.int 8)) (hk : 0 ≤ k.toInt ∧ k.toInt ≤ 65535) (h1 : ¬ k < (128 : Int32)) (h2 : k < (2048 : Int32)) :
    own_Met l Z (⟨"java/lang/String", "getBytes", "(Ljava/nio/charset/Charset;)[B"⟩ : MethodName) jdk_42_method_64_code 2 (some (.array .byte)) ({ frames := 5, cells := 2, slots := 5, locals := 86 } : Room) n0 #[(.ref x), (.ref U8)] h0 (fun v h => ∃ r : Addr, ∃ rk : ClassId, v = some (.ref r) ∧ h0.size ≤ r ∧ Keep h0 h [] ∧ Arv Z h r rk .byte (2 : Int32) ([(.int (((192 : Int32) ||| (k >>> ((6 : Int32) &&& 31))).toInt8.toInt32)), (.int (((128 : Int32) ||| (k &&& (63 : Int32))).toInt8.toInt32))]) (.int 0) ∧ Exa Z h r "[B") := by
  refine own_met (by decide +kernel) #[.val (.ref x), .val (.ref U8)] (fun m => by first | (simp [entryFrame, mkF, argsToLocals, Value.category]; done) | rfl) ?_
  intro p e s m below meth c T0 C S0
  refine own_seg C S0 [(0, .aload_n 1, 1), (1, .ifnonnull 11, 3), (12, .aload_n 1, 1), (13, .aload_n 0, 1)] (by decide +kernel) 14 #[.val (.ref x), .val (.ref U8)] [(.ref x), (.ref U8)] rfl ?_
  refine own_callV C S0 (own_wd hw 40 rfl) (own_wd hw 41 rfl) (own_wd hw 43 rfl) (own_wd hw 43 rfl) rfl (own_wd hw 42 rfl) (by decide) (own_Met.pay (own_coder l Z a0 hw G1 G3 x _ h0 n0 z0 X00 xC O2 O4 P5 rG3 (by decide)) C 1 (own_wd hw 44 rfl) (own_wd hw 4 rfl) (by decide) (by decide)) (fun _ _ _ q => q.2) xE [] [(.ref U8)] rfl own_pd0 rfl rfl rfl (Nat.le_of_ble_eq_true rfl) (by decide) (by decide) (by decide +kernel) ?_
  rintro T778 h779 v780 L781 S782 ⟨⟨rfl, e777⟩, -⟩
  rw [e777] at S782; clear e777
  show own_Go p e below _ T778 (mkF m 17 #[.val (.ref x), .val (.ref U8)] [(.int 1), (.ref U8)])
  refine own_seg C S782 [(17, .aload_n 0, 1)] (by decide +kernel) 18 #[.val (.ref x), .val (.ref U8)] [(.ref x), (.int 1), (.ref U8)] rfl ?_
  refine own_getF C S782 (host := "") (Or.inl (own_wd hw 24 rfl)) Via.refl xV (by decide +kernel) ?_
  intro T783 S784
  refine own_callS C S784 (own_wd hw 67 rfl) (own_wd hw 68 rfl) (own_wd hw 4 rfl) (own_wd hw 69 rfl) (by decide) (own_Met.pay (own_en3 l Z a0 hw G1 G3 U8 b _ k h0 n0 z0 X00 bK bE O2 O4 P5 rG3 OU1 OU2 OA OH OL hk h1 h2) C 0 (own_wd hw 69 rfl) (own_wd hw 4 rfl) (by decide) (by decide)) (fun _ _ _ q => q.2) [(.ref U8), (.int 1), (.ref b)] [] rfl own_pd19 rfl rfl rfl (Nat.le_of_ble_eq_true rfl) (by decide) (by decide) (by decide +kernel) ?_
  rintro T791 h792 v793 L794 S795 ⟨⟨a785, k786, rfl, g787, K788, f789, f790⟩, -⟩
  show own_Go p e below _ T791 (mkF m 24 #[.val (.ref x), .val (.ref U8)] [(.ref a785)])
  refine own_retA C S795 rfl rfl (by decide +kernel) (by decide) (by decide) ?_
  have o796 : h0.size ≤ a785 := Nat.le_trans (Nat.le_refl _) g787
  exact ⟨a785, k786, rfl, o796, ((Keep.refl _ _).trans K788 all0), f789, f790⟩
theorem own_e84 (l : Launch) (Z : State) (a0 : Array Value) (hw : ∀ d ∈ tables_1, d.before a0 Z = true) (G1 : Int32) (G3 : Value) (U8 : Addr) (b : Addr) (bk : ClassId) (k : Int32) (h0 : Heap) (n0 : Nat) (z0 : n0 ≤ h0.size) (X00 : Old Z n0 h0) (bK : Arv Z h0 b bk .byte (2 : Int32) ([(.int ((k >>> ((0 : Int32) &&& 31)).toInt8.toInt32)), (.int ((k >>> ((8 : Int32) &&& 31)).toInt8.toInt32))]) (.int 0)) (bE : Exa Z h0 b "[B") (O2 : Sta Z Z.heap "java/lang/String" "COMPACT_STRINGS" "Z" (.int G1)) (O4 : Sta Z Z.heap "jdk/internal/util/Preconditions" "SIOOBE_FORMATTER" "Ljava/util/function/BiFunction;" G3) (P5 : ¬ G1 = (0 : Int32)) (rG3 : G3.isRef = true) (OU1 : Sta Z Z.heap "java/nio/charset/StandardCharsets" "UTF_8" "Ljava/nio/charset/Charset;" (.ref U8)) (OU2 : Sta Z Z.heap "sun/nio/cs/UTF_8" "INSTANCE" "Lsun/nio/cs/UTF_8;" (.ref U8)) (OA : Sta Z Z.heap "java/lang/StringUTF16" "$assertionsDisabled" "Z" (.int 1)) (OH : Sta Z Z.heap "java/lang/StringUTF16" "HI_BYTE_SHIFT" "I" (.int 0)) (OL : Sta Z Z.heap "java/lang/StringUTF16" "LO_BYTE_SHIFT" "I" (.int 8)) (hk : 0 ≤ k.toInt ∧ k.toInt ≤ 65535) (h1 : ¬ k < (128 : Int32)) (h2 : ¬ k < (2048 : Int32)) (hs : k < (55296 : Int32) ∨ ¬ k < (57344 : Int32)) :
    own_Met l Z (⟨"java/lang/String", "encodeUTF8", "(B[BZ)[B"⟩ : MethodName) jdk_42_method_46_code 9 (some (.array .byte)) ({ frames := 2, cells := 1, slots := 3, locals := 33 } : Room) n0 #[(.int 1), (.ref b), (.int 1)] h0 (fun v h => ∃ r : Addr, ∃ rk : ClassId, v = some (.ref r) ∧ h0.size ≤ r ∧ Keep h0 h [] ∧ Arv Z h r rk .byte (3 : Int32) ([(.int (((224 : Int32) ||| (k >>> ((12 : Int32) &&& 31))).toInt8.toInt32)), (.int (((128 : Int32) ||| ((k >>> ((6 : Int32) &&& 31)) &&& (63 : Int32))).toInt8.toInt32)), (.int (((128 : Int32) ||| (k &&& (63 : Int32))).toInt8.toInt32))]) (.int 0) ∧ Exa Z h r "[B") := by
  refine own_met (by decide +kernel) #[.val (.int 1), .val (.ref b), .val (.int 1), .unset, .unset, .unset, .unset, .unset, .unset] (fun m => by first | (simp [entryFrame, mkF, argsToLocals, Value.category]; done) | rfl) ?_
  intro p e s m below meth c T0 C S0
  refine own_seg C S0 [(0, .iload_n 0, 1), (1, .iconst 1, 1)] (by decide +kernel) 2 #[.val (.int 1), .val (.ref b), .val (.int 1), .unset, .unset, .unset, .unset, .unset, .unset] [(.int 1), (.int 1)] rfl ?_
  refine own_icmp C S0 (q := .ne) (o := 9) (by decide +kernel) 11 (by decide) (by decide) (fun (hq : ¬ (1 : Int32) = (1 : Int32)) => False.elim (by revert hq; decide)) (fun (q797 : (1 : Int32) = (1 : Int32)) => ?_)
  refine own_seg C S0 [(5, .aload_n 1, 1), (6, .iload_n 2, 1)] (by decide +kernel) 7 #[.val (.int 1), .val (.ref b), .val (.int 1), .unset, .unset, .unset, .unset, .unset, .unset] [(.int 1), (.ref b)] rfl ?_
  refine own_callS C S0 (own_wd hw 275 rfl) (own_wd hw 276 rfl) (own_wd hw 4 rfl) (own_wd hw 277 rfl) (by decide) (own_Met.pay (own_eu3 l Z a0 hw G1 G3 U8 b _ k h0 n0 z0 X00 bK O2 O4 P5 rG3 OU1 OU2 OA OH OL hk h1 h2 hs) C 0 (own_wd hw 277 rfl) (own_wd hw 4 rfl) (by decide) (by decide)) (fun _ _ _ q => q.2) [(.ref b), (.int 1)] [] rfl own_pd21 rfl rfl rfl (Nat.le_of_ble_eq_true rfl) (by decide) (by decide) (by decide +kernel) ?_
  rintro T804 h805 v806 L807 S808 ⟨⟨a798, k799, rfl, g800, K801, f802, f803⟩, -⟩
  show own_Go p e below _ T804 (mkF m 10 #[.val (.int 1), .val (.ref b), .val (.int 1), .unset, .unset, .unset, .unset, .unset, .unset] [(.ref a798)])
  refine own_retA C S808 rfl rfl (by decide +kernel) (by decide) (by decide) ?_
  have o809 : h0.size ≤ a798 := Nat.le_trans (Nat.le_refl _) g800
  exact ⟨a798, k799, rfl, o809, ((Keep.refl _ _).trans K801 all0), f802, f803⟩
theorem own_en4 (l : Launch) (Z : State) (a0 : Array Value) (hw : ∀ d ∈ tables_1, d.before a0 Z = true) (G1 : Int32) (G3 : Value) (U8 : Addr) (b : Addr) (bk : ClassId) (k : Int32) (h0 : Heap) (n0 : Nat) (z0 : n0 ≤ h0.size) (X00 : Old Z n0 h0) (bK : Arv Z h0 b bk .byte (2 : Int32) ([(.int ((k >>> ((0 : Int32) &&& 31)).toInt8.toInt32)), (.int ((k >>> ((8 : Int32) &&& 31)).toInt8.toInt32))]) (.int 0)) (bE : Exa Z h0 b "[B") (O2 : Sta Z Z.heap "java/lang/String" "COMPACT_STRINGS" "Z" (.int G1)) (O4 : Sta Z Z.heap "jdk/internal/util/Preconditions" "SIOOBE_FORMATTER" "Ljava/util/function/BiFunction;" G3) (P5 : ¬ G1 = (0 : Int32)) (rG3 : G3.isRef = true) (OU1 : Sta Z Z.heap "java/nio/charset/StandardCharsets" "UTF_8" "Ljava/nio/charset/Charset;" (.ref U8)) (OU2 : Sta Z Z.heap "sun/nio/cs/UTF_8" "INSTANCE" "Lsun/nio/cs/UTF_8;" (.ref U8)) (OA : Sta Z Z.heap "java/lang/StringUTF16" "$assertionsDisabled" "Z" (.int 1)) (OH : Sta Z Z.heap "java/lang/StringUTF16" "HI_BYTE_SHIFT" "I" (.int 0)) (OL : Sta Z Z.heap "java/lang/StringUTF16" "LO_BYTE_SHIFT" "I" (.int 8)) (hk : 0 ≤ k.toInt ∧ k.toInt ≤ 65535) (h1 : ¬ k < (128 : Int32)) (h2 : ¬ k < (2048 : Int32)) (hs : k < (55296 : Int32) ∨ ¬ k < (57344 : Int32)) :
    own_Met l Z (⟨"java/lang/String", "encode", "(Ljava/nio/charset/Charset;B[B)[B"⟩ : MethodName) jdk_42_method_18_code 3 (some (.array .byte)) ({ frames := 3, cells := 1, slots := 3, locals := 53 } : Room) n0 #[(.ref U8), (.int 1), (.ref b)] h0 (fun v h => ∃ r : Addr, ∃ rk : ClassId, v = some (.ref r) ∧ h0.size ≤ r ∧ Keep h0 h [] ∧ Arv Z h r rk .byte (3 : Int32) ([(.int (((224 : Int32) ||| (k >>> ((12 : Int32) &&& 31))).toInt8.toInt32)), (.int (((128 : Int32) ||| ((k >>> ((6 : Int32) &&& 31)) &&& (63 : Int32))).toInt8.toInt32)), (.int (((128 : Int32) ||| (k &&& (63 : Int32))).toInt8.toInt32))]) (.int 0) ∧ Exa Z h r "[B") := by
  refine own_met (by decide +kernel) #[.val (.ref U8), .val (.int 1), .val (.ref b)] (fun m => by first | (simp [entryFrame, mkF, argsToLocals, Value.category]; done) | rfl) ?_
  intro p e s m below meth c T0 C S0
  refine own_seg C S0 [(0, .aload_n 0, 1)] (by decide +kernel) 1 #[.val (.ref U8), .val (.int 1), .val (.ref b)] [(.ref U8)] rfl ?_
  refine own_getS C S0 (own_wd hw 70 rfl) Via.refl (OU2.ext X00.2) (by decide +kernel) ?_
  intro T810 S811
  refine own_acmp C S811 (q := .ne) (o := 10) rfl rfl (by decide +kernel) 14 (by decide) (by decide) (fun (hq : ¬ ((.ref U8) : Value) = (.ref U8)) => False.elim (hq rfl)) (fun (q812 : ((.ref U8) : Value) = (.ref U8)) => ?_)
  refine own_seg C S811 [(7, .iload_n 1, 1), (8, .aload_n 2, 1), (9, .iconst 1, 1)] (by decide +kernel) 10 #[.val (.ref U8), .val (.int 1), .val (.ref b)] [(.int 1), (.ref b), (.int 1)] rfl ?_
  refine own_callS C S811 (own_wd hw 72 rfl) (own_wd hw 73 rfl) (own_wd hw 4 rfl) (own_wd hw 74 rfl) (by decide) (own_Met.pay (own_e84 l Z a0 hw G1 G3 U8 b _ k h0 n0 z0 X00 bK bE O2 O4 P5 rG3 OU1 OU2 OA OH OL hk h1 h2 hs) C 0 (own_wd hw 74 rfl) (own_wd hw 4 rfl) (by decide) (by decide)) (fun _ _ _ q => q.2) [(.int 1), (.ref b), (.int 1)] [] rfl own_pd18 rfl rfl rfl (Nat.le_of_ble_eq_true rfl) (by decide) (by decide) (by decide +kernel) ?_
  rintro T819 h820 v821 L822 S823 ⟨⟨a813, k814, rfl, g815, K816, f817, f818⟩, -⟩
  show own_Go p e below _ T819 (mkF m 13 #[.val (.ref U8), .val (.int 1), .val (.ref b)] [(.ref a813)])
  refine own_retA C S823 rfl rfl (by decide +kernel) (by decide) (by decide) ?_
  have o824 : h0.size ≤ a813 := Nat.le_trans (Nat.le_refl _) g815
  exact ⟨a813, k814, rfl, o824, ((Keep.refl _ _).trans K816 all0), f817, f818⟩
theorem own_gb4 (l : Launch) (Z : State) (a0 : Array Value) (hw : ∀ d ∈ tables_1, d.before a0 Z = true) (G1 : Int32) (G3 : Value) (U8 : Addr) (x : Addr) (b : Addr) (bk : ClassId) (k : Int32) (h0 : Heap) (n0 : Nat) (z0 : n0 ≤ h0.size) (X00 : Old Z n0 h0) (xE : Exa Z h0 x "java/lang/String") (xV : Fld Z h0 x "java/lang/String" "value" "[B" (.ref b)) (xC : Fld Z h0 x "java/lang/String" "coder" "B" (.int 1)) (bK : Arv Z h0 b bk .byte (2 : Int32) ([(.int ((k >>> ((0 : Int32) &&& 31)).toInt8.toInt32)), (.int ((k >>> ((8 : Int32) &&& 31)).toInt8.toInt32))]) (.int 0)) (bE : Exa Z h0 b "[B") (O2 : Sta Z Z.heap "java/lang/String" "COMPACT_STRINGS" "Z" (.int G1)) (O4 : Sta Z Z.heap "jdk/internal/util/Preconditions" "SIOOBE_FORMATTER" "Ljava/util/function/BiFunction;" G3) (P5 : ¬ G1 = (0 : Int32)) (rG3 : G3.isRef = true) (OU1 : Sta Z Z.heap "java/nio/charset/StandardCharsets" "UTF_8" "Ljava/nio/charset/Charset;" (.ref U8)) (OU2 : Sta Z Z.heap "sun/nio/cs/UTF_8" "INSTANCE" "Lsun/nio/cs/UTF_8;" (.ref U8)) (OA : Sta Z Z.heap "java/lang/StringUTF16" "$assertionsDisabled" "Z" (.int 1)) (OH : Sta Z Z.heap "java/lang/StringUTF16" "HI_BYTE_SHIFT" "I" (.int 0)) (OL : Sta Z Z.heap "java/lang/StringUTF16" "LO_BYTE_SHIFT" "I" (.int 8)) (hk : 0 ≤ k.toInt ∧ k.toInt ≤ 65535) (h1 : ¬ k < (128 : Int32)) (h2 : ¬ k < (2048 : Int32)) (hs : k < (55296 : Int32) ∨ ¬ k < (57344 : Int32)) :
    own_Met l Z (⟨"java/lang/String", "getBytes", "(Ljava/nio/charset/Charset;)[B"⟩ : MethodName) jdk_42_method_64_code 2 (some (.array .byte)) ({ frames := 4, cells := 1, slots := 3, locals := 67 } : Room) n0 #[(.ref x), (.ref U8)] h0 (fun v h => ∃ r : Addr, ∃ rk : ClassId, v = some (.ref r) ∧ h0.size ≤ r ∧ Keep h0 h [] ∧ Arv Z h r rk .byte (3 : Int32) ([(.int (((224 : Int32) ||| (k >>> ((12 : Int32) &&& 31))).toInt8.toInt32)), (.int (((128 : Int32) ||| ((k >>> ((6 : Int32) &&& 31)) &&& (63 : Int32))).toInt8.toInt32)), (.int (((128 : Int32) ||| (k &&& (63 : Int32))).toInt8.toInt32))]) (.int 0) ∧ Exa Z h r "[B") := by
  refine own_met (by decide +kernel) #[.val (.ref x), .val (.ref U8)] (fun m => by first | (simp [entryFrame, mkF, argsToLocals, Value.category]; done) | rfl) ?_
  intro p e s m below meth c T0 C S0
  refine own_seg C S0 [(0, .aload_n 1, 1), (1, .ifnonnull 11, 3), (12, .aload_n 1, 1), (13, .aload_n 0, 1)] (by decide +kernel) 14 #[.val (.ref x), .val (.ref U8)] [(.ref x), (.ref U8)] rfl ?_
  refine own_callV C S0 (own_wd hw 40 rfl) (own_wd hw 41 rfl) (own_wd hw 43 rfl) (own_wd hw 43 rfl) rfl (own_wd hw 42 rfl) (by decide) (own_Met.pay (own_coder l Z a0 hw G1 G3 x _ h0 n0 z0 X00 xC O2 O4 P5 rG3 (by decide)) C 1 (own_wd hw 44 rfl) (own_wd hw 4 rfl) (by decide) (by decide)) (fun _ _ _ q => q.2) xE [] [(.ref U8)] rfl own_pd0 rfl rfl rfl (Nat.le_of_ble_eq_true rfl) (by decide) (by decide) (by decide +kernel) ?_
  rintro T826 h827 v828 L829 S830 ⟨⟨rfl, e825⟩, -⟩
  rw [e825] at S830; clear e825
  show own_Go p e below _ T826 (mkF m 17 #[.val (.ref x), .val (.ref U8)] [(.int 1), (.ref U8)])
  refine own_seg C S830 [(17, .aload_n 0, 1)] (by decide +kernel) 18 #[.val (.ref x), .val (.ref U8)] [(.ref x), (.int 1), (.ref U8)] rfl ?_
  refine own_getF C S830 (host := "") (Or.inl (own_wd hw 24 rfl)) Via.refl xV (by decide +kernel) ?_
  intro T831 S832
  refine own_callS C S832 (own_wd hw 67 rfl) (own_wd hw 68 rfl) (own_wd hw 4 rfl) (own_wd hw 69 rfl) (by decide) (own_Met.pay (own_en4 l Z a0 hw G1 G3 U8 b _ k h0 n0 z0 X00 bK bE O2 O4 P5 rG3 OU1 OU2 OA OH OL hk h1 h2 hs) C 0 (own_wd hw 69 rfl) (own_wd hw 4 rfl) (by decide) (by decide)) (fun _ _ _ q => q.2) [(.ref U8), (.int 1), (.ref b)] [] rfl own_pd19 rfl rfl rfl (Nat.le_of_ble_eq_true rfl) (by decide) (by decide) (by decide +kernel) ?_
  rintro T839 h840 v841 L842 S843 ⟨⟨a833, k834, rfl, g835, K836, f837, f838⟩, -⟩
  show own_Go p e below _ T839 (mkF m 24 #[.val (.ref x), .val (.ref U8)] [(.ref a833)])
  refine own_retA C S843 rfl rfl (by decide +kernel) (by decide) (by decide) ?_
  have o844 : h0.size ≤ a833 := Nat.le_trans (Nat.le_refl _) g835
  exact ⟨a833, k834, rfl, o844, ((Keep.refl _ _).trans K836 all0), f837, f838⟩
theorem own_sn2 {Z : State} {a0 : Array Value} (hw : ∀ d ∈ tables_1, d.before a0 Z = true) : Jvm.RoadKit.slotOf Z "java/lang/AbstractStringBuilder" "coder" "B" ≠ Jvm.RoadKit.slotOf Z "java/lang/AbstractStringBuilder" "value" "[B" := slot_ne (Or.inl (own_wd hw 59 rfl)) (Or.inl (own_wd hw 57 rfl)) (by decide) own_fd1 own_fd0
theorem own_sn3 {Z : State} {a0 : Array Value} (hw : ∀ d ∈ tables_1, d.before a0 Z = true) : Jvm.RoadKit.slotOf Z "java/lang/AbstractStringBuilder" "value" "[B" ≠ Jvm.RoadKit.slotOf Z "java/lang/AbstractStringBuilder" "coder" "B" := slot_ne (Or.inl (own_wd hw 57 rfl)) (Or.inl (own_wd hw 59 rfl)) (by decide) own_fd0 own_fd1
theorem own_fd2 : parseFieldDescriptor "I" = some .int := by decide +kernel
theorem own_sn4 {Z : State} {a0 : Array Value} (hw : ∀ d ∈ tables_1, d.before a0 Z = true) : Jvm.RoadKit.slotOf Z "java/lang/AbstractStringBuilder" "count" "I" ≠ Jvm.RoadKit.slotOf Z "java/lang/AbstractStringBuilder" "value" "[B" := slot_ne (Or.inl (own_wd hw 140 rfl)) (Or.inl (own_wd hw 57 rfl)) (by decide) own_fd2 own_fd0
theorem own_sn5 {Z : State} {a0 : Array Value} (hw : ∀ d ∈ tables_1, d.before a0 Z = true) : Jvm.RoadKit.slotOf Z "java/lang/AbstractStringBuilder" "count" "I" ≠ Jvm.RoadKit.slotOf Z "java/lang/AbstractStringBuilder" "coder" "B" := slot_ne (Or.inl (own_wd hw 140 rfl)) (Or.inl (own_wd hw 59 rfl)) (by decide) own_fd2 own_fd1
theorem own_asbI0 (l : Launch) (Z : State) (a0 : Array Value) (hw : ∀ d ∈ tables_1, d.before a0 Z = true) (G1 : Int32) (G3 : Value) (a : Addr) (h0 : Heap) (n0 : Nat) (z0 : n0 ≤ h0.size) (ge_a : n0 ≤ a) (X00 : Old Z n0 h0) (aE : Exa Z h0 a "java/lang/StringBuilder") (aV : Fld Z h0 a "java/lang/AbstractStringBuilder" "value" "[B" .null) (aC : Fld Z h0 a "java/lang/AbstractStringBuilder" "coder" "B" (.int 0)) (aN : Fld Z h0 a "java/lang/AbstractStringBuilder" "count" "I" (.int 0)) (O2 : Sta Z Z.heap "java/lang/String" "COMPACT_STRINGS" "Z" (.int G1)) (O4 : Sta Z Z.heap "jdk/internal/util/Preconditions" "SIOOBE_FORMATTER" "Ljava/util/function/BiFunction;" G3) (P5 : ¬ G1 = (0 : Int32)) (rG3 : G3.isRef = true) :
    own_Met l Z (⟨"java/lang/AbstractStringBuilder", "<init>", "(I)V"⟩ : MethodName) jdk_68_method_2_code 2 none ({ frames := 1, cells := 1, slots := 0, locals := 12 } : Room) n0 #[(.ref a), (.int 0)] h0 (fun v h => ∃ b : Addr, ∃ bk : ClassId, v = none ∧ h0.size ≤ b ∧ Keep h0 h [a] ∧ Exa Z h a "java/lang/StringBuilder" ∧ Fld Z h a "java/lang/AbstractStringBuilder" "value" "[B" (.ref b) ∧ Fld Z h a "java/lang/AbstractStringBuilder" "coder" "B" (.int 0) ∧ Fld Z h a "java/lang/AbstractStringBuilder" "count" "I" (.int 0) ∧ Arv Z h b bk .byte (0 : Int32) ([]) (.int 0) ∧ Exa Z h b "[B") := by
  refine own_met (by decide +kernel) #[.val (.ref a), .val (.int 0)] (fun m => by first | (simp [entryFrame, mkF, argsToLocals, Value.category]; done) | rfl) ?_
  intro p e s m below meth c T0 C S0
  refine own_seg C S0 [(0, .aload_n 0, 1)] (by decide +kernel) 1 #[.val (.ref a), .val (.int 0)] [(.ref a)] rfl ?_
  refine own_initO C S0 (own_wd hw 54 rfl) (own_wd hw 22 rfl) (own_wd hw 23 rfl) rfl (by decide +kernel) (by decide) 0 (Nat.le_of_ble_eq_true rfl) (by decide) ?_
  intro T845 S846
  refine own_getS C S846 (own_wd hw 55 rfl) Via.refl (O2.ext X00.2) (by decide +kernel) ?_
  intro T847 S848
  refine own_if C S848 (q := .eq) (o := 18) (by decide +kernel) 25 (by decide) (by decide) (fun (hq : G1 = (0 : Int32)) => False.elim (P5 hq)) (fun (q849 : ¬ G1 = (0 : Int32)) => ?_)
  refine own_seg C S848 [(10, .aload_n 0, 1), (11, .iload_n 1, 1)] (by decide +kernel) 12 #[.val (.ref a), .val (.int 0)] [(.int 0), (.ref a)] rfl ?_
  refine own_newPE C S848 (aty := .byte) (ad := "[B") (by decide) (own_wd hw 16 rfl) (by decide +kernel) (by decide) 0 (by decide) (by decide) (by decide) (by decide) ?_
  intro T850 h852 a853 k854 S851 g855 E856 f857 x858
  have f859 : Arv Z h852 a853 k854 .byte (0 : Int32) ([]) (.int 0) := Arv.pad f857 (pad_rep [] (.int 0) 0)
  have f860 := (Fld.ext E856 aV)
  have f861 := (Exa.ext E856 aE)
  refine own_putF C S851 (ty := (.array .byte)) (host := "") (Or.inl (own_wd hw 56 rfl)) Via.refl f860 f861 (Or.inl (own_wd hw 57 rfl)) (own_wd hw 33 rfl) own_fd0 rfl rfl ge_a (by decide +kernel) ?_
  intro T862 h864 S863 W865
  have f866 : Fld Z h864 a "java/lang/AbstractStringBuilder" "value" "[B" (.ref a853) := Fld.same W865 f860
  refine own_seg C S863 [(17, .aload_n 0, 1), (18, .iconst 0, 1)] (by decide +kernel) 19 #[.val (.ref a), .val (.int 0)] [(.int 0), (.ref a)] rfl ?_
  have f867 := (Fld.other W865 (Fld.ext E856 aC) (Or.inr (own_sn2 hw)))
  have f868 := (Exa.wr W865 f861)
  refine own_putF C S863 (ty := .byte) (host := "") (Or.inl (own_wd hw 58 rfl)) Via.refl f867 f868 (Or.inl (own_wd hw 59 rfl)) (own_wd hw 33 rfl) own_fd1 rfl rfl ge_a (by decide +kernel) ?_
  intro T869 h871 S870 W872
  have f873 : Fld Z h871 a "java/lang/AbstractStringBuilder" "coder" "B" (.int 0) := Fld.same W872 f867
  refine own_seg C S870 [(22, .goto 16, 3)] (by decide +kernel) 38 #[.val (.ref a), .val (.int 0)] [] rfl ?_
  refine own_retV C S870 (by decide +kernel) (by decide) (by decide) ?_
  have o874 : h0.size ≤ a853 := by rw [g855]; exact (Nat.le_refl _)
  have f875 := (Exa.wr W872 f868)
  have f876 := (Fld.other W872 f866 (Or.inr (own_sn3 hw)))
  have f877 := (Fld.other W872 (Fld.other W865 (Fld.ext E856 aN) (Or.inr (own_sn4 hw))) (Or.inr (own_sn5 hw)))
  have n878 : a ≠ a853 := by rw [g855]; exact Nat.ne_of_lt aE.lt
  have f879 := ((f859.other W865 (Ne.symm n878)).other W872 (Ne.symm n878))
  have f880 := (Exa.wr W872 (Exa.wr W865 x858))
  exact ⟨a853, k854, rfl, o874, ((((Keep.refl _ _).ext E856).wr W865 (Or.inl (List.mem_of_getElem? (i := 0) rfl))).wr W872 (Or.inl (List.mem_of_getElem? (i := 0) rfl))), f875, f876, f873, f877, f879, f880⟩
theorem own_pd22 : parseMethodDescriptor "(I)V" = some ⟨[.int], none⟩ := by decide +kernel
theorem own_sbI0 (l : Launch) (Z : State) (a0 : Array Value) (hw : ∀ d ∈ tables_1, d.before a0 Z = true) (G1 : Int32) (G3 : Value) (a : Addr) (h0 : Heap) (n0 : Nat) (z0 : n0 ≤ h0.size) (ge_a : n0 ≤ a) (X00 : Old Z n0 h0) (aE : Exa Z h0 a "java/lang/StringBuilder") (aV : Fld Z h0 a "java/lang/AbstractStringBuilder" "value" "[B" .null) (aC : Fld Z h0 a "java/lang/AbstractStringBuilder" "coder" "B" (.int 0)) (aN : Fld Z h0 a "java/lang/AbstractStringBuilder" "count" "I" (.int 0)) (O2 : Sta Z Z.heap "java/lang/String" "COMPACT_STRINGS" "Z" (.int G1)) (O4 : Sta Z Z.heap "jdk/internal/util/Preconditions" "SIOOBE_FORMATTER" "Ljava/util/function/BiFunction;" G3) (P5 : ¬ G1 = (0 : Int32)) (rG3 : G3.isRef = true) :
    own_Met l Z (⟨"java/lang/StringBuilder", "<init>", "(I)V"⟩ : MethodName) jdk_67_method_2_code 2 none ({ frames := 2, cells := 1, slots := 0, locals := 25 } : Room) n0 #[(.ref a), (.int 0)] h0 (fun v h => ∃ b : Addr, ∃ bk : ClassId, v = none ∧ h0.size ≤ b ∧ Keep h0 h [a] ∧ Exa Z h a "java/lang/StringBuilder" ∧ Fld Z h a "java/lang/AbstractStringBuilder" "value" "[B" (.ref b) ∧ Fld Z h a "java/lang/AbstractStringBuilder" "coder" "B" (.int 0) ∧ Fld Z h a "java/lang/AbstractStringBuilder" "count" "I" (.int 0) ∧ Arv Z h b bk .byte (0 : Int32) ([]) (.int 0) ∧ Exa Z h b "[B") := by
  refine own_met (by decide +kernel) #[.val (.ref a), .val (.int 0)] (fun m => by first | (simp [entryFrame, mkF, argsToLocals, Value.category]; done) | rfl) ?_
  intro p e s m below meth c T0 C S0
  refine own_seg C S0 [(0, .aload_n 0, 1), (1, .iload_n 1, 1)] (by decide +kernel) 2 #[.val (.ref a), .val (.int 0)] [(.int 0), (.ref a)] rfl ?_
  refine own_callI C S0 rfl (own_wd hw 48 rfl) (own_wd hw 49 rfl) (own_wd hw 53 rfl) (by decide) (own_Met.pay (own_asbI0 l Z a0 hw G1 G3 a h0 n0 z0 ge_a X00 aE aV aC aN O2 O4 P5 rG3) C 0 (own_wd hw 53 rfl) (own_wd hw 52 rfl) (by decide) (by decide)) (fun _ _ _ q => q.2) [(.int 0)] [] rfl own_pd22 rfl rfl rfl (Nat.le_of_ble_eq_true rfl) (by decide) (by decide) (by decide +kernel) ?_
  rintro T891 h892 v893 L894 S895 ⟨⟨a881, k882, rfl, g883, K884, f885, f886, f887, f888, f889, f890⟩, -⟩
  show own_Go p e below _ T891 (mkF m 5 #[.val (.ref a), .val (.int 0)] [])
  refine own_retV C S895 (by decide +kernel) (by decide) (by decide) ?_
  have o896 : h0.size ≤ a881 := Nat.le_trans (Nat.le_refl _) g883
  exact ⟨a881, k882, rfl, o896, ((Keep.refl _ _).trans K884 (allS (Or.inl (List.mem_of_getElem? (i := 0) rfl)) all0)), f885, f886, f887, f888, f889, f890⟩
theorem own_asbI1 (l : Launch) (Z : State) (a0 : Array Value) (hw : ∀ d ∈ tables_1, d.before a0 Z = true) (G1 : Int32) (G3 : Value) (a : Addr) (h0 : Heap) (n0 : Nat) (z0 : n0 ≤ h0.size) (ge_a : n0 ≤ a) (X00 : Old Z n0 h0) (aE : Exa Z h0 a "java/lang/StringBuilder") (aV : Fld Z h0 a "java/lang/AbstractStringBuilder" "value" "[B" .null) (aC : Fld Z h0 a "java/lang/AbstractStringBuilder" "coder" "B" (.int 0)) (aN : Fld Z h0 a "java/lang/AbstractStringBuilder" "count" "I" (.int 0)) (O2 : Sta Z Z.heap "java/lang/String" "COMPACT_STRINGS" "Z" (.int G1)) (O4 : Sta Z Z.heap "jdk/internal/util/Preconditions" "SIOOBE_FORMATTER" "Ljava/util/function/BiFunction;" G3) (P5 : ¬ G1 = (0 : Int32)) (rG3 : G3.isRef = true) :
    own_Met l Z (⟨"java/lang/AbstractStringBuilder", "<init>", "(I)V"⟩ : MethodName) jdk_68_method_2_code 2 none ({ frames := 1, cells := 1, slots := 1, locals := 12 } : Room) n0 #[(.ref a), (.int 1)] h0 (fun v h => ∃ b : Addr, ∃ bk : ClassId, v = none ∧ h0.size ≤ b ∧ Keep h0 h [a] ∧ Exa Z h a "java/lang/StringBuilder" ∧ Fld Z h a "java/lang/AbstractStringBuilder" "value" "[B" (.ref b) ∧ Fld Z h a "java/lang/AbstractStringBuilder" "coder" "B" (.int 0) ∧ Fld Z h a "java/lang/AbstractStringBuilder" "count" "I" (.int 0) ∧ Arv Z h b bk .byte (1 : Int32) ([(.int 0)]) (.int 0) ∧ Exa Z h b "[B") := by
  refine own_met (by decide +kernel) #[.val (.ref a), .val (.int 1)] (fun m => by first | (simp [entryFrame, mkF, argsToLocals, Value.category]; done) | rfl) ?_
  intro p e s m below meth c T0 C S0
  refine own_seg C S0 [(0, .aload_n 0, 1)] (by decide +kernel) 1 #[.val (.ref a), .val (.int 1)] [(.ref a)] rfl ?_
  refine own_initO C S0 (own_wd hw 54 rfl) (own_wd hw 22 rfl) (own_wd hw 23 rfl) rfl (by decide +kernel) (by decide) 0 (Nat.le_of_ble_eq_true rfl) (by decide) ?_
  intro T897 S898
  refine own_getS C S898 (own_wd hw 55 rfl) Via.refl (O2.ext X00.2) (by decide +kernel) ?_
  intro T899 S900
  refine own_if C S900 (q := .eq) (o := 18) (by decide +kernel) 25 (by decide) (by decide) (fun (hq : G1 = (0 : Int32)) => False.elim (P5 hq)) (fun (q901 : ¬ G1 = (0 : Int32)) => ?_)
  refine own_seg C S900 [(10, .aload_n 0, 1), (11, .iload_n 1, 1)] (by decide +kernel) 12 #[.val (.ref a), .val (.int 1)] [(.int 1), (.ref a)] rfl ?_
  refine own_newPE C S900 (aty := .byte) (ad := "[B") (by decide) (own_wd hw 16 rfl) (by decide +kernel) (by decide) 1 (by decide) (by decide) (by decide) (by decide) ?_
  intro T902 h904 a905 k906 S903 g907 E908 f909 x910
  have f911 : Arv Z h904 a905 k906 .byte (1 : Int32) ([(.int 0)]) (.int 0) := Arv.pad f909 (pad_rep [] (.int 0) 1)
  have f912 := (Fld.ext E908 aV)
  have f913 := (Exa.ext E908 aE)
  refine own_putF C S903 (ty := (.array .byte)) (host := "") (Or.inl (own_wd hw 56 rfl)) Via.refl f912 f913 (Or.inl (own_wd hw 57 rfl)) (own_wd hw 33 rfl) own_fd0 rfl rfl ge_a (by decide +kernel) ?_
  intro T914 h916 S915 W917
  have f918 : Fld Z h916 a "java/lang/AbstractStringBuilder" "value" "[B" (.ref a905) := Fld.same W917 f912
  refine own_seg C S915 [(17, .aload_n 0, 1), (18, .iconst 0, 1)] (by decide +kernel) 19 #[.val (.ref a), .val (.int 1)] [(.int 0), (.ref a)] rfl ?_
  have f919 := (Fld.other W917 (Fld.ext E908 aC) (Or.inr (own_sn2 hw)))
  have f920 := (Exa.wr W917 f913)
  refine own_putF C S915 (ty := .byte) (host := "") (Or.inl (own_wd hw 58 rfl)) Via.refl f919 f920 (Or.inl (own_wd hw 59 rfl)) (own_wd hw 33 rfl) own_fd1 rfl rfl ge_a (by decide +kernel) ?_
  intro T921 h923 S922 W924
  have f925 : Fld Z h923 a "java/lang/AbstractStringBuilder" "coder" "B" (.int 0) := Fld.same W924 f919
  refine own_seg C S922 [(22, .goto 16, 3)] (by decide +kernel) 38 #[.val (.ref a), .val (.int 1)] [] rfl ?_
  refine own_retV C S922 (by decide +kernel) (by decide) (by decide) ?_
  have o926 : h0.size ≤ a905 := by rw [g907]; exact (Nat.le_refl _)
  have f927 := (Exa.wr W924 f920)
  have f928 := (Fld.other W924 f918 (Or.inr (own_sn3 hw)))
  have f929 := (Fld.other W924 (Fld.other W917 (Fld.ext E908 aN) (Or.inr (own_sn4 hw))) (Or.inr (own_sn5 hw)))
  have n930 : a ≠ a905 := by rw [g907]; exact Nat.ne_of_lt aE.lt
  have f931 := ((f911.other W917 (Ne.symm n930)).other W924 (Ne.symm n930))
  have f932 := (Exa.wr W924 (Exa.wr W917 x910))
  exact ⟨a905, k906, rfl, o926, ((((Keep.refl _ _).ext E908).wr W917 (Or.inl (List.mem_of_getElem? (i := 0) rfl))).wr W924 (Or.inl (List.mem_of_getElem? (i := 0) rfl))), f927, f928, f925, f929, f931, f932⟩
theorem own_sbI1 (l : Launch) (Z : State) (a0 : Array Value) (hw : ∀ d ∈ tables_1, d.before a0 Z = true) (G1 : Int32) (G3 : Value) (a : Addr) (h0 : Heap) (n0 : Nat) (z0 : n0 ≤ h0.size) (ge_a : n0 ≤ a) (X00 : Old Z n0 h0) (aE : Exa Z h0 a "java/lang/StringBuilder") (aV : Fld Z h0 a "java/lang/AbstractStringBuilder" "value" "[B" .null) (aC : Fld Z h0 a "java/lang/AbstractStringBuilder" "coder" "B" (.int 0)) (aN : Fld Z h0 a "java/lang/AbstractStringBuilder" "count" "I" (.int 0)) (O2 : Sta Z Z.heap "java/lang/String" "COMPACT_STRINGS" "Z" (.int G1)) (O4 : Sta Z Z.heap "jdk/internal/util/Preconditions" "SIOOBE_FORMATTER" "Ljava/util/function/BiFunction;" G3) (P5 : ¬ G1 = (0 : Int32)) (rG3 : G3.isRef = true) :
    own_Met l Z (⟨"java/lang/StringBuilder", "<init>", "(I)V"⟩ : MethodName) jdk_67_method_2_code 2 none ({ frames := 2, cells := 1, slots := 1, locals := 25 } : Room) n0 #[(.ref a), (.int 1)] h0 (fun v h => ∃ b : Addr, ∃ bk : ClassId, v = none ∧ h0.size ≤ b ∧ Keep h0 h [a] ∧ Exa Z h a "java/lang/StringBuilder" ∧ Fld Z h a "java/lang/AbstractStringBuilder" "value" "[B" (.ref b) ∧ Fld Z h a "java/lang/AbstractStringBuilder" "coder" "B" (.int 0) ∧ Fld Z h a "java/lang/AbstractStringBuilder" "count" "I" (.int 0) ∧ Arv Z h b bk .byte (1 : Int32) ([(.int 0)]) (.int 0) ∧ Exa Z h b "[B") := by
  refine own_met (by decide +kernel) #[.val (.ref a), .val (.int 1)] (fun m => by first | (simp [entryFrame, mkF, argsToLocals, Value.category]; done) | rfl) ?_
  intro p e s m below meth c T0 C S0
  refine own_seg C S0 [(0, .aload_n 0, 1), (1, .iload_n 1, 1)] (by decide +kernel) 2 #[.val (.ref a), .val (.int 1)] [(.int 1), (.ref a)] rfl ?_
  refine own_callI C S0 rfl (own_wd hw 48 rfl) (own_wd hw 49 rfl) (own_wd hw 53 rfl) (by decide) (own_Met.pay (own_asbI1 l Z a0 hw G1 G3 a h0 n0 z0 ge_a X00 aE aV aC aN O2 O4 P5 rG3) C 0 (own_wd hw 53 rfl) (own_wd hw 52 rfl) (by decide) (by decide)) (fun _ _ _ q => q.2) [(.int 1)] [] rfl own_pd22 rfl rfl rfl (Nat.le_of_ble_eq_true rfl) (by decide) (by decide) (by decide +kernel) ?_
  rintro T943 h944 v945 L946 S947 ⟨⟨a933, k934, rfl, g935, K936, f937, f938, f939, f940, f941, f942⟩, -⟩
  show own_Go p e below _ T943 (mkF m 5 #[.val (.ref a), .val (.int 1)] [])
  refine own_retV C S947 (by decide +kernel) (by decide) (by decide) ?_
  have o948 : h0.size ≤ a933 := Nat.le_trans (Nat.le_refl _) g935
  exact ⟨a933, k934, rfl, o948, ((Keep.refl _ _).trans K936 (allS (Or.inl (List.mem_of_getElem? (i := 0) rfl)) all0)), f937, f938, f939, f940, f941, f942⟩
theorem own_ens (l : Launch) (Z : State) (a0 : Array Value) (hw : ∀ d ∈ tables_1, d.before a0 Z = true) (a : Addr) (mn : Int32) (b : Addr) (bk : ClassId) (bN : Int32) (bvs : List Value) (h0 : Heap) (n0 : Nat) (z0 : n0 ≤ h0.size) (aE : Exa Z h0 a "java/lang/StringBuilder") (aV : Fld Z h0 a "java/lang/AbstractStringBuilder" "value" "[B" (.ref b)) (aC : Fld Z h0 a "java/lang/AbstractStringBuilder" "coder" "B" (.int 0)) (bK : Arv Z h0 b bk .byte bN bvs (.int 0)) (hle : ¬ (0 : Int32) < (mn - bN)) :
    own_Met l Z (⟨"java/lang/AbstractStringBuilder", "ensureCapacityInternal", "(I)V"⟩ : MethodName) jdk_68_method_9_code 3 none ({ frames := 0, cells := 0, slots := 0, locals := 0 } : Room) n0 #[(.ref a), (.int mn)] h0 (fun v h => v = none ∧ h = h0) := by
  refine own_met (by decide +kernel) #[.val (.ref a), .val (.int mn), .unset] (fun m => by first | (simp [entryFrame, mkF, argsToLocals, Value.category]; done) | rfl) ?_
  intro p e s m below meth c T0 C S0
  refine own_seg C S0 [(0, .aload_n 0, 1)] (by decide +kernel) 1 #[.val (.ref a), .val (.int mn), .unset] [(.ref a)] rfl ?_
  refine own_getF C S0 (host := "") (Or.inl (own_wd hw 56 rfl)) Via.refl aV (by decide +kernel) ?_
  intro T949 S950
  refine own_alen C S950 bK (by decide +kernel) ?_
  refine own_seg C S950 [(5, .aload_n 0, 1)] (by decide +kernel) 6 #[.val (.ref a), .val (.int mn), .unset] [(.ref a), (.int bN)] rfl ?_
  refine own_getF C S950 (host := "") (Or.inl (own_wd hw 58 rfl)) Via.refl aC (by decide +kernel) ?_
  intro T951 S952
  refine own_seg C S952 [(9, .ishr, 1)] (by decide +kernel) 10 #[.val (.ref a), .val (.int mn), .unset] [(.int (bN >>> ((0 : Int32) &&& 31)))] rfl ?_
  rw [show (bN >>> ((0 : Int32) &&& 31)) = bN from own_shr0 _]
  refine own_seg C S952 [(10, .istore_n 2, 1), (11, .iload_n 1, 1), (12, .iload_n 2, 1), (13, .isub, 1)] (by decide +kernel) 14 #[.val (.ref a), .val (.int mn), .val (.int bN)] [(.int (mn - bN))] rfl ?_
  refine own_if C S952 (q := .le) (o := 24) (by decide +kernel) 38 (by decide) (by decide) (fun (q953 : ¬ (0 : Int32) < (mn - bN)) => ?_) (fun (hq : (0 : Int32) < (mn - bN)) => False.elim (hle hq))
  refine own_retV C S952 (by decide +kernel) (by decide) (by decide) ?_
  exact ⟨rfl, rfl⟩
theorem own_asbisL (l : Launch) (Z : State) (a0 : Array Value) (hw : ∀ d ∈ tables_1, d.before a0 Z = true) (G1 : Int32) (G3 : Value) (x : Addr) (h0 : Heap) (n0 : Nat) (z0 : n0 ≤ h0.size) (X00 : Old Z n0 h0) (pC : Fld Z h0 x "java/lang/AbstractStringBuilder" "coder" "B" (.int 0)) (O2 : Sta Z Z.heap "java/lang/String" "COMPACT_STRINGS" "Z" (.int G1)) (O4 : Sta Z Z.heap "jdk/internal/util/Preconditions" "SIOOBE_FORMATTER" "Ljava/util/function/BiFunction;" G3) (P5 : ¬ G1 = (0 : Int32)) (rG3 : G3.isRef = true) :
    own_Met l Z (⟨"java/lang/AbstractStringBuilder", "isLatin1", "()Z"⟩ : MethodName) jdk_68_method_68_code 1 (some .boolean) ({ frames := 0, cells := 0, slots := 0, locals := 0 } : Room) n0 #[(.ref x)] h0 (fun v h => v = some (.int 1) ∧ h = h0) := by
  refine own_met (by decide +kernel) #[.val (.ref x)] (fun m => by first | (simp [entryFrame, mkF, argsToLocals, Value.category]; done) | rfl) ?_
  intro p e s m below meth c T0 C S0
  refine own_getS C S0 (own_wd hw 55 rfl) Via.refl (O2.ext X00.2) (by decide +kernel) ?_
  intro T954 S955
  refine own_if C S955 (q := .eq) (o := 14) (by decide +kernel) 17 (by decide) (by decide) (fun (hq : G1 = (0 : Int32)) => False.elim (P5 hq)) (fun (q956 : ¬ G1 = (0 : Int32)) => ?_)
  refine own_seg C S955 [(6, .aload_n 0, 1)] (by decide +kernel) 7 #[.val (.ref x)] [(.ref x)] rfl ?_
  refine own_getF C S955 (host := "") (Or.inl (own_wd hw 58 rfl)) Via.refl pC (by decide +kernel) ?_
  intro T957 S958
  refine own_if C S958 (q := .ne) (o := 7) (by decide +kernel) 17 (by decide) (by decide) (fun (hq : ¬ 0 = (0 : Int32)) => False.elim (hq rfl)) (fun (q959 : 0 = (0 : Int32)) => ?_)
  refine own_seg C S958 [(13, .iconst 1, 1), (14, .goto 4, 3)] (by decide +kernel) 18 #[.val (.ref x)] [(.int 1)] rfl ?_
  refine own_retZ C S958 (by decide +kernel) (by decide) (by decide) (by decide) ?_
  exact ⟨rfl, rfl⟩
theorem own_sn6 {Z : State} {a0 : Array Value} (hw : ∀ d ∈ tables_1, d.before a0 Z = true) : Jvm.RoadKit.slotOf Z "java/lang/AbstractStringBuilder" "value" "[B" ≠ Jvm.RoadKit.slotOf Z "java/lang/AbstractStringBuilder" "count" "I" := slot_ne (Or.inl (own_wd hw 57 rfl)) (Or.inl (own_wd hw 140 rfl)) (by decide) own_fd0 own_fd2
theorem own_sn7 {Z : State} {a0 : Array Value} (hw : ∀ d ∈ tables_1, d.before a0 Z = true) : Jvm.RoadKit.slotOf Z "java/lang/AbstractStringBuilder" "coder" "B" ≠ Jvm.RoadKit.slotOf Z "java/lang/AbstractStringBuilder" "count" "I" := slot_ne (Or.inl (own_wd hw 59 rfl)) (Or.inl (own_wd hw 140 rfl)) (by decide) own_fd1 own_fd2
theorem own_asbC (l : Launch) (Z : State) (a0 : Array Value) (hw : ∀ d ∈ tables_1, d.before a0 Z = true) (G1 : Int32) (G3 : Value) (a : Addr) (b : Addr) (bk : ClassId) (bN : Int32) (bvs : List Value) (cnt : Int32) (k : Int32) (us : List Value) (h0 : Heap) (n0 : Nat) (z0 : n0 ≤ h0.size) (ge_a : n0 ≤ a) (ge_b : n0 ≤ b) (X00 : Old Z n0 h0) (aE : Exa Z h0 a "java/lang/StringBuilder") (aV : Fld Z h0 a "java/lang/AbstractStringBuilder" "value" "[B" (.ref b)) (aC : Fld Z h0 a "java/lang/AbstractStringBuilder" "coder" "B" (.int 0)) (aN : Fld Z h0 a "java/lang/AbstractStringBuilder" "count" "I" (.int cnt)) (bK : Arv Z h0 b bk .byte bN bvs (.int 0)) (ne_b_a : b ≠ a) (O2 : Sta Z Z.heap "java/lang/String" "COMPACT_STRINGS" "Z" (.int G1)) (O4 : Sta Z Z.heap "jdk/internal/util/Preconditions" "SIOOBE_FORMATTER" "Ljava/util/function/BiFunction;" G3) (P5 : ¬ G1 = (0 : Int32)) (rG3 : G3.isRef = true) (k0 : ¬ (255 : Int32) < k) (hle : ¬ (0 : Int32) < ((cnt + (1 : Int32)) - bN)) (c1 : ¬ cnt < 0 ∧ cnt < bN) (cl : cnt.toNatClampNeg < bvs.length) (cu : bvs.set cnt.toNatClampNeg (.int k.toInt8.toInt32) = us) :
    own_Met l Z (⟨"java/lang/AbstractStringBuilder", "append", "(C)Ljava/lang/AbstractStringBuilder;"⟩ : MethodName) jdk_68_method_31_code 2 (some (.object "java/lang/AbstractStringBuilder")) ({ frames := 1, cells := 0, slots := 0, locals := 14 } : Room) n0 #[(.ref a), (.int k)] h0 (fun v h => v = some (.ref a) ∧ Keep h0 h [a, b] ∧ Exa Z h a "java/lang/StringBuilder" ∧ Fld Z h a "java/lang/AbstractStringBuilder" "value" "[B" (.ref b) ∧ Fld Z h a "java/lang/AbstractStringBuilder" "coder" "B" (.int 0) ∧ Fld Z h a "java/lang/AbstractStringBuilder" "count" "I" (.int (cnt + (1 : Int32))) ∧ Arv Z h b bk .byte bN us (.int 0)) := by
  refine own_met (by decide +kernel) #[.val (.ref a), .val (.int k)] (fun m => by first | (simp [entryFrame, mkF, argsToLocals, Value.category]; done) | rfl) ?_
  intro p e s m below meth c T0 C S0
  refine own_seg C S0 [(0, .aload_n 0, 1), (1, .aload_n 0, 1)] (by decide +kernel) 2 #[.val (.ref a), .val (.int k)] [(.ref a), (.ref a)] rfl ?_
  refine own_getF C S0 (host := "") (Or.inl (own_wd hw 139 rfl)) Via.refl aN (by decide +kernel) ?_
  intro T960 S961
  refine own_seg C S961 [(5, .iconst 1, 1), (6, .iadd, 1)] (by decide +kernel) 7 #[.val (.ref a), .val (.int k)] [(.int (cnt + (1 : Int32))), (.ref a)] rfl ?_
  refine own_callP C S961 (own_wd hw 141 rfl) (own_wd hw 142 rfl) (own_selfP (own_wd hw 142 rfl) (own_wd hw 143 rfl) (own_wd hw 144 rfl) (by decide)) (own_wd hw 143 rfl) (own_wd hw 145 rfl) (by decide) (own_Met.pay (own_ens l Z a0 hw a (cnt + (1 : Int32)) _ _ _ _ h0 n0 z0 aE aV aC bK hle) C 0 (own_wd hw 145 rfl) (own_wd hw 52 rfl) (by decide) (by decide)) (fun _ _ _ q => q.2) aE [(.int (cnt + (1 : Int32)))] [] rfl own_pd22 rfl rfl rfl (Nat.le_of_ble_eq_true rfl) (by decide) (by decide) (by decide +kernel) ?_
  rintro T963 h964 v965 L966 S967 ⟨⟨rfl, e962⟩, -⟩
  rw [e962] at S967; clear e962
  show own_Go p e below _ T963 (mkF m 10 #[.val (.ref a), .val (.int k)] [])
  refine own_seg C S967 [(10, .aload_n 0, 1)] (by decide +kernel) 11 #[.val (.ref a), .val (.int k)] [(.ref a)] rfl ?_
  refine own_callV C S967 (own_wd hw 146 rfl) (own_wd hw 147 rfl) (own_wd hw 149 rfl) (own_wd hw 149 rfl) rfl (own_wd hw 148 rfl) (by decide) (own_Met.pay (own_asbisL l Z a0 hw G1 G3 a h0 n0 z0 X00 aC O2 O4 P5 rG3) C 0 (own_wd hw 150 rfl) (own_wd hw 52 rfl) (by decide) (by decide)) (fun _ _ _ q => q.2) aE [] [] rfl own_pd4 rfl rfl rfl (Nat.le_of_ble_eq_true rfl) (by decide) (by decide) (by decide +kernel) ?_
  rintro T969 h970 v971 L972 S973 ⟨⟨rfl, e968⟩, -⟩
  rw [e968] at S973; clear e968
  show own_Go p e below _ T969 (mkF m 14 #[.val (.ref a), .val (.int k)] [(.int 1)])
  refine own_if C S973 (q := .eq) (o := 31) (by decide +kernel) 45 (by decide) (by decide) (fun (hq : (1 : Int32) = (0 : Int32)) => False.elim (absurd hq (by decide))) (fun (q974 : ¬ (1 : Int32) = (0 : Int32)) => ?_)
  refine own_seg C S973 [(17, .iload_n 1, 1)] (by decide +kernel) 18 #[.val (.ref a), .val (.int k)] [(.int k)] rfl ?_
  refine own_callS C S973 (own_wd hw 151 rfl) (own_wd hw 8 rfl) (own_wd hw 9 rfl) (own_wd hw 10 rfl) (by decide) (own_Met.pay (own_cec l Z a0 hw k h0 n0 z0 k0) C 0 (own_wd hw 10 rfl) (own_wd hw 9 rfl) (by decide) (by decide)) (fun _ _ _ q => q.2) [(.int k)] [] rfl own_pd11 rfl rfl rfl (Nat.le_of_ble_eq_true rfl) (by decide) (by decide) (by decide +kernel) ?_
  rintro T976 h977 v978 L979 S980 ⟨⟨rfl, e975⟩, -⟩
  rw [e975] at S980; clear e975
  show own_Go p e below _ T976 (mkF m 21 #[.val (.ref a), .val (.int k)] [(.int 1)])
  refine own_if C S980 (q := .eq) (o := 24) (by decide +kernel) 45 (by decide) (by decide) (fun (hq : (1 : Int32) = (0 : Int32)) => False.elim (absurd hq (by decide))) (fun (q981 : ¬ (1 : Int32) = (0 : Int32)) => ?_)
  refine own_seg C S980 [(24, .aload_n 0, 1)] (by decide +kernel) 25 #[.val (.ref a), .val (.int k)] [(.ref a)] rfl ?_
  refine own_getF C S980 (host := "") (Or.inl (own_wd hw 56 rfl)) Via.refl aV (by decide +kernel) ?_
  intro T982 S983
  refine own_seg C S983 [(28, .aload_n 0, 1), (29, .dup, 1)] (by decide +kernel) 30 #[.val (.ref a), .val (.int k)] [(.ref a), (.ref a), (.ref b)] rfl ?_
  refine own_getF C S983 (host := "") (Or.inl (own_wd hw 139 rfl)) Via.refl aN (by decide +kernel) ?_
  intro T984 S985
  refine own_seg C S985 [(33, .dup_x1, 1), (34, .iconst 1, 1), (35, .iadd, 1)] (by decide +kernel) 36 #[.val (.ref a), .val (.int k)] [(.int (cnt + (1 : Int32))), (.ref a), (.int cnt), (.ref b)] rfl ?_
  refine own_putF C S985 (ty := .int) (host := "") (Or.inl (own_wd hw 139 rfl)) Via.refl aN aE (Or.inl (own_wd hw 140 rfl)) (own_wd hw 33 rfl) own_fd2 rfl rfl ge_a (by decide +kernel) ?_
  intro T986 h988 S987 W989
  have f990 : Fld Z h988 a "java/lang/AbstractStringBuilder" "count" "I" (.int (cnt + (1 : Int32))) := Fld.same W989 aN
  refine own_seg C S987 [(39, .iload_n 1, 1), (40, .i2b, 1)] (by decide +kernel) 41 #[.val (.ref a), .val (.int k)] [(.int k.toInt8.toInt32), (.int cnt), (.ref b)] rfl ?_
  have f991 := (bK.other W989 ne_b_a)
  refine own_bastore C S987 f991 c1 cnt.toNatClampNeg rfl cl k.toInt8.toInt32 (own_i2b2 _) ge_b (by decide +kernel) ?_
  intro T992 h994 S993 W995 f996
  have f997 : Arv Z h994 b bk .byte bN us (.int 0) := by rw [← cu]; exact f996
  refine own_seg C S993 [(42, .goto 33, 3), (75, .aload_n 0, 1)] (by decide +kernel) 76 #[.val (.ref a), .val (.int k)] [(.ref a)] rfl ?_
  refine own_retA C S993 rfl rfl (by decide +kernel) (by decide) (by decide) ?_
  have f998 := (Exa.wr W995 (Exa.wr W989 aE))
  have f999 := (Fld.other W995 (Fld.other W989 aV (Or.inr (own_sn6 hw))) (Or.inl (Ne.symm ne_b_a)))
  have f1000 := (Fld.other W995 (Fld.other W989 aC (Or.inr (own_sn7 hw))) (Or.inl (Ne.symm ne_b_a)))
  have f1001 := (Fld.other W995 f990 (Or.inl (Ne.symm ne_b_a)))
  exact ⟨rfl, (((Keep.refl _ _).wr W989 (Or.inl (List.mem_of_getElem? (i := 0) rfl))).wr W995 (Or.inl (List.mem_of_getElem? (i := 1) rfl))), f998, f999, f1000, f1001, f997⟩
theorem own_pd23 : parseMethodDescriptor "(C)Ljava/lang/AbstractStringBuilder;" = some ⟨[.char], (some (.object "java/lang/AbstractStringBuilder"))⟩ := by decide +kernel
theorem own_sbC (l : Launch) (Z : State) (a0 : Array Value) (hw : ∀ d ∈ tables_1, d.before a0 Z = true) (G1 : Int32) (G3 : Value) (a : Addr) (b : Addr) (bk : ClassId) (bN : Int32) (bvs : List Value) (cnt : Int32) (k : Int32) (us : List Value) (h0 : Heap) (n0 : Nat) (z0 : n0 ≤ h0.size) (ge_a : n0 ≤ a) (ge_b : n0 ≤ b) (X00 : Old Z n0 h0) (aE : Exa Z h0 a "java/lang/StringBuilder") (aV : Fld Z h0 a "java/lang/AbstractStringBuilder" "value" "[B" (.ref b)) (aC : Fld Z h0 a "java/lang/AbstractStringBuilder" "coder" "B" (.int 0)) (aN : Fld Z h0 a "java/lang/AbstractStringBuilder" "count" "I" (.int cnt)) (bK : Arv Z h0 b bk .byte bN bvs (.int 0)) (ne_b_a : b ≠ a) (O2 : Sta Z Z.heap "java/lang/String" "COMPACT_STRINGS" "Z" (.int G1)) (O4 : Sta Z Z.heap "jdk/internal/util/Preconditions" "SIOOBE_FORMATTER" "Ljava/util/function/BiFunction;" G3) (P5 : ¬ G1 = (0 : Int32)) (rG3 : G3.isRef = true) (k0 : ¬ (255 : Int32) < k) (hle : ¬ (0 : Int32) < ((cnt + (1 : Int32)) - bN)) (c1 : ¬ cnt < 0 ∧ cnt < bN) (cl : cnt.toNatClampNeg < bvs.length) (cu : bvs.set cnt.toNatClampNeg (.int k.toInt8.toInt32) = us) :
    own_Met l Z (⟨"java/lang/StringBuilder", "append", "(C)Ljava/lang/StringBuilder;"⟩ : MethodName) jdk_67_method_14_code 2 (some (.object "java/lang/StringBuilder")) ({ frames := 2, cells := 0, slots := 0, locals := 27 } : Room) n0 #[(.ref a), (.int k)] h0 (fun v h => v = some (.ref a) ∧ Keep h0 h [a, b] ∧ Exa Z h a "java/lang/StringBuilder" ∧ Fld Z h a "java/lang/AbstractStringBuilder" "value" "[B" (.ref b) ∧ Fld Z h a "java/lang/AbstractStringBuilder" "coder" "B" (.int 0) ∧ Fld Z h a "java/lang/AbstractStringBuilder" "count" "I" (.int (cnt + (1 : Int32))) ∧ Arv Z h b bk .byte bN us (.int 0)) := by
  refine own_met (by decide +kernel) #[.val (.ref a), .val (.int k)] (fun m => by first | (simp [entryFrame, mkF, argsToLocals, Value.category]; done) | rfl) ?_
  intro p e s m below meth c T0 C S0
  refine own_seg C S0 [(0, .aload_n 0, 1), (1, .iload_n 1, 1)] (by decide +kernel) 2 #[.val (.ref a), .val (.int k)] [(.int k), (.ref a)] rfl ?_
  refine own_callX C S0 (own_wd hw 134 rfl) (own_same (own_wd hw 135 rfl) (own_wd hw 144 rfl) rfl (by decide)) (own_wd hw 135 rfl) (own_wd hw 136 rfl) (by decide) (own_wd hw 138 rfl) (own_Met.pay (own_asbC l Z a0 hw G1 G3 a _ _ _ _ _ k us h0 n0 z0 ge_a ge_b X00 aE aV aC aN bK ne_b_a O2 O4 P5 rG3 k0 hle c1 cl cu) C 0 (own_wd hw 138 rfl) (own_wd hw 52 rfl) (by decide) (by decide)) (fun _ _ _ q => q.2) (Ins.self aE) [(.int k)] [] rfl own_pd23 rfl rfl rfl (Nat.le_of_ble_eq_true rfl) (by decide) (by decide) (by decide +kernel) ?_
  rintro T1008 h1009 v1010 L1011 S1012 ⟨⟨rfl, K1002, f1003, f1004, f1005, f1006, f1007⟩, -⟩
  show own_Go p e below _ T1008 (mkF m 5 #[.val (.ref a), .val (.int k)] [(.ref a)])
  refine own_seg C S1012 [(5, .pop, 1), (6, .aload_n 0, 1)] (by decide +kernel) 7 #[.val (.ref a), .val (.int k)] [(.ref a)] rfl ?_
  refine own_retA C S1012 rfl rfl (by decide +kernel) (by decide) (by decide) ?_
  exact ⟨rfl, ((Keep.refl _ _).trans K1002 (allS (Or.inl (List.mem_of_getElem? (i := 0) rfl)) (allS (Or.inl (List.mem_of_getElem? (i := 1) rfl)) all0))), f1003, f1004, f1005, f1006, f1007⟩
theorem own_nl1 (l : Launch) (Z : State) (a0 : Array Value) (hw : ∀ d ∈ tables_1, d.before a0 Z = true) (h0 : Heap) (n0 : Nat) (z0 : n0 ≤ h0.size) :
    own_Met l Z (⟨"jdk/internal/util/ArraysSupport", "newLength", "(III)I"⟩ : MethodName) jdk_48_method_27_code 4 (some .int) ({ frames := 1, cells := 0, slots := 0, locals := 14 } : Room) n0 #[(.int 1), (.int 1), (.int 3)] h0 (fun v h => v = some (.int 4) ∧ h = h0) := by
  refine own_met (by decide +kernel) #[.val (.int 1), .val (.int 1), .val (.int 3), .unset] (fun m => by first | (simp [entryFrame, mkF, argsToLocals, Value.category]; done) | rfl) ?_
  intro p e s m below meth c T0 C S0
  refine own_seg C S0 [(0, .iload_n 0, 1), (1, .iload_n 1, 1), (2, .iload_n 2, 1)] (by decide +kernel) 3 #[.val (.int 1), .val (.int 1), .val (.int 3), .unset] [(.int 3), (.int 1), (.int 1)] rfl ?_
  refine own_callS C S0 (own_wd hw 178 rfl) (own_wd hw 120 rfl) (own_wd hw 121 rfl) (own_wd hw 122 rfl) (by decide) (own_Met.pay (own_max l Z a0 hw (1 : Int32) (3 : Int32) h0 n0 z0) C 1 (own_wd hw 122 rfl) (own_wd hw 121 rfl) (by decide) (by decide)) (fun _ _ _ q => q.2) [(.int 1), (.int 3)] [(.int 1)] rfl own_pd2 rfl rfl rfl (Nat.le_of_ble_eq_true rfl) (by decide) (by decide) (by decide +kernel) ?_
  rintro T1014 h1015 v1016 L1017 S1018 ⟨⟨rfl, e1013⟩, -⟩
  rw [e1013] at S1018; clear e1013
  show own_Go p e below _ T1014 (mkF m 6 #[.val (.int 1), .val (.int 1), .val (.int 3), .unset] [(.int (if (1 : Int32) < (3 : Int32) then (3 : Int32) else (1 : Int32))), (.int 1)])
  refine own_seg C S1018 [(6, .iadd, 1), (7, .istore_n 3, 1), (8, .iconst 0, 1), (9, .iload_n 3, 1)] (by decide +kernel) 10 #[.val (.int 1), .val (.int 1), .val (.int 3), .val (.int ((1 : Int32) + (if (1 : Int32) < (3 : Int32) then (3 : Int32) else (1 : Int32))))] [(.int ((1 : Int32) + (if (1 : Int32) < (3 : Int32) then (3 : Int32) else (1 : Int32)))), (.int 0)] rfl ?_
  refine own_icmp C S1018 (q := .ge) (o := 11) (by decide +kernel) 21 (by decide) (by decide) (fun (hq : ¬ (0 : Int32) < ((1 : Int32) + (if (1 : Int32) < (3 : Int32) then (3 : Int32) else (1 : Int32)))) => False.elim (absurd hq (by decide))) (fun (q1019 : (0 : Int32) < ((1 : Int32) + (if (1 : Int32) < (3 : Int32) then (3 : Int32) else (1 : Int32)))) => ?_)
  refine own_seg C S1018 [(13, .iload_n 3, 1)] (by decide +kernel) 14 #[.val (.int 1), .val (.int 1), .val (.int 3), .val (.int ((1 : Int32) + (if (1 : Int32) < (3 : Int32) then (3 : Int32) else (1 : Int32))))] [(.int ((1 : Int32) + (if (1 : Int32) < (3 : Int32) then (3 : Int32) else (1 : Int32))))] rfl ?_
  refine own_ldc C S1018 (own_wd hw 179 rfl) (by decide +kernel) ?_
  refine own_icmp C S1018 (q := .gt) (o := 5) (by decide +kernel) 21 (by decide) (by decide) (fun (hq : 2147483639 < ((1 : Int32) + (if (1 : Int32) < (3 : Int32) then (3 : Int32) else (1 : Int32)))) => False.elim (absurd hq (by decide))) (fun (q1020 : ¬ 2147483639 < ((1 : Int32) + (if (1 : Int32) < (3 : Int32) then (3 : Int32) else (1 : Int32)))) => ?_)
  refine own_seg C S1018 [(19, .iload_n 3, 1)] (by decide +kernel) 20 #[.val (.int 1), .val (.int 1), .val (.int 3), .val (.int ((1 : Int32) + (if (1 : Int32) < (3 : Int32) then (3 : Int32) else (1 : Int32))))] [(.int ((1 : Int32) + (if (1 : Int32) < (3 : Int32) then (3 : Int32) else (1 : Int32))))] rfl ?_
  refine own_retI C S1018 (by decide +kernel) (by decide) (by decide) ?_
  exact ⟨rfl, rfl⟩
theorem own_pd24 : parseMethodDescriptor "(III)I" = some ⟨[.int, .int, .int], (some .int)⟩ := by decide +kernel
theorem own_nc1 (l : Launch) (Z : State) (a0 : Array Value) (hw : ∀ d ∈ tables_1, d.before a0 Z = true) (a : Addr) (b : Addr) (bk : ClassId) (bvs : List Value) (h0 : Heap) (n0 : Nat) (z0 : n0 ≤ h0.size) (aV : Fld Z h0 a "java/lang/AbstractStringBuilder" "value" "[B" (.ref b)) (aC : Fld Z h0 a "java/lang/AbstractStringBuilder" "coder" "B" (.int 0)) (bK : Arv Z h0 b bk .byte (1 : Int32) bvs (.int 0)) :
    own_Met l Z (⟨"java/lang/AbstractStringBuilder", "newCapacity", "(I)I"⟩ : MethodName) jdk_68_method_10_code 6 (some .int) ({ frames := 2, cells := 0, slots := 0, locals := 29 } : Room) n0 #[(.ref a), (.int 2)] h0 (fun v h => v = some (.int 4) ∧ h = h0) := by
  refine own_met (by decide +kernel) #[.val (.ref a), .val (.int 2), .unset, .unset, .unset, .unset] (fun m => by first | (simp [entryFrame, mkF, argsToLocals, Value.category]; done) | rfl) ?_
  intro p e s m below meth c T0 C S0
  refine own_seg C S0 [(0, .aload_n 0, 1)] (by decide +kernel) 1 #[.val (.ref a), .val (.int 2), .unset, .unset, .unset, .unset] [(.ref a)] rfl ?_
  refine own_getF C S0 (host := "") (Or.inl (own_wd hw 56 rfl)) Via.refl aV (by decide +kernel) ?_
  intro T1021 S1022
  refine own_alen C S1022 bK (by decide +kernel) ?_
  refine own_seg C S1022 [(5, .istore_n 2, 1), (6, .iload_n 1, 1), (7, .aload_n 0, 1)] (by decide +kernel) 8 #[.val (.ref a), .val (.int 2), .val (.int 1), .unset, .unset, .unset] [(.ref a), (.int 2)] rfl ?_
  refine own_getF C S1022 (host := "") (Or.inl (own_wd hw 58 rfl)) Via.refl aC (by decide +kernel) ?_
  intro T1023 S1024
  refine own_seg C S1024 [(11, .ishl, 1), (12, .istore_n 3, 1), (13, .iload_n 3, 1), (14, .iload_n 2, 1), (15, .isub, 1), (16, .istore 4, 2), (18, .iload_n 2, 1), (19, .iload 4, 2), (21, .iload_n 2, 1), (22, .iconst 2, 1), (23, .aload_n 0, 1)] (by decide +kernel) 24 #[.val (.ref a), .val (.int 2), .val (.int 1), .val (.int ((2 : Int32) <<< ((0 : Int32) &&& 31))), .val (.int (((2 : Int32) <<< ((0 : Int32) &&& 31)) - (1 : Int32))), .unset] [(.ref a), (.int 2), (.int 1), (.int (((2 : Int32) <<< ((0 : Int32) &&& 31)) - (1 : Int32))), (.int 1)] rfl ?_
  refine own_getF C S1024 (host := "") (Or.inl (own_wd hw 58 rfl)) Via.refl aC (by decide +kernel) ?_
  intro T1025 S1026
  refine own_seg C S1026 [(27, .ishl, 1), (28, .iadd, 1)] (by decide +kernel) 29 #[.val (.ref a), .val (.int 2), .val (.int 1), .val (.int ((2 : Int32) <<< ((0 : Int32) &&& 31))), .val (.int (((2 : Int32) <<< ((0 : Int32) &&& 31)) - (1 : Int32))), .unset] [(.int ((1 : Int32) + ((2 : Int32) <<< ((0 : Int32) &&& 31)))), (.int (((2 : Int32) <<< ((0 : Int32) &&& 31)) - (1 : Int32))), (.int 1)] rfl ?_
  refine own_callS C S1026 (own_wd hw 174 rfl) (own_wd hw 175 rfl) (own_wd hw 176 rfl) (own_wd hw 177 rfl) (by decide) (own_Met.pay (own_nl1 l Z a0 hw  h0 n0 z0) C 0 (own_wd hw 177 rfl) (own_wd hw 176 rfl) (by decide) (by decide)) (fun _ _ _ q => q.2) [(.int 1), (.int (((2 : Int32) <<< ((0 : Int32) &&& 31)) - (1 : Int32))), (.int ((1 : Int32) + ((2 : Int32) <<< ((0 : Int32) &&& 31))))] [] rfl own_pd24 rfl rfl rfl (Nat.le_of_ble_eq_true rfl) (by decide) (by decide) (by decide +kernel) ?_
  rintro T1028 h1029 v1030 L1031 S1032 ⟨⟨rfl, e1027⟩, -⟩
  rw [e1027] at S1032; clear e1027
  show own_Go p e below _ T1028 (mkF m 32 #[.val (.ref a), .val (.int 2), .val (.int 1), .val (.int ((2 : Int32) <<< ((0 : Int32) &&& 31))), .val (.int (((2 : Int32) <<< ((0 : Int32) &&& 31)) - (1 : Int32))), .unset] [(.int 4)])
  refine own_seg C S1032 [(32, .istore 5, 2), (34, .iload 5, 2)] (by decide +kernel) 36 #[.val (.ref a), .val (.int 2), .val (.int 1), .val (.int ((2 : Int32) <<< ((0 : Int32) &&& 31))), .val (.int (((2 : Int32) <<< ((0 : Int32) &&& 31)) - (1 : Int32))), .val (.int 4)] [(.int 4)] rfl ?_
  refine own_ldc C S1032 (own_wd hw 180 rfl) (by decide +kernel) ?_
  refine own_icmp C S1032 (q := .ne) (o := 13) (by decide +kernel) 51 (by decide) (by decide) (fun (q1033 : ¬ (4 : Int32) = 2147483647) => ?_) (fun (hq : (4 : Int32) = 2147483647) => False.elim (absurd hq (by decide)))
  refine own_seg C S1032 [(51, .iload 5, 2), (53, .aload_n 0, 1)] (by decide +kernel) 54 #[.val (.ref a), .val (.int 2), .val (.int 1), .val (.int ((2 : Int32) <<< ((0 : Int32) &&& 31))), .val (.int (((2 : Int32) <<< ((0 : Int32) &&& 31)) - (1 : Int32))), .val (.int 4)] [(.ref a), (.int 4)] rfl ?_
  refine own_getF C S1032 (host := "") (Or.inl (own_wd hw 58 rfl)) Via.refl aC (by decide +kernel) ?_
  intro T1034 S1035
  refine own_seg C S1035 [(57, .ishr, 1)] (by decide +kernel) 58 #[.val (.ref a), .val (.int 2), .val (.int 1), .val (.int ((2 : Int32) <<< ((0 : Int32) &&& 31))), .val (.int (((2 : Int32) <<< ((0 : Int32) &&& 31)) - (1 : Int32))), .val (.int 4)] [(.int ((4 : Int32) >>> ((0 : Int32) &&& 31)))] rfl ?_
  refine own_retI C S1035 (by decide +kernel) (by decide) (by decide) ?_
  exact ⟨rfl, rfl⟩
theorem own_co_1 (l : Launch) (Z : State) (a0 : Array Value) (hw : ∀ d ∈ tables_1, d.before a0 Z = true) (b : Addr) (bk : ClassId) (b0 : Int32) (h0 : Heap) (n0 : Nat) (z0 : n0 ≤ h0.size) (bK : Arv Z h0 b bk .byte (1 : Int32) ([(.int b0)]) (.int 0)) :
    own_Met l Z (⟨"java/util/Arrays", "copyOf", "([BI)[B"⟩ : MethodName) jdk_65_method_121_code 3 (some (.array .byte)) ({ frames := 1, cells := 1, slots := 4, locals := 18 } : Room) n0 #[(.ref b), (.int 4)] h0 (fun v h => ∃ r : Addr, ∃ rk : ClassId, v = some (.ref r) ∧ h0.size ≤ r ∧ Keep h0 h [] ∧ Arv Z h r rk .byte (4 : Int32) ([(.int b0), (.int 0), (.int 0), (.int 0)]) (.int 0) ∧ Exa Z h r "[B") := by
  refine own_met (by decide +kernel) #[.val (.ref b), .val (.int 4), .unset] (fun m => by first | (simp [entryFrame, mkF, argsToLocals, Value.category]; done) | rfl) ?_
  intro p e s m below meth c T0 C S0
  refine own_seg C S0 [(0, .iload_n 1, 1), (1, .aload_n 0, 1)] (by decide +kernel) 2 #[.val (.ref b), .val (.int 4), .unset] [(.ref b), (.int 4)] rfl ?_
  refine own_alen C S0 bK (by decide +kernel) ?_
  refine own_icmp C S0 (q := .ne) (o := 11) (by decide +kernel) 14 (by decide) (by decide) (fun (q1036 : ¬ (4 : Int32) = (1 : Int32)) => ?_) (fun (hq : (4 : Int32) = (1 : Int32)) => False.elim (absurd hq (by decide)))
  refine own_seg C S0 [(14, .iload_n 1, 1)] (by decide +kernel) 15 #[.val (.ref b), .val (.int 4), .unset] [(.int 4)] rfl ?_
  refine own_newPE C S0 (aty := .byte) (ad := "[B") (by decide) (own_wd hw 16 rfl) (by decide +kernel) (by decide) 4 (by decide) (by decide) (by decide) (by decide) ?_
  intro T1037 h1039 a1040 k1041 S1038 g1042 E1043 f1044 x1045
  have f1046 : Arv Z h1039 a1040 k1041 .byte (4 : Int32) ([(.int 0), (.int 0), (.int 0), (.int 0)]) (.int 0) := Arv.pad f1044 (pad_rep [] (.int 0) 4)
  refine own_seg C S1038 [(17, .astore_n 2, 1), (18, .aload_n 0, 1), (19, .iconst 0, 1), (20, .aload_n 2, 1), (21, .iconst 0, 1), (22, .aload_n 0, 1)] (by decide +kernel) 23 #[.val (.ref b), .val (.int 4), .val (.ref a1040)] [(.ref b), (.int 0), (.ref a1040), (.int 0), (.ref b)] rfl ?_
  have f1047 := (bK.ext E1043)
  refine own_alen C S1038 f1047 (by decide +kernel) ?_
  refine own_seg C S1038 [(24, .iload_n 1, 1)] (by decide +kernel) 25 #[.val (.ref b), .val (.int 4), .val (.ref a1040)] [(.int 4), (.int 1), (.int 0), (.ref a1040), (.int 0), (.ref b)] rfl ?_
  have f1048 : n0 ≤ h1039.size := (Nat.le_trans z0 E1043.1)
  refine own_callS C S1038 (own_wd hw 185 rfl) (own_wd hw 124 rfl) (own_wd hw 121 rfl) (own_wd hw 125 rfl) (by decide) (own_Met.pay (own_min l Z a0 hw (1 : Int32) (4 : Int32) h1039 n0 f1048) C 4 (own_wd hw 125 rfl) (own_wd hw 121 rfl) (by decide) (by decide)) (fun _ _ _ q => q.2) [(.int 1), (.int 4)] [(.int 0), (.ref a1040), (.int 0), (.ref b)] rfl own_pd2 rfl rfl rfl (Nat.le_of_ble_eq_true rfl) (by decide) (by decide) (by decide +kernel) ?_
  rintro T1050 h1051 v1052 L1053 S1054 ⟨⟨rfl, e1049⟩, -⟩
  rw [e1049] at S1054; clear e1049
  show own_Go p e below _ T1050 (mkF m 28 #[.val (.ref b), .val (.int 4), .val (.ref a1040)] [(.int (if (4 : Int32) < (1 : Int32) then (4 : Int32) else (1 : Int32))), (.int 0), (.ref a1040), (.int 0), (.ref b)])
  show own_Go p e below _ T1050 (mkF m 28 #[.val (.ref b), .val (.int 4), .val (.ref a1040)] [(.int 1), (.int 0), (.ref a1040), (.int 0), (.ref b)])
  have g1055 : n0 ≤ a1040 := by rw [g1042]; exact z0
  refine own_copy C S1054 (own_wd hw 186 rfl) (own_wd hw 189 rfl) (own_wd hw 187 rfl) (own_wd hw 188 rfl) f1047 f1046 rfl (by decide) (by decide) (by decide) (by decide) (by decide) (by decide) g1055 ([(.int b0), (.int 0), (.int 0), (.int 0)]) rfl rfl (by decide +kernel) (by decide) 0 (Nat.le_of_ble_eq_true rfl) (by decide) ?_
  intro T1056 h1058 S1057 K1059 f1060
  refine own_seg C S1057 [(31, .aload_n 2, 1)] (by decide +kernel) 32 #[.val (.ref b), .val (.int 4), .val (.ref a1040)] [(.ref a1040)] rfl ?_
  refine own_retA C S1057 rfl rfl (by decide +kernel) (by decide) (by decide) ?_
  have o1061 : h0.size ≤ a1040 := by rw [g1042]; exact (Nat.le_refl _)
  have f1062 := (x1045.keep K1059)
  exact ⟨a1040, k1041, rfl, o1061, (((Keep.refl _ _).ext E1043).trans K1059 (allS (Or.inr o1061) all0)), f1060, f1062⟩
theorem own_ens1 (l : Launch) (Z : State) (a0 : Array Value) (hw : ∀ d ∈ tables_1, d.before a0 Z = true) (a : Addr) (b : Addr) (bk : ClassId) (b0 : Int32) (h0 : Heap) (n0 : Nat) (z0 : n0 ≤ h0.size) (ge_a : n0 ≤ a) (aE : Exa Z h0 a "java/lang/StringBuilder") (aV : Fld Z h0 a "java/lang/AbstractStringBuilder" "value" "[B" (.ref b)) (aC : Fld Z h0 a "java/lang/AbstractStringBuilder" "coder" "B" (.int 0)) (aN : Fld Z h0 a "java/lang/AbstractStringBuilder" "count" "I" (.int 1)) (bK : Arv Z h0 b bk .byte (1 : Int32) ([(.int b0)]) (.int 0)) (ne_b_a : b ≠ a) :
    own_Met l Z (⟨"java/lang/AbstractStringBuilder", "ensureCapacityInternal", "(I)V"⟩ : MethodName) jdk_68_method_9_code 3 none ({ frames := 3, cells := 1, slots := 4, locals := 48 } : Room) n0 #[(.ref a), (.int 2)] h0 (fun v h => ∃ r : Addr, ∃ rk : ClassId, v = none ∧ h0.size ≤ r ∧ Keep h0 h [a] ∧ Exa Z h a "java/lang/StringBuilder" ∧ Fld Z h a "java/lang/AbstractStringBuilder" "value" "[B" (.ref r) ∧ Fld Z h a "java/lang/AbstractStringBuilder" "coder" "B" (.int 0) ∧ Fld Z h a "java/lang/AbstractStringBuilder" "count" "I" (.int 1) ∧ Arv Z h r rk .byte (4 : Int32) ([(.int b0), (.int 0), (.int 0), (.int 0)]) (.int 0) ∧ Exa Z h r "[B") := by
  refine own_met (by decide +kernel) #[.val (.ref a), .val (.int 2), .unset] (fun m => by first | (simp [entryFrame, mkF, argsToLocals, Value.category]; done) | rfl) ?_
  intro p e s m below meth c T0 C S0
  refine own_seg C S0 [(0, .aload_n 0, 1)] (by decide +kernel) 1 #[.val (.ref a), .val (.int 2), .unset] [(.ref a)] rfl ?_
  refine own_getF C S0 (host := "") (Or.inl (own_wd hw 56 rfl)) Via.refl aV (by decide +kernel) ?_
  intro T1063 S1064
  refine own_alen C S1064 bK (by decide +kernel) ?_
  refine own_seg C S1064 [(5, .aload_n 0, 1)] (by decide +kernel) 6 #[.val (.ref a), .val (.int 2), .unset] [(.ref a), (.int 1)] rfl ?_
  refine own_getF C S1064 (host := "") (Or.inl (own_wd hw 58 rfl)) Via.refl aC (by decide +kernel) ?_
  intro T1065 S1066
  refine own_seg C S1066 [(9, .ishr, 1), (10, .istore_n 2, 1), (11, .iload_n 1, 1), (12, .iload_n 2, 1), (13, .isub, 1)] (by decide +kernel) 14 #[.val (.ref a), .val (.int 2), .val (.int ((1 : Int32) >>> ((0 : Int32) &&& 31)))] [(.int ((2 : Int32) - ((1 : Int32) >>> ((0 : Int32) &&& 31))))] rfl ?_
  refine own_if C S1066 (q := .le) (o := 24) (by decide +kernel) 38 (by decide) (by decide) (fun (hq : ¬ (0 : Int32) < ((2 : Int32) - ((1 : Int32) >>> ((0 : Int32) &&& 31)))) => False.elim (hq (by decide))) (fun (q1067 : (0 : Int32) < ((2 : Int32) - ((1 : Int32) >>> ((0 : Int32) &&& 31)))) => ?_)
  refine own_seg C S1066 [(17, .aload_n 0, 1), (18, .aload_n 0, 1)] (by decide +kernel) 19 #[.val (.ref a), .val (.int 2), .val (.int ((1 : Int32) >>> ((0 : Int32) &&& 31)))] [(.ref a), (.ref a)] rfl ?_
  refine own_getF C S1066 (host := "") (Or.inl (own_wd hw 56 rfl)) Via.refl aV (by decide +kernel) ?_
  intro T1068 S1069
  refine own_seg C S1069 [(22, .aload_n 0, 1), (23, .iload_n 1, 1)] (by decide +kernel) 24 #[.val (.ref a), .val (.int 2), .val (.int ((1 : Int32) >>> ((0 : Int32) &&& 31)))] [(.int 2), (.ref a), (.ref b), (.ref a)] rfl ?_
  refine own_callP C S1069 (own_wd hw 169 rfl) (own_wd hw 170 rfl) (own_selfP (own_wd hw 170 rfl) (own_wd hw 171 rfl) (own_wd hw 172 rfl) (by decide)) (own_wd hw 171 rfl) (own_wd hw 173 rfl) (by decide) (own_Met.pay (own_nc1 l Z a0 hw a b bk ([(.int b0)]) h0 n0 z0 aV aC bK) C 2 (own_wd hw 173 rfl) (own_wd hw 52 rfl) (by decide) (by decide)) (fun _ _ _ q => q.2) aE [(.int 2)] [(.ref b), (.ref a)] rfl own_pd16 rfl rfl rfl (Nat.le_of_ble_eq_true rfl) (by decide) (by decide) (by decide +kernel) ?_
  rintro T1071 h1072 v1073 L1074 S1075 ⟨⟨rfl, e1070⟩, -⟩
  rw [e1070] at S1075; clear e1070
  show own_Go p e below _ T1071 (mkF m 27 #[.val (.ref a), .val (.int 2), .val (.int ((1 : Int32) >>> ((0 : Int32) &&& 31)))] [(.int 4), (.ref b), (.ref a)])
  refine own_seg C S1075 [(27, .aload_n 0, 1)] (by decide +kernel) 28 #[.val (.ref a), .val (.int 2), .val (.int ((1 : Int32) >>> ((0 : Int32) &&& 31)))] [(.ref a), (.int 4), (.ref b), (.ref a)] rfl ?_
  refine own_getF C S1075 (host := "") (Or.inl (own_wd hw 58 rfl)) Via.refl aC (by decide +kernel) ?_
  intro T1076 S1077
  refine own_seg C S1077 [(31, .ishl, 1)] (by decide +kernel) 32 #[.val (.ref a), .val (.int 2), .val (.int ((1 : Int32) >>> ((0 : Int32) &&& 31)))] [(.int ((4 : Int32) <<< ((0 : Int32) &&& 31))), (.ref b), (.ref a)] rfl ?_
  show own_Go p e below _ T1076 (mkF m 32 #[.val (.ref a), .val (.int 2), .val (.int ((1 : Int32) >>> ((0 : Int32) &&& 31)))] [(.int 4), (.ref b), (.ref a)])
  refine own_callS C S1077 (own_wd hw 181 rfl) (own_wd hw 182 rfl) (own_wd hw 183 rfl) (own_wd hw 184 rfl) (by decide) (own_Met.pay (own_co_1 l Z a0 hw b _ b0 h0 n0 z0 bK) C 1 (own_wd hw 184 rfl) (own_wd hw 183 rfl) (by decide) (by decide)) (fun _ _ _ q => q.2) [(.ref b), (.int 4)] [(.ref a)] rfl own_pd14 rfl rfl rfl (Nat.le_of_ble_eq_true rfl) (by decide) (by decide) (by decide +kernel) ?_
  rintro T1084 h1085 v1086 L1087 S1088 ⟨⟨a1078, k1079, rfl, g1080, K1081, f1082, f1083⟩, -⟩
  show own_Go p e below _ T1084 (mkF m 35 #[.val (.ref a), .val (.int 2), .val (.int ((1 : Int32) >>> ((0 : Int32) &&& 31)))] [(.ref a1078), (.ref a)])
  have f1089 := (aV.keep K1081 nin0)
  have f1090 := (aE.keep K1081)
  refine own_putF C S1088 (ty := (.array .byte)) (host := "") (Or.inl (own_wd hw 56 rfl)) Via.refl f1089 f1090 (Or.inl (own_wd hw 57 rfl)) (own_wd hw 33 rfl) own_fd0 rfl rfl ge_a (by decide +kernel) ?_
  intro T1091 h1093 S1092 W1094
  have f1095 : Fld Z h1093 a "java/lang/AbstractStringBuilder" "value" "[B" (.ref a1078) := Fld.same W1094 f1089
  refine own_retV C S1092 (by decide +kernel) (by decide) (by decide) ?_
  have o1096 : h0.size ≤ a1078 := Nat.le_trans (Nat.le_refl _) g1080
  have f1097 := (Exa.wr W1094 f1090)
  have f1098 := (Fld.other W1094 (aC.keep K1081 nin0) (Or.inr (own_sn2 hw)))
  have f1099 := (Fld.other W1094 (aN.keep K1081 nin0) (Or.inr (own_sn4 hw)))
  have n1100 : a ≠ a1078 := Nat.ne_of_lt (Nat.lt_of_lt_of_le aE.lt g1080)
  have f1101 := (f1082.other W1094 (Ne.symm n1100))
  have f1102 := (Exa.wr W1094 f1083)
  exact ⟨a1078, k1079, rfl, o1096, (((Keep.refl _ _).trans K1081 all0).wr W1094 (Or.inl (List.mem_of_getElem? (i := 0) rfl))), f1097, f1095, f1098, f1099, f1101, f1102⟩
theorem own_asbG1 (l : Launch) (Z : State) (a0 : Array Value) (hw : ∀ d ∈ tables_1, d.before a0 Z = true) (G1 : Int32) (G3 : Value) (a : Addr) (b : Addr) (bk : ClassId) (b0 : Int32) (k : Int32) (h0 : Heap) (n0 : Nat) (z0 : n0 ≤ h0.size) (ge_a : n0 ≤ a) (X00 : Old Z n0 h0) (aE : Exa Z h0 a "java/lang/StringBuilder") (aV : Fld Z h0 a "java/lang/AbstractStringBuilder" "value" "[B" (.ref b)) (aC : Fld Z h0 a "java/lang/AbstractStringBuilder" "coder" "B" (.int 0)) (aN : Fld Z h0 a "java/lang/AbstractStringBuilder" "count" "I" (.int 1)) (bK : Arv Z h0 b bk .byte (1 : Int32) ([(.int b0)]) (.int 0)) (ne_b_a : b ≠ a) (O2 : Sta Z Z.heap "java/lang/String" "COMPACT_STRINGS" "Z" (.int G1)) (O4 : Sta Z Z.heap "jdk/internal/util/Preconditions" "SIOOBE_FORMATTER" "Ljava/util/function/BiFunction;" G3) (P5 : ¬ G1 = (0 : Int32)) (rG3 : G3.isRef = true) (k0 : ¬ (255 : Int32) < k) :
    own_Met l Z (⟨"java/lang/AbstractStringBuilder", "append", "(C)Ljava/lang/AbstractStringBuilder;"⟩ : MethodName) jdk_68_method_31_code 2 (some (.object "java/lang/AbstractStringBuilder")) ({ frames := 4, cells := 1, slots := 4, locals := 62 } : Room) n0 #[(.ref a), (.int k)] h0 (fun v h => ∃ r : Addr, ∃ rk : ClassId, v = some (.ref a) ∧ h0.size ≤ r ∧ Keep h0 h [a] ∧ Exa Z h a "java/lang/StringBuilder" ∧ Fld Z h a "java/lang/AbstractStringBuilder" "value" "[B" (.ref r) ∧ Fld Z h a "java/lang/AbstractStringBuilder" "coder" "B" (.int 0) ∧ Fld Z h a "java/lang/AbstractStringBuilder" "count" "I" (.int 2) ∧ Arv Z h r rk .byte (4 : Int32) ([(.int b0), (.int k.toInt8.toInt32), (.int 0), (.int 0)]) (.int 0) ∧ Exa Z h r "[B") := by
  refine own_met (by decide +kernel) #[.val (.ref a), .val (.int k)] (fun m => by first | (simp [entryFrame, mkF, argsToLocals, Value.category]; done) | rfl) ?_
  intro p e s m below meth c T0 C S0
  refine own_seg C S0 [(0, .aload_n 0, 1), (1, .aload_n 0, 1)] (by decide +kernel) 2 #[.val (.ref a), .val (.int k)] [(.ref a), (.ref a)] rfl ?_
  refine own_getF C S0 (host := "") (Or.inl (own_wd hw 139 rfl)) Via.refl aN (by decide +kernel) ?_
  intro T1103 S1104
  refine own_seg C S1104 [(5, .iconst 1, 1), (6, .iadd, 1)] (by decide +kernel) 7 #[.val (.ref a), .val (.int k)] [(.int ((1 : Int32) + (1 : Int32))), (.ref a)] rfl ?_
  show own_Go p e below _ T1103 (mkF m 7 #[.val (.ref a), .val (.int k)] [(.int 2), (.ref a)])
  refine own_callP C S1104 (own_wd hw 141 rfl) (own_wd hw 142 rfl) (own_selfP (own_wd hw 142 rfl) (own_wd hw 143 rfl) (own_wd hw 144 rfl) (by decide)) (own_wd hw 143 rfl) (own_wd hw 145 rfl) (by decide) (own_Met.pay (own_ens1 l Z a0 hw a _ _ b0 h0 n0 z0 ge_a aE aV aC aN bK ne_b_a) C 0 (own_wd hw 145 rfl) (own_wd hw 52 rfl) (by decide) (by decide)) (fun _ _ _ q => q.2) aE [(.int 2)] [] rfl own_pd22 rfl rfl rfl (Nat.le_of_ble_eq_true rfl) (by decide) (by decide) (by decide +kernel) ?_
  rintro T1115 h1116 v1117 L1118 S1119 ⟨⟨a1105, k1106, rfl, g1107, K1108, f1109, f1110, f1111, f1112, f1113, f1114⟩, -⟩
  show own_Go p e below _ T1115 (mkF m 10 #[.val (.ref a), .val (.int k)] [])
  refine own_seg C S1119 [(10, .aload_n 0, 1)] (by decide +kernel) 11 #[.val (.ref a), .val (.int k)] [(.ref a)] rfl ?_
  have f1120 := (X00.keep K1108 (allS ge_a all0))
  have f1121 : n0 ≤ h1116.size := (Nat.le_trans z0 K1108.1)
  refine own_callV C S1119 (own_wd hw 146 rfl) (own_wd hw 147 rfl) (own_wd hw 149 rfl) (own_wd hw 149 rfl) rfl (own_wd hw 148 rfl) (by decide) (own_Met.pay (own_asbisL l Z a0 hw G1 G3 a h1116 n0 f1121 f1120 f1111 O2 O4 P5 rG3) C 0 (own_wd hw 150 rfl) (own_wd hw 52 rfl) (by decide) (by decide)) (fun _ _ _ q => q.2) f1109 [] [] rfl own_pd4 rfl rfl rfl (Nat.le_of_ble_eq_true rfl) (by decide) (by decide) (by decide +kernel) ?_
  rintro T1123 h1124 v1125 L1126 S1127 ⟨⟨rfl, e1122⟩, -⟩
  rw [e1122] at S1127; clear e1122
  show own_Go p e below _ T1123 (mkF m 14 #[.val (.ref a), .val (.int k)] [(.int 1)])
  refine own_if C S1127 (q := .eq) (o := 31) (by decide +kernel) 45 (by decide) (by decide) (fun (hq : (1 : Int32) = (0 : Int32)) => False.elim (absurd hq (by decide))) (fun (q1128 : ¬ (1 : Int32) = (0 : Int32)) => ?_)
  refine own_seg C S1127 [(17, .iload_n 1, 1)] (by decide +kernel) 18 #[.val (.ref a), .val (.int k)] [(.int k)] rfl ?_
  refine own_callS C S1127 (own_wd hw 151 rfl) (own_wd hw 8 rfl) (own_wd hw 9 rfl) (own_wd hw 10 rfl) (by decide) (own_Met.pay (own_cec l Z a0 hw k h1116 n0 f1121 k0) C 0 (own_wd hw 10 rfl) (own_wd hw 9 rfl) (by decide) (by decide)) (fun _ _ _ q => q.2) [(.int k)] [] rfl own_pd11 rfl rfl rfl (Nat.le_of_ble_eq_true rfl) (by decide) (by decide) (by decide +kernel) ?_
  rintro T1130 h1131 v1132 L1133 S1134 ⟨⟨rfl, e1129⟩, -⟩
  rw [e1129] at S1134; clear e1129
  show own_Go p e below _ T1130 (mkF m 21 #[.val (.ref a), .val (.int k)] [(.int 1)])
  refine own_if C S1134 (q := .eq) (o := 24) (by decide +kernel) 45 (by decide) (by decide) (fun (hq : (1 : Int32) = (0 : Int32)) => False.elim (absurd hq (by decide))) (fun (q1135 : ¬ (1 : Int32) = (0 : Int32)) => ?_)
  refine own_seg C S1134 [(24, .aload_n 0, 1)] (by decide +kernel) 25 #[.val (.ref a), .val (.int k)] [(.ref a)] rfl ?_
  refine own_getF C S1134 (host := "") (Or.inl (own_wd hw 56 rfl)) Via.refl f1110 (by decide +kernel) ?_
  intro T1136 S1137
  refine own_seg C S1137 [(28, .aload_n 0, 1), (29, .dup, 1)] (by decide +kernel) 30 #[.val (.ref a), .val (.int k)] [(.ref a), (.ref a), (.ref a1105)] rfl ?_
  refine own_getF C S1137 (host := "") (Or.inl (own_wd hw 139 rfl)) Via.refl f1112 (by decide +kernel) ?_
  intro T1138 S1139
  refine own_seg C S1139 [(33, .dup_x1, 1), (34, .iconst 1, 1), (35, .iadd, 1)] (by decide +kernel) 36 #[.val (.ref a), .val (.int k)] [(.int ((1 : Int32) + (1 : Int32))), (.ref a), (.int 1), (.ref a1105)] rfl ?_
  refine own_putF C S1139 (ty := .int) (host := "") (Or.inl (own_wd hw 139 rfl)) Via.refl f1112 f1109 (Or.inl (own_wd hw 140 rfl)) (own_wd hw 33 rfl) own_fd2 rfl rfl ge_a (by decide +kernel) ?_
  intro T1140 h1142 S1141 W1143
  have f1144 : Fld Z h1142 a "java/lang/AbstractStringBuilder" "count" "I" (.int ((1 : Int32) + (1 : Int32))) := Fld.same W1143 f1112
  refine own_seg C S1141 [(39, .iload_n 1, 1), (40, .i2b, 1)] (by decide +kernel) 41 #[.val (.ref a), .val (.int k)] [(.int k.toInt8.toInt32), (.int 1), (.ref a1105)] rfl ?_
  have n1145 : a ≠ a1105 := Nat.ne_of_lt (Nat.lt_of_lt_of_le aV.lt g1107)
  have f1146 := (f1113.other W1143 (Ne.symm n1145))
  have g1147 : n0 ≤ a1105 := Nat.le_trans z0 g1107
  refine own_bastore C S1141 f1146 ⟨(by decide), (by decide)⟩ 1 rfl (Nat.le_of_ble_eq_true rfl) k.toInt8.toInt32 (own_i2b2 _) g1147 (by decide +kernel) ?_
  intro T1148 h1150 S1149 W1151 f1152
  have f1153 : Arv Z h1150 a1105 k1106 .byte (4 : Int32) ([(.int b0), (.int k.toInt8.toInt32), (.int 0), (.int 0)]) (.int 0) := f1152
  refine own_seg C S1149 [(42, .goto 33, 3), (75, .aload_n 0, 1)] (by decide +kernel) 76 #[.val (.ref a), .val (.int k)] [(.ref a)] rfl ?_
  refine own_retA C S1149 rfl rfl (by decide +kernel) (by decide) (by decide) ?_
  have o1154 : h0.size ≤ a1105 := Nat.le_trans (Nat.le_refl _) g1107
  have f1155 := (Exa.wr W1151 (Exa.wr W1143 f1109))
  have f1156 := (Fld.other W1151 (Fld.other W1143 f1110 (Or.inr (own_sn6 hw))) (Or.inl n1145))
  have f1157 := (Fld.other W1151 (Fld.other W1143 f1111 (Or.inr (own_sn7 hw))) (Or.inl n1145))
  have f1158 := (Fld.other W1151 f1144 (Or.inl n1145))
  have f1159 := (Exa.wr W1151 (Exa.wr W1143 f1114))
  exact ⟨a1105, k1106, rfl, o1154, ((((Keep.refl _ _).trans K1108 (allS (Or.inl (List.mem_of_getElem? (i := 0) rfl)) all0)).wr W1143 (Or.inl (List.mem_of_getElem? (i := 0) rfl))).wr W1151 (Or.inr o1154)), f1155, f1156, f1157, f1158, f1153, f1159⟩
theorem own_sbG1 (l : Launch) (Z : State) (a0 : Array Value) (hw : ∀ d ∈ tables_1, d.before a0 Z = true) (G1 : Int32) (G3 : Value) (a : Addr) (b : Addr) (bk : ClassId) (b0 : Int32) (k : Int32) (h0 : Heap) (n0 : Nat) (z0 : n0 ≤ h0.size) (ge_a : n0 ≤ a) (X00 : Old Z n0 h0) (aE : Exa Z h0 a "java/lang/StringBuilder") (aV : Fld Z h0 a "java/lang/AbstractStringBuilder" "value" "[B" (.ref b)) (aC : Fld Z h0 a "java/lang/AbstractStringBuilder" "coder" "B" (.int 0)) (aN : Fld Z h0 a "java/lang/AbstractStringBuilder" "count" "I" (.int 1)) (bK : Arv Z h0 b bk .byte (1 : Int32) ([(.int b0)]) (.int 0)) (ne_b_a : b ≠ a) (O2 : Sta Z Z.heap "java/lang/String" "COMPACT_STRINGS" "Z" (.int G1)) (O4 : Sta Z Z.heap "jdk/internal/util/Preconditions" "SIOOBE_FORMATTER" "Ljava/util/function/BiFunction;" G3) (P5 : ¬ G1 = (0 : Int32)) (rG3 : G3.isRef = true) (k0 : ¬ (255 : Int32) < k) :
    own_Met l Z (⟨"java/lang/StringBuilder", "append", "(C)Ljava/lang/StringBuilder;"⟩ : MethodName) jdk_67_method_14_code 2 (some (.object "java/lang/StringBuilder")) ({ frames := 5, cells := 1, slots := 4, locals := 75 } : Room) n0 #[(.ref a), (.int k)] h0 (fun v h => ∃ r : Addr, ∃ rk : ClassId, v = some (.ref a) ∧ h0.size ≤ r ∧ Keep h0 h [a] ∧ Exa Z h a "java/lang/StringBuilder" ∧ Fld Z h a "java/lang/AbstractStringBuilder" "value" "[B" (.ref r) ∧ Fld Z h a "java/lang/AbstractStringBuilder" "coder" "B" (.int 0) ∧ Fld Z h a "java/lang/AbstractStringBuilder" "count" "I" (.int 2) ∧ Arv Z h r rk .byte (4 : Int32) ([(.int b0), (.int k.toInt8.toInt32), (.int 0), (.int 0)]) (.int 0) ∧ Exa Z h r "[B") := by
  refine own_met (by decide +kernel) #[.val (.ref a), .val (.int k)] (fun m => by first | (simp [entryFrame, mkF, argsToLocals, Value.category]; done) | rfl) ?_
  intro p e s m below meth c T0 C S0
  refine own_seg C S0 [(0, .aload_n 0, 1), (1, .iload_n 1, 1)] (by decide +kernel) 2 #[.val (.ref a), .val (.int k)] [(.int k), (.ref a)] rfl ?_
  refine own_callX C S0 (own_wd hw 134 rfl) (own_same (own_wd hw 135 rfl) (own_wd hw 144 rfl) rfl (by decide)) (own_wd hw 135 rfl) (own_wd hw 136 rfl) (by decide) (own_wd hw 138 rfl) (own_Met.pay (own_asbG1 l Z a0 hw G1 G3 a _ _ b0 k h0 n0 z0 ge_a X00 aE aV aC aN bK ne_b_a O2 O4 P5 rG3 k0) C 0 (own_wd hw 138 rfl) (own_wd hw 52 rfl) (by decide) (by decide)) (fun _ _ _ q => q.2) (Ins.self aE) [(.int k)] [] rfl own_pd23 rfl rfl rfl (Nat.le_of_ble_eq_true rfl) (by decide) (by decide) (by decide +kernel) ?_
  rintro T1170 h1171 v1172 L1173 S1174 ⟨⟨a1160, k1161, rfl, g1162, K1163, f1164, f1165, f1166, f1167, f1168, f1169⟩, -⟩
  show own_Go p e below _ T1170 (mkF m 5 #[.val (.ref a), .val (.int k)] [(.ref a)])
  refine own_seg C S1174 [(5, .pop, 1), (6, .aload_n 0, 1)] (by decide +kernel) 7 #[.val (.ref a), .val (.int k)] [(.ref a)] rfl ?_
  refine own_retA C S1174 rfl rfl (by decide +kernel) (by decide) (by decide) ?_
  have o1175 : h0.size ≤ a1160 := Nat.le_trans (Nat.le_refl _) g1162
  exact ⟨a1160, k1161, rfl, o1175, ((Keep.refl _ _).trans K1163 (allS (Or.inl (List.mem_of_getElem? (i := 0) rfl)) all0)), f1164, f1165, f1166, f1167, f1168, f1169⟩
theorem own_nl4 (l : Launch) (Z : State) (a0 : Array Value) (hw : ∀ d ∈ tables_1, d.before a0 Z = true) (h0 : Heap) (n0 : Nat) (z0 : n0 ≤ h0.size) :
    own_Met l Z (⟨"jdk/internal/util/ArraysSupport", "newLength", "(III)I"⟩ : MethodName) jdk_48_method_27_code 4 (some .int) ({ frames := 1, cells := 0, slots := 0, locals := 14 } : Room) n0 #[(.int 4), (.int 1), (.int 6)] h0 (fun v h => v = some (.int 10) ∧ h = h0) := by
  refine own_met (by decide +kernel) #[.val (.int 4), .val (.int 1), .val (.int 6), .unset] (fun m => by first | (simp [entryFrame, mkF, argsToLocals, Value.category]; done) | rfl) ?_
  intro p e s m below meth c T0 C S0
  refine own_seg C S0 [(0, .iload_n 0, 1), (1, .iload_n 1, 1), (2, .iload_n 2, 1)] (by decide +kernel) 3 #[.val (.int 4), .val (.int 1), .val (.int 6), .unset] [(.int 6), (.int 1), (.int 4)] rfl ?_
  refine own_callS C S0 (own_wd hw 178 rfl) (own_wd hw 120 rfl) (own_wd hw 121 rfl) (own_wd hw 122 rfl) (by decide) (own_Met.pay (own_max l Z a0 hw (1 : Int32) (6 : Int32) h0 n0 z0) C 1 (own_wd hw 122 rfl) (own_wd hw 121 rfl) (by decide) (by decide)) (fun _ _ _ q => q.2) [(.int 1), (.int 6)] [(.int 4)] rfl own_pd2 rfl rfl rfl (Nat.le_of_ble_eq_true rfl) (by decide) (by decide) (by decide +kernel) ?_
  rintro T1177 h1178 v1179 L1180 S1181 ⟨⟨rfl, e1176⟩, -⟩
  rw [e1176] at S1181; clear e1176
  show own_Go p e below _ T1177 (mkF m 6 #[.val (.int 4), .val (.int 1), .val (.int 6), .unset] [(.int (if (1 : Int32) < (6 : Int32) then (6 : Int32) else (1 : Int32))), (.int 4)])
  refine own_seg C S1181 [(6, .iadd, 1), (7, .istore_n 3, 1), (8, .iconst 0, 1), (9, .iload_n 3, 1)] (by decide +kernel) 10 #[.val (.int 4), .val (.int 1), .val (.int 6), .val (.int ((4 : Int32) + (if (1 : Int32) < (6 : Int32) then (6 : Int32) else (1 : Int32))))] [(.int ((4 : Int32) + (if (1 : Int32) < (6 : Int32) then (6 : Int32) else (1 : Int32)))), (.int 0)] rfl ?_
  refine own_icmp C S1181 (q := .ge) (o := 11) (by decide +kernel) 21 (by decide) (by decide) (fun (hq : ¬ (0 : Int32) < ((4 : Int32) + (if (1 : Int32) < (6 : Int32) then (6 : Int32) else (1 : Int32)))) => False.elim (absurd hq (by decide))) (fun (q1182 : (0 : Int32) < ((4 : Int32) + (if (1 : Int32) < (6 : Int32) then (6 : Int32) else (1 : Int32)))) => ?_)
  refine own_seg C S1181 [(13, .iload_n 3, 1)] (by decide +kernel) 14 #[.val (.int 4), .val (.int 1), .val (.int 6), .val (.int ((4 : Int32) + (if (1 : Int32) < (6 : Int32) then (6 : Int32) else (1 : Int32))))] [(.int ((4 : Int32) + (if (1 : Int32) < (6 : Int32) then (6 : Int32) else (1 : Int32))))] rfl ?_
  refine own_ldc C S1181 (own_wd hw 179 rfl) (by decide +kernel) ?_
  refine own_icmp C S1181 (q := .gt) (o := 5) (by decide +kernel) 21 (by decide) (by decide) (fun (hq : 2147483639 < ((4 : Int32) + (if (1 : Int32) < (6 : Int32) then (6 : Int32) else (1 : Int32)))) => False.elim (absurd hq (by decide))) (fun (q1183 : ¬ 2147483639 < ((4 : Int32) + (if (1 : Int32) < (6 : Int32) then (6 : Int32) else (1 : Int32)))) => ?_)
  refine own_seg C S1181 [(19, .iload_n 3, 1)] (by decide +kernel) 20 #[.val (.int 4), .val (.int 1), .val (.int 6), .val (.int ((4 : Int32) + (if (1 : Int32) < (6 : Int32) then (6 : Int32) else (1 : Int32))))] [(.int ((4 : Int32) + (if (1 : Int32) < (6 : Int32) then (6 : Int32) else (1 : Int32))))] rfl ?_
  refine own_retI C S1181 (by decide +kernel) (by decide) (by decide) ?_
  exact ⟨rfl, rfl⟩
theorem own_nc4 (l : Launch) (Z : State) (a0 : Array Value) (hw : ∀ d ∈ tables_1, d.before a0 Z = true) (a : Addr) (b : Addr) (bk : ClassId) (bvs : List Value) (h0 : Heap) (n0 : Nat) (z0 : n0 ≤ h0.size) (aV : Fld Z h0 a "java/lang/AbstractStringBuilder" "value" "[B" (.ref b)) (aC : Fld Z h0 a "java/lang/AbstractStringBuilder" "coder" "B" (.int 0)) (bK : Arv Z h0 b bk .byte (4 : Int32) bvs (.int 0)) :
    own_Met l Z (⟨"java/lang/AbstractStringBuilder", "newCapacity", "(I)I"⟩ : MethodName) jdk_68_method_10_code 6 (some .int) ({ frames := 2, cells := 0, slots := 0, locals := 29 } : Room) n0 #[(.ref a), (.int 5)] h0 (fun v h => v = some (.int 10) ∧ h = h0) := by
  refine own_met (by decide +kernel) #[.val (.ref a), .val (.int 5), .unset, .unset, .unset, .unset] (fun m => by first | (simp [entryFrame, mkF, argsToLocals, Value.category]; done) | rfl) ?_
  intro p e s m below meth c T0 C S0
  refine own_seg C S0 [(0, .aload_n 0, 1)] (by decide +kernel) 1 #[.val (.ref a), .val (.int 5), .unset, .unset, .unset, .unset] [(.ref a)] rfl ?_
  refine own_getF C S0 (host := "") (Or.inl (own_wd hw 56 rfl)) Via.refl aV (by decide +kernel) ?_
  intro T1184 S1185
  refine own_alen C S1185 bK (by decide +kernel) ?_
  refine own_seg C S1185 [(5, .istore_n 2, 1), (6, .iload_n 1, 1), (7, .aload_n 0, 1)] (by decide +kernel) 8 #[.val (.ref a), .val (.int 5), .val (.int 4), .unset, .unset, .unset] [(.ref a), (.int 5)] rfl ?_
  refine own_getF C S1185 (host := "") (Or.inl (own_wd hw 58 rfl)) Via.refl aC (by decide +kernel) ?_
  intro T1186 S1187
  refine own_seg C S1187 [(11, .ishl, 1), (12, .istore_n 3, 1), (13, .iload_n 3, 1), (14, .iload_n 2, 1), (15, .isub, 1), (16, .istore 4, 2), (18, .iload_n 2, 1), (19, .iload 4, 2), (21, .iload_n 2, 1), (22, .iconst 2, 1), (23, .aload_n 0, 1)] (by decide +kernel) 24 #[.val (.ref a), .val (.int 5), .val (.int 4), .val (.int ((5 : Int32) <<< ((0 : Int32) &&& 31))), .val (.int (((5 : Int32) <<< ((0 : Int32) &&& 31)) - (4 : Int32))), .unset] [(.ref a), (.int 2), (.int 4), (.int (((5 : Int32) <<< ((0 : Int32) &&& 31)) - (4 : Int32))), (.int 4)] rfl ?_
  refine own_getF C S1187 (host := "") (Or.inl (own_wd hw 58 rfl)) Via.refl aC (by decide +kernel) ?_
  intro T1188 S1189
  refine own_seg C S1189 [(27, .ishl, 1), (28, .iadd, 1)] (by decide +kernel) 29 #[.val (.ref a), .val (.int 5), .val (.int 4), .val (.int ((5 : Int32) <<< ((0 : Int32) &&& 31))), .val (.int (((5 : Int32) <<< ((0 : Int32) &&& 31)) - (4 : Int32))), .unset] [(.int ((4 : Int32) + ((2 : Int32) <<< ((0 : Int32) &&& 31)))), (.int (((5 : Int32) <<< ((0 : Int32) &&& 31)) - (4 : Int32))), (.int 4)] rfl ?_
  refine own_callS C S1189 (own_wd hw 174 rfl) (own_wd hw 175 rfl) (own_wd hw 176 rfl) (own_wd hw 177 rfl) (by decide) (own_Met.pay (own_nl4 l Z a0 hw  h0 n0 z0) C 0 (own_wd hw 177 rfl) (own_wd hw 176 rfl) (by decide) (by decide)) (fun _ _ _ q => q.2) [(.int 4), (.int (((5 : Int32) <<< ((0 : Int32) &&& 31)) - (4 : Int32))), (.int ((4 : Int32) + ((2 : Int32) <<< ((0 : Int32) &&& 31))))] [] rfl own_pd24 rfl rfl rfl (Nat.le_of_ble_eq_true rfl) (by decide) (by decide) (by decide +kernel) ?_
  rintro T1191 h1192 v1193 L1194 S1195 ⟨⟨rfl, e1190⟩, -⟩
  rw [e1190] at S1195; clear e1190
  show own_Go p e below _ T1191 (mkF m 32 #[.val (.ref a), .val (.int 5), .val (.int 4), .val (.int ((5 : Int32) <<< ((0 : Int32) &&& 31))), .val (.int (((5 : Int32) <<< ((0 : Int32) &&& 31)) - (4 : Int32))), .unset] [(.int 10)])
  refine own_seg C S1195 [(32, .istore 5, 2), (34, .iload 5, 2)] (by decide +kernel) 36 #[.val (.ref a), .val (.int 5), .val (.int 4), .val (.int ((5 : Int32) <<< ((0 : Int32) &&& 31))), .val (.int (((5 : Int32) <<< ((0 : Int32) &&& 31)) - (4 : Int32))), .val (.int 10)] [(.int 10)] rfl ?_
  refine own_ldc C S1195 (own_wd hw 180 rfl) (by decide +kernel) ?_
  refine own_icmp C S1195 (q := .ne) (o := 13) (by decide +kernel) 51 (by decide) (by decide) (fun (q1196 : ¬ (10 : Int32) = 2147483647) => ?_) (fun (hq : (10 : Int32) = 2147483647) => False.elim (absurd hq (by decide)))
  refine own_seg C S1195 [(51, .iload 5, 2), (53, .aload_n 0, 1)] (by decide +kernel) 54 #[.val (.ref a), .val (.int 5), .val (.int 4), .val (.int ((5 : Int32) <<< ((0 : Int32) &&& 31))), .val (.int (((5 : Int32) <<< ((0 : Int32) &&& 31)) - (4 : Int32))), .val (.int 10)] [(.ref a), (.int 10)] rfl ?_
  refine own_getF C S1195 (host := "") (Or.inl (own_wd hw 58 rfl)) Via.refl aC (by decide +kernel) ?_
  intro T1197 S1198
  refine own_seg C S1198 [(57, .ishr, 1)] (by decide +kernel) 58 #[.val (.ref a), .val (.int 5), .val (.int 4), .val (.int ((5 : Int32) <<< ((0 : Int32) &&& 31))), .val (.int (((5 : Int32) <<< ((0 : Int32) &&& 31)) - (4 : Int32))), .val (.int 10)] [(.int ((10 : Int32) >>> ((0 : Int32) &&& 31)))] rfl ?_
  refine own_retI C S1198 (by decide +kernel) (by decide) (by decide) ?_
  exact ⟨rfl, rfl⟩
theorem own_co_4 (l : Launch) (Z : State) (a0 : Array Value) (hw : ∀ d ∈ tables_1, d.before a0 Z = true) (b : Addr) (bk : ClassId) (b0 : Int32) (b1 : Int32) (b2 : Int32) (b3 : Int32) (h0 : Heap) (n0 : Nat) (z0 : n0 ≤ h0.size) (bK : Arv Z h0 b bk .byte (4 : Int32) ([(.int b0), (.int b1), (.int b2), (.int b3)]) (.int 0)) :
    own_Met l Z (⟨"java/util/Arrays", "copyOf", "([BI)[B"⟩ : MethodName) jdk_65_method_121_code 3 (some (.array .byte)) ({ frames := 1, cells := 1, slots := 10, locals := 18 } : Room) n0 #[(.ref b), (.int 10)] h0 (fun v h => ∃ r : Addr, ∃ rk : ClassId, v = some (.ref r) ∧ h0.size ≤ r ∧ Keep h0 h [] ∧ Arv Z h r rk .byte (10 : Int32) ([(.int b0), (.int b1), (.int b2), (.int b3), (.int 0), (.int 0), (.int 0), (.int 0), (.int 0), (.int 0)]) (.int 0) ∧ Exa Z h r "[B") := by
  refine own_met (by decide +kernel) #[.val (.ref b), .val (.int 10), .unset] (fun m => by first | (simp [entryFrame, mkF, argsToLocals, Value.category]; done) | rfl) ?_
  intro p e s m below meth c T0 C S0
  refine own_seg C S0 [(0, .iload_n 1, 1), (1, .aload_n 0, 1)] (by decide +kernel) 2 #[.val (.ref b), .val (.int 10), .unset] [(.ref b), (.int 10)] rfl ?_
  refine own_alen C S0 bK (by decide +kernel) ?_
  refine own_icmp C S0 (q := .ne) (o := 11) (by decide +kernel) 14 (by decide) (by decide) (fun (q1199 : ¬ (10 : Int32) = (4 : Int32)) => ?_) (fun (hq : (10 : Int32) = (4 : Int32)) => False.elim (absurd hq (by decide)))
  refine own_seg C S0 [(14, .iload_n 1, 1)] (by decide +kernel) 15 #[.val (.ref b), .val (.int 10), .unset] [(.int 10)] rfl ?_
  refine own_newPE C S0 (aty := .byte) (ad := "[B") (by decide) (own_wd hw 16 rfl) (by decide +kernel) (by decide) 10 (by decide) (by decide) (by decide) (by decide) ?_
  intro T1200 h1202 a1203 k1204 S1201 g1205 E1206 f1207 x1208
  have f1209 : Arv Z h1202 a1203 k1204 .byte (10 : Int32) ([(.int 0), (.int 0), (.int 0), (.int 0), (.int 0), (.int 0), (.int 0), (.int 0), (.int 0), (.int 0)]) (.int 0) := Arv.pad f1207 (pad_rep [] (.int 0) 10)
  refine own_seg C S1201 [(17, .astore_n 2, 1), (18, .aload_n 0, 1), (19, .iconst 0, 1), (20, .aload_n 2, 1), (21, .iconst 0, 1), (22, .aload_n 0, 1)] (by decide +kernel) 23 #[.val (.ref b), .val (.int 10), .val (.ref a1203)] [(.ref b), (.int 0), (.ref a1203), (.int 0), (.ref b)] rfl ?_
  have f1210 := (bK.ext E1206)
  refine own_alen C S1201 f1210 (by decide +kernel) ?_
  refine own_seg C S1201 [(24, .iload_n 1, 1)] (by decide +kernel) 25 #[.val (.ref b), .val (.int 10), .val (.ref a1203)] [(.int 10), (.int 4), (.int 0), (.ref a1203), (.int 0), (.ref b)] rfl ?_
  have f1211 : n0 ≤ h1202.size := (Nat.le_trans z0 E1206.1)
  refine own_callS C S1201 (own_wd hw 185 rfl) (own_wd hw 124 rfl) (own_wd hw 121 rfl) (own_wd hw 125 rfl) (by decide) (own_Met.pay (own_min l Z a0 hw (4 : Int32) (10 : Int32) h1202 n0 f1211) C 4 (own_wd hw 125 rfl) (own_wd hw 121 rfl) (by decide) (by decide)) (fun _ _ _ q => q.2) [(.int 4), (.int 10)] [(.int 0), (.ref a1203), (.int 0), (.ref b)] rfl own_pd2 rfl rfl rfl (Nat.le_of_ble_eq_true rfl) (by decide) (by decide) (by decide +kernel) ?_
  rintro T1213 h1214 v1215 L1216 S1217 ⟨⟨rfl, e1212⟩, -⟩
  rw [e1212] at S1217; clear e1212
  show own_Go p e below _ T1213 (mkF m 28 #[.val (.ref b), .val (.int 10), .val (.ref a1203)] [(.int (if (10 : Int32) < (4 : Int32) then (10 : Int32) else (4 : Int32))), (.int 0), (.ref a1203), (.int 0), (.ref b)])
  show own_Go p e below _ T1213 (mkF m 28 #[.val (.ref b), .val (.int 10), .val (.ref a1203)] [(.int 4), (.int 0), (.ref a1203), (.int 0), (.ref b)])
  have g1218 : n0 ≤ a1203 := by rw [g1205]; exact z0
  refine own_copy C S1217 (own_wd hw 186 rfl) (own_wd hw 189 rfl) (own_wd hw 187 rfl) (own_wd hw 188 rfl) f1210 f1209 rfl (by decide) (by decide) (by decide) (by decide) (by decide) (by decide) g1218 ([(.int b0), (.int b1), (.int b2), (.int b3), (.int 0), (.int 0), (.int 0), (.int 0), (.int 0), (.int 0)]) rfl rfl (by decide +kernel) (by decide) 0 (Nat.le_of_ble_eq_true rfl) (by decide) ?_
  intro T1219 h1221 S1220 K1222 f1223
  refine own_seg C S1220 [(31, .aload_n 2, 1)] (by decide +kernel) 32 #[.val (.ref b), .val (.int 10), .val (.ref a1203)] [(.ref a1203)] rfl ?_
  refine own_retA C S1220 rfl rfl (by decide +kernel) (by decide) (by decide) ?_
  have o1224 : h0.size ≤ a1203 := by rw [g1205]; exact (Nat.le_refl _)
  have f1225 := (x1208.keep K1222)
  exact ⟨a1203, k1204, rfl, o1224, (((Keep.refl _ _).ext E1206).trans K1222 (allS (Or.inr o1224) all0)), f1223, f1225⟩
theorem own_ens4 (l : Launch) (Z : State) (a0 : Array Value) (hw : ∀ d ∈ tables_1, d.before a0 Z = true) (a : Addr) (b : Addr) (bk : ClassId) (b0 : Int32) (b1 : Int32) (b2 : Int32) (b3 : Int32) (h0 : Heap) (n0 : Nat) (z0 : n0 ≤ h0.size) (ge_a : n0 ≤ a) (aE : Exa Z h0 a "java/lang/StringBuilder") (aV : Fld Z h0 a "java/lang/AbstractStringBuilder" "value" "[B" (.ref b)) (aC : Fld Z h0 a "java/lang/AbstractStringBuilder" "coder" "B" (.int 0)) (aN : Fld Z h0 a "java/lang/AbstractStringBuilder" "count" "I" (.int 4)) (bK : Arv Z h0 b bk .byte (4 : Int32) ([(.int b0), (.int b1), (.int b2), (.int b3)]) (.int 0)) (ne_b_a : b ≠ a) :
    own_Met l Z (⟨"java/lang/AbstractStringBuilder", "ensureCapacityInternal", "(I)V"⟩ : MethodName) jdk_68_method_9_code 3 none ({ frames := 3, cells := 1, slots := 10, locals := 48 } : Room) n0 #[(.ref a), (.int 5)] h0 (fun v h => ∃ r : Addr, ∃ rk : ClassId, v = none ∧ h0.size ≤ r ∧ Keep h0 h [a] ∧ Exa Z h a "java/lang/StringBuilder" ∧ Fld Z h a "java/lang/AbstractStringBuilder" "value" "[B" (.ref r) ∧ Fld Z h a "java/lang/AbstractStringBuilder" "coder" "B" (.int 0) ∧ Fld Z h a "java/lang/AbstractStringBuilder" "count" "I" (.int 4) ∧ Arv Z h r rk .byte (10 : Int32) ([(.int b0), (.int b1), (.int b2), (.int b3), (.int 0), (.int 0), (.int 0), (.int 0), (.int 0), (.int 0)]) (.int 0) ∧ Exa Z h r "[B") := by
  refine own_met (by decide +kernel) #[.val (.ref a), .val (.int 5), .unset] (fun m => by first | (simp [entryFrame, mkF, argsToLocals, Value.category]; done) | rfl) ?_
  intro p e s m below meth c T0 C S0
  refine own_seg C S0 [(0, .aload_n 0, 1)] (by decide +kernel) 1 #[.val (.ref a), .val (.int 5), .unset] [(.ref a)] rfl ?_
  refine own_getF C S0 (host := "") (Or.inl (own_wd hw 56 rfl)) Via.refl aV (by decide +kernel) ?_
  intro T1226 S1227
  refine own_alen C S1227 bK (by decide +kernel) ?_
  refine own_seg C S1227 [(5, .aload_n 0, 1)] (by decide +kernel) 6 #[.val (.ref a), .val (.int 5), .unset] [(.ref a), (.int 4)] rfl ?_
  refine own_getF C S1227 (host := "") (Or.inl (own_wd hw 58 rfl)) Via.refl aC (by decide +kernel) ?_
  intro T1228 S1229
  refine own_seg C S1229 [(9, .ishr, 1), (10, .istore_n 2, 1), (11, .iload_n 1, 1), (12, .iload_n 2, 1), (13, .isub, 1)] (by decide +kernel) 14 #[.val (.ref a), .val (.int 5), .val (.int ((4 : Int32) >>> ((0 : Int32) &&& 31)))] [(.int ((5 : Int32) - ((4 : Int32) >>> ((0 : Int32) &&& 31))))] rfl ?_
  refine own_if C S1229 (q := .le) (o := 24) (by decide +kernel) 38 (by decide) (by decide) (fun (hq : ¬ (0 : Int32) < ((5 : Int32) - ((4 : Int32) >>> ((0 : Int32) &&& 31)))) => False.elim (hq (by decide))) (fun (q1230 : (0 : Int32) < ((5 : Int32) - ((4 : Int32) >>> ((0 : Int32) &&& 31)))) => ?_)
  refine own_seg C S1229 [(17, .aload_n 0, 1), (18, .aload_n 0, 1)] (by decide +kernel) 19 #[.val (.ref a), .val (.int 5), .val (.int ((4 : Int32) >>> ((0 : Int32) &&& 31)))] [(.ref a), (.ref a)] rfl ?_
  refine own_getF C S1229 (host := "") (Or.inl (own_wd hw 56 rfl)) Via.refl aV (by decide +kernel) ?_
  intro T1231 S1232
  refine own_seg C S1232 [(22, .aload_n 0, 1), (23, .iload_n 1, 1)] (by decide +kernel) 24 #[.val (.ref a), .val (.int 5), .val (.int ((4 : Int32) >>> ((0 : Int32) &&& 31)))] [(.int 5), (.ref a), (.ref b), (.ref a)] rfl ?_
  refine own_callP C S1232 (own_wd hw 169 rfl) (own_wd hw 170 rfl) (own_selfP (own_wd hw 170 rfl) (own_wd hw 171 rfl) (own_wd hw 172 rfl) (by decide)) (own_wd hw 171 rfl) (own_wd hw 173 rfl) (by decide) (own_Met.pay (own_nc4 l Z a0 hw a b bk ([(.int b0), (.int b1), (.int b2), (.int b3)]) h0 n0 z0 aV aC bK) C 2 (own_wd hw 173 rfl) (own_wd hw 52 rfl) (by decide) (by decide)) (fun _ _ _ q => q.2) aE [(.int 5)] [(.ref b), (.ref a)] rfl own_pd16 rfl rfl rfl (Nat.le_of_ble_eq_true rfl) (by decide) (by decide) (by decide +kernel) ?_
  rintro T1234 h1235 v1236 L1237 S1238 ⟨⟨rfl, e1233⟩, -⟩
  rw [e1233] at S1238; clear e1233
  show own_Go p e below _ T1234 (mkF m 27 #[.val (.ref a), .val (.int 5), .val (.int ((4 : Int32) >>> ((0 : Int32) &&& 31)))] [(.int 10), (.ref b), (.ref a)])
  refine own_seg C S1238 [(27, .aload_n 0, 1)] (by decide +kernel) 28 #[.val (.ref a), .val (.int 5), .val (.int ((4 : Int32) >>> ((0 : Int32) &&& 31)))] [(.ref a), (.int 10), (.ref b), (.ref a)] rfl ?_
  refine own_getF C S1238 (host := "") (Or.inl (own_wd hw 58 rfl)) Via.refl aC (by decide +kernel) ?_
  intro T1239 S1240
  refine own_seg C S1240 [(31, .ishl, 1)] (by decide +kernel) 32 #[.val (.ref a), .val (.int 5), .val (.int ((4 : Int32) >>> ((0 : Int32) &&& 31)))] [(.int ((10 : Int32) <<< ((0 : Int32) &&& 31))), (.ref b), (.ref a)] rfl ?_
  show own_Go p e below _ T1239 (mkF m 32 #[.val (.ref a), .val (.int 5), .val (.int ((4 : Int32) >>> ((0 : Int32) &&& 31)))] [(.int 10), (.ref b), (.ref a)])
  refine own_callS C S1240 (own_wd hw 181 rfl) (own_wd hw 182 rfl) (own_wd hw 183 rfl) (own_wd hw 184 rfl) (by decide) (own_Met.pay (own_co_4 l Z a0 hw b _ b0 b1 b2 b3 h0 n0 z0 bK) C 1 (own_wd hw 184 rfl) (own_wd hw 183 rfl) (by decide) (by decide)) (fun _ _ _ q => q.2) [(.ref b), (.int 10)] [(.ref a)] rfl own_pd14 rfl rfl rfl (Nat.le_of_ble_eq_true rfl) (by decide) (by decide) (by decide +kernel) ?_
  rintro T1247 h1248 v1249 L1250 S1251 ⟨⟨a1241, k1242, rfl, g1243, K1244, f1245, f1246⟩, -⟩
  show own_Go p e below _ T1247 (mkF m 35 #[.val (.ref a), .val (.int 5), .val (.int ((4 : Int32) >>> ((0 : Int32) &&& 31)))] [(.ref a1241), (.ref a)])
  have f1252 := (aV.keep K1244 nin0)
  have f1253 := (aE.keep K1244)
  refine own_putF C S1251 (ty := (.array .byte)) (host := "") (Or.inl (own_wd hw 56 rfl)) Via.refl f1252 f1253 (Or.inl (own_wd hw 57 rfl)) (own_wd hw 33 rfl) own_fd0 rfl rfl ge_a (by decide +kernel) ?_
  intro T1254 h1256 S1255 W1257
  have f1258 : Fld Z h1256 a "java/lang/AbstractStringBuilder" "value" "[B" (.ref a1241) := Fld.same W1257 f1252
  refine own_retV C S1255 (by decide +kernel) (by decide) (by decide) ?_
  have o1259 : h0.size ≤ a1241 := Nat.le_trans (Nat.le_refl _) g1243
  have f1260 := (Exa.wr W1257 f1253)
  have f1261 := (Fld.other W1257 (aC.keep K1244 nin0) (Or.inr (own_sn2 hw)))
  have f1262 := (Fld.other W1257 (aN.keep K1244 nin0) (Or.inr (own_sn4 hw)))
  have n1263 : a ≠ a1241 := Nat.ne_of_lt (Nat.lt_of_lt_of_le aE.lt g1243)
  have f1264 := (f1245.other W1257 (Ne.symm n1263))
  have f1265 := (Exa.wr W1257 f1246)
  exact ⟨a1241, k1242, rfl, o1259, (((Keep.refl _ _).trans K1244 all0).wr W1257 (Or.inl (List.mem_of_getElem? (i := 0) rfl))), f1260, f1258, f1261, f1262, f1264, f1265⟩
theorem own_asbG4 (l : Launch) (Z : State) (a0 : Array Value) (hw : ∀ d ∈ tables_1, d.before a0 Z = true) (G1 : Int32) (G3 : Value) (a : Addr) (b : Addr) (bk : ClassId) (b0 : Int32) (b1 : Int32) (b2 : Int32) (b3 : Int32) (k : Int32) (h0 : Heap) (n0 : Nat) (z0 : n0 ≤ h0.size) (ge_a : n0 ≤ a) (X00 : Old Z n0 h0) (aE : Exa Z h0 a "java/lang/StringBuilder") (aV : Fld Z h0 a "java/lang/AbstractStringBuilder" "value" "[B" (.ref b)) (aC : Fld Z h0 a "java/lang/AbstractStringBuilder" "coder" "B" (.int 0)) (aN : Fld Z h0 a "java/lang/AbstractStringBuilder" "count" "I" (.int 4)) (bK : Arv Z h0 b bk .byte (4 : Int32) ([(.int b0), (.int b1), (.int b2), (.int b3)]) (.int 0)) (ne_b_a : b ≠ a) (O2 : Sta Z Z.heap "java/lang/String" "COMPACT_STRINGS" "Z" (.int G1)) (O4 : Sta Z Z.heap "jdk/internal/util/Preconditions" "SIOOBE_FORMATTER" "Ljava/util/function/BiFunction;" G3) (P5 : ¬ G1 = (0 : Int32)) (rG3 : G3.isRef = true) (k0 : ¬ (255 : Int32) < k) :
    own_Met l Z (⟨"java/lang/AbstractStringBuilder", "append", "(C)Ljava/lang/AbstractStringBuilder;"⟩ : MethodName) jdk_68_method_31_code 2 (some (.object "java/lang/AbstractStringBuilder")) ({ frames := 4, cells := 1, slots := 10, locals := 62 } : Room) n0 #[(.ref a), (.int k)] h0 (fun v h => ∃ r : Addr, ∃ rk : ClassId, v = some (.ref a) ∧ h0.size ≤ r ∧ Keep h0 h [a] ∧ Exa Z h a "java/lang/StringBuilder" ∧ Fld Z h a "java/lang/AbstractStringBuilder" "value" "[B" (.ref r) ∧ Fld Z h a "java/lang/AbstractStringBuilder" "coder" "B" (.int 0) ∧ Fld Z h a "java/lang/AbstractStringBuilder" "count" "I" (.int 5) ∧ Arv Z h r rk .byte (10 : Int32) ([(.int b0), (.int b1), (.int b2), (.int b3), (.int k.toInt8.toInt32), (.int 0), (.int 0), (.int 0), (.int 0), (.int 0)]) (.int 0) ∧ Exa Z h r "[B") := by
  refine own_met (by decide +kernel) #[.val (.ref a), .val (.int k)] (fun m => by first | (simp [entryFrame, mkF, argsToLocals, Value.category]; done) | rfl) ?_
  intro p e s m below meth c T0 C S0
  refine own_seg C S0 [(0, .aload_n 0, 1), (1, .aload_n 0, 1)] (by decide +kernel) 2 #[.val (.ref a), .val (.int k)] [(.ref a), (.ref a)] rfl ?_
  refine own_getF C S0 (host := "") (Or.inl (own_wd hw 139 rfl)) Via.refl aN (by decide +kernel) ?_
  intro T1266 S1267
  refine own_seg C S1267 [(5, .iconst 1, 1), (6, .iadd, 1)] (by decide +kernel) 7 #[.val (.ref a), .val (.int k)] [(.int ((4 : Int32) + (1 : Int32))), (.ref a)] rfl ?_
  show own_Go p e below _ T1266 (mkF m 7 #[.val (.ref a), .val (.int k)] [(.int 5), (.ref a)])
  refine own_callP C S1267 (own_wd hw 141 rfl) (own_wd hw 142 rfl) (own_selfP (own_wd hw 142 rfl) (own_wd hw 143 rfl) (own_wd hw 144 rfl) (by decide)) (own_wd hw 143 rfl) (own_wd hw 145 rfl) (by decide) (own_Met.pay (own_ens4 l Z a0 hw a _ _ b0 b1 b2 b3 h0 n0 z0 ge_a aE aV aC aN bK ne_b_a) C 0 (own_wd hw 145 rfl) (own_wd hw 52 rfl) (by decide) (by decide)) (fun _ _ _ q => q.2) aE [(.int 5)] [] rfl own_pd22 rfl rfl rfl (Nat.le_of_ble_eq_true rfl) (by decide) (by decide) (by decide +kernel) ?_
  rintro T1278 h1279 v1280 L1281 S1282 ⟨⟨a1268, k1269, rfl, g1270, K1271, f1272, f1273, f1274, f1275, f1276, f1277⟩, -⟩
  show own_Go p e below _ T1278 (mkF m 10 #[.val (.ref a), .val (.int k)] [])
  refine own_seg C S1282 [(10, .aload_n 0, 1)] (by decide +kernel) 11 #[.val (.ref a), .val (.int k)] [(.ref a)] rfl ?_
  have f1283 := (X00.keep K1271 (allS ge_a all0))
  have f1284 : n0 ≤ h1279.size := (Nat.le_trans z0 K1271.1)
  refine own_callV C S1282 (own_wd hw 146 rfl) (own_wd hw 147 rfl) (own_wd hw 149 rfl) (own_wd hw 149 rfl) rfl (own_wd hw 148 rfl) (by decide) (own_Met.pay (own_asbisL l Z a0 hw G1 G3 a h1279 n0 f1284 f1283 f1274 O2 O4 P5 rG3) C 0 (own_wd hw 150 rfl) (own_wd hw 52 rfl) (by decide) (by decide)) (fun _ _ _ q => q.2) f1272 [] [] rfl own_pd4 rfl rfl rfl (Nat.le_of_ble_eq_true rfl) (by decide) (by decide) (by decide +kernel) ?_
  rintro T1286 h1287 v1288 L1289 S1290 ⟨⟨rfl, e1285⟩, -⟩
  rw [e1285] at S1290; clear e1285
  show own_Go p e below _ T1286 (mkF m 14 #[.val (.ref a), .val (.int k)] [(.int 1)])
  refine own_if C S1290 (q := .eq) (o := 31) (by decide +kernel) 45 (by decide) (by decide) (fun (hq : (1 : Int32) = (0 : Int32)) => False.elim (absurd hq (by decide))) (fun (q1291 : ¬ (1 : Int32) = (0 : Int32)) => ?_)
  refine own_seg C S1290 [(17, .iload_n 1, 1)] (by decide +kernel) 18 #[.val (.ref a), .val (.int k)] [(.int k)] rfl ?_
  refine own_callS C S1290 (own_wd hw 151 rfl) (own_wd hw 8 rfl) (own_wd hw 9 rfl) (own_wd hw 10 rfl) (by decide) (own_Met.pay (own_cec l Z a0 hw k h1279 n0 f1284 k0) C 0 (own_wd hw 10 rfl) (own_wd hw 9 rfl) (by decide) (by decide)) (fun _ _ _ q => q.2) [(.int k)] [] rfl own_pd11 rfl rfl rfl (Nat.le_of_ble_eq_true rfl) (by decide) (by decide) (by decide +kernel) ?_
  rintro T1293 h1294 v1295 L1296 S1297 ⟨⟨rfl, e1292⟩, -⟩
  rw [e1292] at S1297; clear e1292
  show own_Go p e below _ T1293 (mkF m 21 #[.val (.ref a), .val (.int k)] [(.int 1)])
  refine own_if C S1297 (q := .eq) (o := 24) (by decide +kernel) 45 (by decide) (by decide) (fun (hq : (1 : Int32) = (0 : Int32)) => False.elim (absurd hq (by decide))) (fun (q1298 : ¬ (1 : Int32) = (0 : Int32)) => ?_)
  refine own_seg C S1297 [(24, .aload_n 0, 1)] (by decide +kernel) 25 #[.val (.ref a), .val (.int k)] [(.ref a)] rfl ?_
  refine own_getF C S1297 (host := "") (Or.inl (own_wd hw 56 rfl)) Via.refl f1273 (by decide +kernel) ?_
  intro T1299 S1300
  refine own_seg C S1300 [(28, .aload_n 0, 1), (29, .dup, 1)] (by decide +kernel) 30 #[.val (.ref a), .val (.int k)] [(.ref a), (.ref a), (.ref a1268)] rfl ?_
  refine own_getF C S1300 (host := "") (Or.inl (own_wd hw 139 rfl)) Via.refl f1275 (by decide +kernel) ?_
  intro T1301 S1302
  refine own_seg C S1302 [(33, .dup_x1, 1), (34, .iconst 1, 1), (35, .iadd, 1)] (by decide +kernel) 36 #[.val (.ref a), .val (.int k)] [(.int ((4 : Int32) + (1 : Int32))), (.ref a), (.int 4), (.ref a1268)] rfl ?_
  refine own_putF C S1302 (ty := .int) (host := "") (Or.inl (own_wd hw 139 rfl)) Via.refl f1275 f1272 (Or.inl (own_wd hw 140 rfl)) (own_wd hw 33 rfl) own_fd2 rfl rfl ge_a (by decide +kernel) ?_
  intro T1303 h1305 S1304 W1306
  have f1307 : Fld Z h1305 a "java/lang/AbstractStringBuilder" "count" "I" (.int ((4 : Int32) + (1 : Int32))) := Fld.same W1306 f1275
  refine own_seg C S1304 [(39, .iload_n 1, 1), (40, .i2b, 1)] (by decide +kernel) 41 #[.val (.ref a), .val (.int k)] [(.int k.toInt8.toInt32), (.int 4), (.ref a1268)] rfl ?_
  have n1308 : a ≠ a1268 := Nat.ne_of_lt (Nat.lt_of_lt_of_le aV.lt g1270)
  have f1309 := (f1276.other W1306 (Ne.symm n1308))
  have g1310 : n0 ≤ a1268 := Nat.le_trans z0 g1270
  refine own_bastore C S1304 f1309 ⟨(by decide), (by decide)⟩ 4 rfl (Nat.le_of_ble_eq_true rfl) k.toInt8.toInt32 (own_i2b2 _) g1310 (by decide +kernel) ?_
  intro T1311 h1313 S1312 W1314 f1315
  have f1316 : Arv Z h1313 a1268 k1269 .byte (10 : Int32) ([(.int b0), (.int b1), (.int b2), (.int b3), (.int k.toInt8.toInt32), (.int 0), (.int 0), (.int 0), (.int 0), (.int 0)]) (.int 0) := f1315
  refine own_seg C S1312 [(42, .goto 33, 3), (75, .aload_n 0, 1)] (by decide +kernel) 76 #[.val (.ref a), .val (.int k)] [(.ref a)] rfl ?_
  refine own_retA C S1312 rfl rfl (by decide +kernel) (by decide) (by decide) ?_
  have o1317 : h0.size ≤ a1268 := Nat.le_trans (Nat.le_refl _) g1270
  have f1318 := (Exa.wr W1314 (Exa.wr W1306 f1272))
  have f1319 := (Fld.other W1314 (Fld.other W1306 f1273 (Or.inr (own_sn6 hw))) (Or.inl n1308))
  have f1320 := (Fld.other W1314 (Fld.other W1306 f1274 (Or.inr (own_sn7 hw))) (Or.inl n1308))
  have f1321 := (Fld.other W1314 f1307 (Or.inl n1308))
  have f1322 := (Exa.wr W1314 (Exa.wr W1306 f1277))
  exact ⟨a1268, k1269, rfl, o1317, ((((Keep.refl _ _).trans K1271 (allS (Or.inl (List.mem_of_getElem? (i := 0) rfl)) all0)).wr W1306 (Or.inl (List.mem_of_getElem? (i := 0) rfl))).wr W1314 (Or.inr o1317)), f1318, f1319, f1320, f1321, f1316, f1322⟩
theorem own_sbG4 (l : Launch) (Z : State) (a0 : Array Value) (hw : ∀ d ∈ tables_1, d.before a0 Z = true) (G1 : Int32) (G3 : Value) (a : Addr) (b : Addr) (bk : ClassId) (b0 : Int32) (b1 : Int32) (b2 : Int32) (b3 : Int32) (k : Int32) (h0 : Heap) (n0 : Nat) (z0 : n0 ≤ h0.size) (ge_a : n0 ≤ a) (X00 : Old Z n0 h0) (aE : Exa Z h0 a "java/lang/StringBuilder") (aV : Fld Z h0 a "java/lang/AbstractStringBuilder" "value" "[B" (.ref b)) (aC : Fld Z h0 a "java/lang/AbstractStringBuilder" "coder" "B" (.int 0)) (aN : Fld Z h0 a "java/lang/AbstractStringBuilder" "count" "I" (.int 4)) (bK : Arv Z h0 b bk .byte (4 : Int32) ([(.int b0), (.int b1), (.int b2), (.int b3)]) (.int 0)) (ne_b_a : b ≠ a) (O2 : Sta Z Z.heap "java/lang/String" "COMPACT_STRINGS" "Z" (.int G1)) (O4 : Sta Z Z.heap "jdk/internal/util/Preconditions" "SIOOBE_FORMATTER" "Ljava/util/function/BiFunction;" G3) (P5 : ¬ G1 = (0 : Int32)) (rG3 : G3.isRef = true) (k0 : ¬ (255 : Int32) < k) :
    own_Met l Z (⟨"java/lang/StringBuilder", "append", "(C)Ljava/lang/StringBuilder;"⟩ : MethodName) jdk_67_method_14_code 2 (some (.object "java/lang/StringBuilder")) ({ frames := 5, cells := 1, slots := 10, locals := 75 } : Room) n0 #[(.ref a), (.int k)] h0 (fun v h => ∃ r : Addr, ∃ rk : ClassId, v = some (.ref a) ∧ h0.size ≤ r ∧ Keep h0 h [a] ∧ Exa Z h a "java/lang/StringBuilder" ∧ Fld Z h a "java/lang/AbstractStringBuilder" "value" "[B" (.ref r) ∧ Fld Z h a "java/lang/AbstractStringBuilder" "coder" "B" (.int 0) ∧ Fld Z h a "java/lang/AbstractStringBuilder" "count" "I" (.int 5) ∧ Arv Z h r rk .byte (10 : Int32) ([(.int b0), (.int b1), (.int b2), (.int b3), (.int k.toInt8.toInt32), (.int 0), (.int 0), (.int 0), (.int 0), (.int 0)]) (.int 0) ∧ Exa Z h r "[B") := by
  refine own_met (by decide +kernel) #[.val (.ref a), .val (.int k)] (fun m => by first | (simp [entryFrame, mkF, argsToLocals, Value.category]; done) | rfl) ?_
  intro p e s m below meth c T0 C S0
  refine own_seg C S0 [(0, .aload_n 0, 1), (1, .iload_n 1, 1)] (by decide +kernel) 2 #[.val (.ref a), .val (.int k)] [(.int k), (.ref a)] rfl ?_
  refine own_callX C S0 (own_wd hw 134 rfl) (own_same (own_wd hw 135 rfl) (own_wd hw 144 rfl) rfl (by decide)) (own_wd hw 135 rfl) (own_wd hw 136 rfl) (by decide) (own_wd hw 138 rfl) (own_Met.pay (own_asbG4 l Z a0 hw G1 G3 a _ _ b0 b1 b2 b3 k h0 n0 z0 ge_a X00 aE aV aC aN bK ne_b_a O2 O4 P5 rG3 k0) C 0 (own_wd hw 138 rfl) (own_wd hw 52 rfl) (by decide) (by decide)) (fun _ _ _ q => q.2) (Ins.self aE) [(.int k)] [] rfl own_pd23 rfl rfl rfl (Nat.le_of_ble_eq_true rfl) (by decide) (by decide) (by decide +kernel) ?_
  rintro T1333 h1334 v1335 L1336 S1337 ⟨⟨a1323, k1324, rfl, g1325, K1326, f1327, f1328, f1329, f1330, f1331, f1332⟩, -⟩
  show own_Go p e below _ T1333 (mkF m 5 #[.val (.ref a), .val (.int k)] [(.ref a)])
  refine own_seg C S1337 [(5, .pop, 1), (6, .aload_n 0, 1)] (by decide +kernel) 7 #[.val (.ref a), .val (.int k)] [(.ref a)] rfl ?_
  refine own_retA C S1337 rfl rfl (by decide +kernel) (by decide) (by decide) ?_
  have o1338 : h0.size ≤ a1323 := Nat.le_trans (Nat.le_refl _) g1325
  exact ⟨a1323, k1324, rfl, o1338, ((Keep.refl _ _).trans K1326 (allS (Or.inl (List.mem_of_getElem? (i := 0) rfl)) all0)), f1327, f1328, f1329, f1330, f1331, f1332⟩
theorem own_ckl (l : Launch) (Z : State) (a0 : Array Value) (hw : ∀ d ∈ tables_1, d.before a0 Z = true) (x1 : Int32) (x2 : Int32) (h0 : Heap) (n0 : Nat) (z0 : n0 ≤ h0.size) (hge : ¬ x2 < x1) :
    own_Met l Z (⟨"java/util/Arrays", "checkLength", "(II)V"⟩ : MethodName) jdk_65_method_131_code 2 none ({ frames := 0, cells := 0, slots := 0, locals := 0 } : Room) n0 #[(.int x1), (.int x2)] h0 (fun v h => v = none ∧ h = h0) := by
  refine own_met (by decide +kernel) #[.val (.int x1), .val (.int x2)] (fun m => by first | (simp [entryFrame, mkF, argsToLocals, Value.category]; done) | rfl) ?_
  intro p e s m below meth c T0 C S0
  refine own_seg C S0 [(0, .iload_n 1, 1), (1, .iload_n 0, 1)] (by decide +kernel) 2 #[.val (.int x1), .val (.int x2)] [(.int x1), (.int x2)] rfl ?_
  refine own_icmp C S0 (q := .ge) (o := 35) (by decide +kernel) 37 (by decide) (by decide) (fun (q1339 : ¬ x2 < x1) => ?_) (fun (hq : x2 < x1) => False.elim (hge hq))
  refine own_retV C S0 (by decide +kernel) (by decide) (by decide) ?_
  exact ⟨rfl, rfl⟩
theorem own_corb (l : Launch) (Z : State) (a0 : Array Value) (hw : ∀ d ∈ tables_1, d.before a0 Z = true) (b : Addr) (bk : ClassId) (bN : Int32) (bvs : List Value) (n : Int32) (us : List Value) (h0 : Heap) (n0 : Nat) (z0 : n0 ≤ h0.size) (bK : Arv Z h0 b bk .byte bN bvs (.int 0)) (t0 : ¬ n < (0 : Int32)) (t1 : ¬ bN < n) (t2 : ¬ n = bN) (t3 : n.toNatClampNeg ≤ 64) (t4 : ((List.range n.toNatClampNeg).map fun i => bvs.getD ((0 : Int32).toNatClampNeg + i) (.int 0)) = us) :
    own_Met l Z (⟨"java/util/Arrays", "copyOfRangeByte", "([BII)[B"⟩ : MethodName) jdk_65_method_133_code 5 (some (.array .byte)) ({ frames := 1, cells := 1, slots := 64, locals := 18 } : Room) n0 #[(.ref b), (.int 0), (.int n)] h0 (fun v h => ∃ r : Addr, ∃ rk : ClassId, v = some (.ref r) ∧ h0.size ≤ r ∧ Keep h0 h [] ∧ Arv Z h r rk .byte n us (.int 0)) := by
  refine own_met (by decide +kernel) #[.val (.ref b), .val (.int 0), .val (.int n), .unset, .unset] (fun m => by first | (simp [entryFrame, mkF, argsToLocals, Value.category]; done) | rfl) ?_
  intro p e s m below meth c T0 C S0
  refine own_seg C S0 [(0, .iload_n 1, 1), (1, .iload_n 2, 1)] (by decide +kernel) 2 #[.val (.ref b), .val (.int 0), .val (.int n), .unset, .unset] [(.int n), (.int 0)] rfl ?_
  refine own_callS C S0 (own_wd hw 222 rfl) (own_wd hw 223 rfl) (own_wd hw 183 rfl) (own_wd hw 224 rfl) (by decide) (own_Met.pay (own_ckl l Z a0 hw (0 : Int32) n h0 n0 z0 t0) C 0 (own_wd hw 224 rfl) (own_wd hw 183 rfl) (by decide) (by decide)) (fun _ _ _ q => q.2) [(.int 0), (.int n)] [] rfl own_pd8 rfl rfl rfl (Nat.le_of_ble_eq_true rfl) (by decide) (by decide) (by decide +kernel) ?_
  rintro T1341 h1342 v1343 L1344 S1345 ⟨⟨rfl, e1340⟩, -⟩
  rw [e1340] at S1345; clear e1340
  show own_Go p e below _ T1341 (mkF m 5 #[.val (.ref b), .val (.int 0), .val (.int n), .unset, .unset] [])
  refine own_seg C S1345 [(5, .iload_n 2, 1), (6, .iload_n 1, 1), (7, .isub, 1), (8, .istore_n 3, 1), (9, .iload_n 3, 1)] (by decide +kernel) 10 #[.val (.ref b), .val (.int 0), .val (.int n), .val (.int (n - (0 : Int32))), .unset] [(.int (n - (0 : Int32)))] rfl ?_
  rw [show (n - (0 : Int32)) = n from Int32.sub_zero n]
  refine own_newPE C S1345 (aty := .byte) (ad := "[B") (by decide) (own_wd hw 16 rfl) (by decide +kernel) t0 64 t3 (by decide) (by decide) (by decide) ?_
  intro T1346 h1348 a1349 k1350 S1347 g1351 E1352 f1353 x1354
  have f1355 : Arv Z h1348 a1349 k1350 .byte n (List.replicate n.toNatClampNeg (.int 0)) (.int 0) := Arv.pad f1353 (pad_rep [] (.int 0) n.toNatClampNeg)
  refine own_seg C S1347 [(12, .astore 4, 2), (14, .aload_n 0, 1), (15, .iload_n 1, 1), (16, .aload 4, 2), (18, .iconst 0, 1), (19, .aload_n 0, 1)] (by decide +kernel) 20 #[.val (.ref b), .val (.int 0), .val (.int n), .val (.int n), .val (.ref a1349)] [(.ref b), (.int 0), (.ref a1349), (.int 0), (.ref b)] rfl ?_
  have f1356 := (bK.ext E1352)
  refine own_alen C S1347 f1356 (by decide +kernel) ?_
  refine own_seg C S1347 [(21, .iload_n 1, 1), (22, .isub, 1), (23, .iload_n 3, 1)] (by decide +kernel) 24 #[.val (.ref b), .val (.int 0), .val (.int n), .val (.int n), .val (.ref a1349)] [(.int n), (.int (bN - (0 : Int32))), (.int 0), (.ref a1349), (.int 0), (.ref b)] rfl ?_
  have f1357 : n0 ≤ h1348.size := (Nat.le_trans z0 E1352.1)
  refine own_callS C S1347 (own_wd hw 185 rfl) (own_wd hw 124 rfl) (own_wd hw 121 rfl) (own_wd hw 125 rfl) (by decide) (own_Met.pay (own_min l Z a0 hw (bN - (0 : Int32)) n h1348 n0 f1357) C 4 (own_wd hw 125 rfl) (own_wd hw 121 rfl) (by decide) (by decide)) (fun _ _ _ q => q.2) [(.int (bN - (0 : Int32))), (.int n)] [(.int 0), (.ref a1349), (.int 0), (.ref b)] rfl own_pd2 rfl rfl rfl (Nat.le_of_ble_eq_true rfl) (by decide) (by decide) (by decide +kernel) ?_
  rintro T1359 h1360 v1361 L1362 S1363 ⟨⟨rfl, e1358⟩, -⟩
  rw [e1358] at S1363; clear e1358
  show own_Go p e below _ T1359 (mkF m 27 #[.val (.ref b), .val (.int 0), .val (.int n), .val (.int n), .val (.ref a1349)] [(.int (if n < (bN - (0 : Int32)) then n else (bN - (0 : Int32)))), (.int 0), (.ref a1349), (.int 0), (.ref b)])
  rw [show (bN - (0 : Int32)) = bN from Int32.sub_zero bN, own_min_g t1]
  show own_Go p e below _ T1359 (mkF m 27 #[.val (.ref b), .val (.int 0), .val (.int n), .val (.int n), .val (.ref a1349)] [(.int n), (.int 0), (.ref a1349), (.int 0), (.ref b)])
  have g1364 : n0 ≤ a1349 := by rw [g1351]; exact z0
  refine own_copy C S1363 (own_wd hw 186 rfl) (own_wd hw 189 rfl) (own_wd hw 187 rfl) (own_wd hw 188 rfl) f1356 f1355 rfl (by decide) (by decide) t0 (by rw [show (0 : Int32).toNatClampNeg = 0 from rfl]; exact own_nat_le t0 t1) (Nat.le_of_eq (Nat.zero_add _)) (by rw [List.length_replicate]; exact Nat.le_of_eq (Nat.zero_add _)) g1364 us (by rw [← t4]; exact own_take0 _ _ _) rfl (by decide +kernel) (by decide) 0 (Nat.le_of_ble_eq_true rfl) (by decide) ?_
  intro T1365 h1367 S1366 K1368 f1369
  refine own_seg C S1366 [(30, .aload 4, 2)] (by decide +kernel) 32 #[.val (.ref b), .val (.int 0), .val (.int n), .val (.int n), .val (.ref a1349)] [(.ref a1349)] rfl ?_
  refine own_retA C S1366 rfl rfl (by decide +kernel) (by decide) (by decide) ?_
  have o1370 : h0.size ≤ a1349 := by rw [g1351]; exact (Nat.le_refl _)
  exact ⟨a1349, k1350, rfl, o1370, (((Keep.refl _ _).ext E1352).trans K1368 (allS (Or.inr o1370) all0)), f1369⟩
theorem own_pd25 : parseMethodDescriptor "([BII)[B" = some ⟨[(.array .byte), .int, .int], (some (.array .byte))⟩ := by decide +kernel
theorem own_cor (l : Launch) (Z : State) (a0 : Array Value) (hw : ∀ d ∈ tables_1, d.before a0 Z = true) (b : Addr) (bk : ClassId) (bN : Int32) (bvs : List Value) (n : Int32) (us : List Value) (h0 : Heap) (n0 : Nat) (z0 : n0 ≤ h0.size) (bK : Arv Z h0 b bk .byte bN bvs (.int 0)) (t0 : ¬ n < (0 : Int32)) (t1 : ¬ bN < n) (t2 : ¬ n = bN) (t3 : n.toNatClampNeg ≤ 64) (t4 : ((List.range n.toNatClampNeg).map fun i => bvs.getD ((0 : Int32).toNatClampNeg + i) (.int 0)) = us) :
    own_Met l Z (⟨"java/util/Arrays", "copyOfRange", "([BII)[B"⟩ : MethodName) jdk_65_method_132_code 3 (some (.array .byte)) ({ frames := 2, cells := 1, slots := 64, locals := 34 } : Room) n0 #[(.ref b), (.int 0), (.int n)] h0 (fun v h => ∃ r : Addr, ∃ rk : ClassId, v = some (.ref r) ∧ h0.size ≤ r ∧ Keep h0 h [] ∧ Arv Z h r rk .byte n us (.int 0)) := by
  refine own_met (by decide +kernel) #[.val (.ref b), .val (.int 0), .val (.int n)] (fun m => by first | (simp [entryFrame, mkF, argsToLocals, Value.category]; done) | rfl) ?_
  intro p e s m below meth c T0 C S0
  refine own_seg C S0 [(0, .iload_n 1, 1)] (by decide +kernel) 1 #[.val (.ref b), .val (.int 0), .val (.int n)] [(.int 0)] rfl ?_
  refine own_if C S0 (q := .ne) (o := 9) (by decide +kernel) 10 (by decide) (by decide) (fun (hq : ¬ (0 : Int32) = (0 : Int32)) => False.elim (hq rfl)) (fun (q1371 : (0 : Int32) = (0 : Int32)) => ?_)
  refine own_seg C S0 [(4, .iload_n 2, 1), (5, .aload_n 0, 1)] (by decide +kernel) 6 #[.val (.ref b), .val (.int 0), .val (.int n)] [(.ref b), (.int n)] rfl ?_
  refine own_alen C S0 bK (by decide +kernel) ?_
  refine own_icmp C S0 (q := .eq) (o := 10) (by decide +kernel) 17 (by decide) (by decide) (fun (hq : n = bN) => False.elim (t2 hq)) (fun (q1372 : ¬ n = bN) => ?_)
  refine own_seg C S0 [(10, .aload_n 0, 1), (11, .iload_n 1, 1), (12, .iload_n 2, 1)] (by decide +kernel) 13 #[.val (.ref b), .val (.int 0), .val (.int n)] [(.int n), (.int 0), (.ref b)] rfl ?_
  refine own_callS C S0 (own_wd hw 219 rfl) (own_wd hw 220 rfl) (own_wd hw 183 rfl) (own_wd hw 221 rfl) (by decide) (own_Met.pay (own_corb l Z a0 hw b _ _ _ n us h0 n0 z0 bK t0 t1 t2 t3 t4) C 0 (own_wd hw 221 rfl) (own_wd hw 183 rfl) (by decide) (by decide)) (fun _ _ _ q => q.2) [(.ref b), (.int 0), (.int n)] [] rfl own_pd25 rfl rfl rfl (Nat.le_of_ble_eq_true rfl) (by decide) (by decide) (by decide +kernel) ?_
  rintro T1378 h1379 v1380 L1381 S1382 ⟨⟨a1373, k1374, rfl, g1375, K1376, f1377⟩, -⟩
  show own_Go p e below _ T1378 (mkF m 16 #[.val (.ref b), .val (.int 0), .val (.int n)] [(.ref a1373)])
  refine own_retA C S1382 rfl rfl (by decide +kernel) (by decide) (by decide) ?_
  have o1383 : h0.size ≤ a1373 := Nat.le_trans (Nat.le_refl _) g1375
  exact ⟨a1373, k1374, rfl, o1383, ((Keep.refl _ _).trans K1376 all0), f1377⟩
theorem own_gv (l : Launch) (Z : State) (a0 : Array Value) (hw : ∀ d ∈ tables_1, d.before a0 Z = true) (a : Addr) (y : Addr) (h0 : Heap) (n0 : Nat) (z0 : n0 ≤ h0.size) (pF : Fld Z h0 a "java/lang/AbstractStringBuilder" "value" "[B" (.ref y)) :
    own_Met l Z (⟨"java/lang/AbstractStringBuilder", "getValue", "()[B"⟩ : MethodName) jdk_68_method_64_code 1 (some (.array .byte)) ({ frames := 0, cells := 0, slots := 0, locals := 0 } : Room) n0 #[(.ref a)] h0 (fun v h => v = some (.ref y) ∧ h = h0) := by
  refine own_met (by decide +kernel) #[.val (.ref a)] (fun m => by first | (simp [entryFrame, mkF, argsToLocals, Value.category]; done) | rfl) ?_
  intro p e s m below meth c T0 C S0
  refine own_seg C S0 [(0, .aload_n 0, 1)] (by decide +kernel) 1 #[.val (.ref a)] [(.ref a)] rfl ?_
  refine own_getF C S0 (host := "") (Or.inl (own_wd hw 56 rfl)) Via.refl pF (by decide +kernel) ?_
  intro T1384 S1385
  refine own_retA C S1385 rfl rfl (by decide +kernel) (by decide) (by decide) ?_
  exact ⟨rfl, rfl⟩
theorem own_asbL (l : Launch) (Z : State) (a0 : Array Value) (hw : ∀ d ∈ tables_1, d.before a0 Z = true) (a : Addr) (y : Int32) (h0 : Heap) (n0 : Nat) (z0 : n0 ≤ h0.size) (pF : Fld Z h0 a "java/lang/AbstractStringBuilder" "count" "I" (.int y)) :
    own_Met l Z (⟨"java/lang/AbstractStringBuilder", "length", "()I"⟩ : MethodName) jdk_68_method_6_code 1 (some .int) ({ frames := 0, cells := 0, slots := 0, locals := 0 } : Room) n0 #[(.ref a)] h0 (fun v h => v = some (.int y) ∧ h = h0) := by
  refine own_met (by decide +kernel) #[.val (.ref a)] (fun m => by first | (simp [entryFrame, mkF, argsToLocals, Value.category]; done) | rfl) ?_
  intro p e s m below meth c T0 C S0
  refine own_seg C S0 [(0, .aload_n 0, 1)] (by decide +kernel) 1 #[.val (.ref a)] [(.ref a)] rfl ?_
  refine own_getF C S0 (host := "") (Or.inl (own_wd hw 139 rfl)) Via.refl pF (by decide +kernel) ?_
  intro T1386 S1387
  refine own_retI C S1387 (by decide +kernel) (by decide) (by decide) ?_
  exact ⟨rfl, rfl⟩
theorem own_sbL (l : Launch) (Z : State) (a0 : Array Value) (hw : ∀ d ∈ tables_1, d.before a0 Z = true) (a : Addr) (y : Int32) (h0 : Heap) (n0 : Nat) (z0 : n0 ≤ h0.size) (pF : Fld Z h0 a "java/lang/AbstractStringBuilder" "count" "I" (.int y)) (aE : Exa Z h0 a "java/lang/StringBuilder") :
    own_Met l Z (⟨"java/lang/StringBuilder", "length", "()I"⟩ : MethodName) jdk_67_method_93_code 1 (some .int) ({ frames := 1, cells := 0, slots := 0, locals := 12 } : Room) n0 #[(.ref a)] h0 (fun v h => v = some (.int y) ∧ h = h0) := by
  refine own_met (by decide +kernel) #[.val (.ref a)] (fun m => by first | (simp [entryFrame, mkF, argsToLocals, Value.category]; done) | rfl) ?_
  intro p e s m below meth c T0 C S0
  refine own_seg C S0 [(0, .aload_n 0, 1)] (by decide +kernel) 1 #[.val (.ref a)] [(.ref a)] rfl ?_
  refine own_callX C S0 (own_wd hw 213 rfl) (own_same (own_wd hw 209 rfl) (own_wd hw 144 rfl) rfl (by decide)) (own_wd hw 209 rfl) (own_wd hw 136 rfl) (by decide) (own_wd hw 214 rfl) (own_Met.pay (own_asbL l Z a0 hw a y h0 n0 z0 pF) C 0 (own_wd hw 214 rfl) (own_wd hw 52 rfl) (by decide) (by decide)) (fun _ _ _ q => q.2) (Ins.self aE) [] [] rfl own_pd5 rfl rfl rfl (Nat.le_of_ble_eq_true rfl) (by decide) (by decide) (by decide +kernel) ?_
  rintro T1389 h1390 v1391 L1392 S1393 ⟨⟨rfl, e1388⟩, -⟩
  rw [e1388] at S1393; clear e1388
  show own_Go p e below _ T1389 (mkF m 4 #[.val (.ref a)] [(.int y)])
  refine own_retI C S1393 (by decide +kernel) (by decide) (by decide) ?_
  exact ⟨rfl, rfl⟩
theorem own_pd26 : parseMethodDescriptor "()[B" = some ⟨[], (some (.array .byte))⟩ := by decide +kernel
theorem own_sib (l : Launch) (Z : State) (a0 : Array Value) (hw : ∀ d ∈ tables_1, d.before a0 Z = true) (G1 : Int32) (G3 : Value) (x : Addr) (a : Addr) (b : Addr) (bk : ClassId) (bN : Int32) (bvs : List Value) (cnt : Int32) (us : List Value) (h0 : Heap) (n0 : Nat) (z0 : n0 ≤ h0.size) (ge_x : n0 ≤ x) (X00 : Old Z n0 h0) (xE : Exa Z h0 x "java/lang/String") (xV : Fld Z h0 x "java/lang/String" "value" "[B" .null) (xC : Fld Z h0 x "java/lang/String" "coder" "B" (.int 0)) (aE : Exa Z h0 a "java/lang/StringBuilder") (aV : Fld Z h0 a "java/lang/AbstractStringBuilder" "value" "[B" (.ref b)) (aC : Fld Z h0 a "java/lang/AbstractStringBuilder" "coder" "B" (.int 0)) (aN : Fld Z h0 a "java/lang/AbstractStringBuilder" "count" "I" (.int cnt)) (bK : Arv Z h0 b bk .byte bN bvs (.int 0)) (ne_a_x : a ≠ x) (ne_b_x : b ≠ x) (O2 : Sta Z Z.heap "java/lang/String" "COMPACT_STRINGS" "Z" (.int G1)) (O4 : Sta Z Z.heap "jdk/internal/util/Preconditions" "SIOOBE_FORMATTER" "Ljava/util/function/BiFunction;" G3) (P5 : ¬ G1 = (0 : Int32)) (rG3 : G3.isRef = true) (t0 : ¬ cnt < (0 : Int32)) (t1 : ¬ bN < cnt) (t2 : ¬ cnt = bN) (t3 : cnt.toNatClampNeg ≤ 64) (t4 : ((List.range cnt.toNatClampNeg).map fun i => bvs.getD ((0 : Int32).toNatClampNeg + i) (.int 0)) = us) :
    own_Met l Z (⟨"java/lang/String", "<init>", "(Ljava/lang/AbstractStringBuilder;Ljava/lang/Void;)V"⟩ : MethodName) jdk_42_method_150_code 5 none ({ frames := 3, cells := 1, slots := 64, locals := 49 } : Room) n0 #[(.ref x), (.ref a), .null] h0 (fun v h => ∃ r : Addr, ∃ rk : ClassId, v = none ∧ h0.size ≤ r ∧ Keep h0 h [x] ∧ Exa Z h x "java/lang/String" ∧ Fld Z h x "java/lang/String" "coder" "B" (.int 0) ∧ Fld Z h x "java/lang/String" "value" "[B" (.ref r) ∧ Arv Z h r rk .byte cnt us (.int 0)) := by
  refine own_met (by decide +kernel) #[.val (.ref x), .val (.ref a), .val .null, .unset, .unset] (fun m => by first | (simp [entryFrame, mkF, argsToLocals, Value.category]; done) | rfl) ?_
  intro p e s m below meth c T0 C S0
  refine own_seg C S0 [(0, .aload_n 0, 1)] (by decide +kernel) 1 #[.val (.ref x), .val (.ref a), .val .null, .unset, .unset] [(.ref x)] rfl ?_
  refine own_initO C S0 (own_wd hw 21 rfl) (own_wd hw 22 rfl) (own_wd hw 23 rfl) rfl (by decide +kernel) (by decide) 0 (Nat.le_of_ble_eq_true rfl) (by decide) ?_
  intro T1394 S1395
  refine own_seg C S1395 [(4, .aload_n 1, 1)] (by decide +kernel) 5 #[.val (.ref x), .val (.ref a), .val .null, .unset, .unset] [(.ref a)] rfl ?_
  refine own_callV C S1395 (own_wd hw 202 rfl) (own_wd hw 203 rfl) (own_wd hw 205 rfl) (own_wd hw 205 rfl) rfl (own_wd hw 204 rfl) (by decide) (own_Met.pay (own_gv l Z a0 hw a b h0 n0 z0 aV) C 0 (own_wd hw 206 rfl) (own_wd hw 52 rfl) (by decide) (by decide)) (fun _ _ _ q => q.2) aE [] [] rfl own_pd26 rfl rfl rfl (Nat.le_of_ble_eq_true rfl) (by decide) (by decide) (by decide +kernel) ?_
  rintro T1397 h1398 v1399 L1400 S1401 ⟨⟨rfl, e1396⟩, -⟩
  rw [e1396] at S1401; clear e1396
  show own_Go p e below _ T1397 (mkF m 8 #[.val (.ref x), .val (.ref a), .val .null, .unset, .unset] [(.ref b)])
  refine own_seg C S1401 [(8, .astore_n 3, 1), (9, .aload_n 1, 1)] (by decide +kernel) 10 #[.val (.ref x), .val (.ref a), .val .null, .val (.ref b), .unset] [(.ref a)] rfl ?_
  refine own_callV C S1401 (own_wd hw 207 rfl) (own_wd hw 208 rfl) (own_wd hw 210 rfl) (own_wd hw 144 rfl) rfl (own_wd hw 211 rfl) (by decide) (own_Met.pay (own_sbL l Z a0 hw a cnt h0 n0 z0 aN aE) C 0 (own_wd hw 212 rfl) (own_wd hw 34 rfl) (by decide) (by decide)) (fun _ _ _ q => q.2) aE [] [] rfl own_pd5 rfl rfl rfl (Nat.le_of_ble_eq_true rfl) (by decide) (by decide) (by decide +kernel) ?_
  rintro T1403 h1404 v1405 L1406 S1407 ⟨⟨rfl, e1402⟩, -⟩
  rw [e1402] at S1407; clear e1402
  show own_Go p e below _ T1403 (mkF m 13 #[.val (.ref x), .val (.ref a), .val .null, .val (.ref b), .unset] [(.int cnt)])
  refine own_seg C S1407 [(13, .istore 4, 2), (15, .aload_n 1, 1)] (by decide +kernel) 16 #[.val (.ref x), .val (.ref a), .val .null, .val (.ref b), .val (.int cnt)] [(.ref a)] rfl ?_
  refine own_callV C S1407 (own_wd hw 215 rfl) (own_wd hw 147 rfl) (own_wd hw 149 rfl) (own_wd hw 149 rfl) rfl (own_wd hw 148 rfl) (by decide) (own_Met.pay (own_asbisL l Z a0 hw G1 G3 a h0 n0 z0 X00 aC O2 O4 P5 rG3) C 0 (own_wd hw 150 rfl) (own_wd hw 52 rfl) (by decide) (by decide)) (fun _ _ _ q => q.2) aE [] [] rfl own_pd4 rfl rfl rfl (Nat.le_of_ble_eq_true rfl) (by decide) (by decide) (by decide +kernel) ?_
  rintro T1409 h1410 v1411 L1412 S1413 ⟨⟨rfl, e1408⟩, -⟩
  rw [e1408] at S1413; clear e1408
  show own_Go p e below _ T1409 (mkF m 19 #[.val (.ref x), .val (.ref a), .val .null, .val (.ref b), .val (.int cnt)] [(.int 1)])
  refine own_if C S1413 (q := .eq) (o := 22) (by decide +kernel) 41 (by decide) (by decide) (fun (hq : (1 : Int32) = (0 : Int32)) => False.elim (absurd hq (by decide))) (fun (q1414 : ¬ (1 : Int32) = (0 : Int32)) => ?_)
  refine own_seg C S1413 [(22, .aload_n 0, 1), (23, .iconst 0, 1)] (by decide +kernel) 24 #[.val (.ref x), .val (.ref a), .val .null, .val (.ref b), .val (.int cnt)] [(.int 0), (.ref x)] rfl ?_
  refine own_putF C S1413 (ty := .byte) (host := "") (Or.inl (own_wd hw 26 rfl)) Via.refl xC xE (Or.inr ⟨(own_wd hw 27 rfl), rfl, rfl⟩) (own_wd hw 12 rfl) own_fd1 rfl rfl ge_x (by decide +kernel) ?_
  intro T1415 h1417 S1416 W1418
  have f1419 : Fld Z h1417 x "java/lang/String" "coder" "B" (.int 0) := Fld.same W1418 xC
  refine own_seg C S1416 [(27, .aload_n 0, 1), (28, .aload_n 3, 1), (29, .iconst 0, 1), (30, .iload 4, 2)] (by decide +kernel) 32 #[.val (.ref x), .val (.ref a), .val .null, .val (.ref b), .val (.int cnt)] [(.int cnt), (.int 0), (.ref b), (.ref x)] rfl ?_
  have f1420 := (bK.other W1418 ne_b_x)
  have f1421 : n0 ≤ h1417.size := (by rw [W1418.size]; exact z0)
  refine own_callS C S1416 (own_wd hw 216 rfl) (own_wd hw 217 rfl) (own_wd hw 183 rfl) (own_wd hw 218 rfl) (by decide) (own_Met.pay (own_cor l Z a0 hw b _ _ _ cnt us h1417 n0 f1421 f1420 t0 t1 t2 t3 t4) C 1 (own_wd hw 218 rfl) (own_wd hw 183 rfl) (by decide) (by decide)) (fun _ _ _ q => q.2) [(.ref b), (.int 0), (.int cnt)] [(.ref x)] rfl own_pd25 rfl rfl rfl (Nat.le_of_ble_eq_true rfl) (by decide) (by decide) (by decide +kernel) ?_
  rintro T1427 h1428 v1429 L1430 S1431 ⟨⟨a1422, k1423, rfl, g1424, K1425, f1426⟩, -⟩
  show own_Go p e below _ T1427 (mkF m 35 #[.val (.ref x), .val (.ref a), .val .null, .val (.ref b), .val (.int cnt)] [(.ref a1422), (.ref x)])
  have f1432 := ((Fld.other W1418 xV (Or.inr (own_sn1 hw))).keep K1425 nin0)
  have f1433 := ((Exa.wr W1418 xE).keep K1425)
  refine own_putF C S1431 (ty := (.array .byte)) (host := "") (Or.inl (own_wd hw 24 rfl)) Via.refl f1432 f1433 (Or.inr ⟨(own_wd hw 25 rfl), rfl, rfl⟩) (own_wd hw 12 rfl) own_fd0 rfl rfl ge_x (by decide +kernel) ?_
  intro T1434 h1436 S1435 W1437
  have f1438 : Fld Z h1436 x "java/lang/String" "value" "[B" (.ref a1422) := Fld.same W1437 f1432
  refine own_seg C S1435 [(38, .goto 59, 3)] (by decide +kernel) 97 #[.val (.ref x), .val (.ref a), .val .null, .val (.ref b), .val (.int cnt)] [] rfl ?_
  refine own_retV C S1435 (by decide +kernel) (by decide) (by decide) ?_
  have o1440 : h0.size ≤ h1417.size := (by rw [W1418.size]; exact (Nat.le_refl _))
  have o1439 : h0.size ≤ a1422 := Nat.le_trans o1440 g1424
  have f1441 := (Exa.wr W1437 f1433)
  have f1442 := (Fld.other W1437 (f1419.keep K1425 nin0) (Or.inr (own_sn0 hw)))
  have f1443 : x < h1417.size := (by rw [W1418.size]; exact xC.lt)
  have n1444 : x ≠ a1422 := Nat.ne_of_lt (Nat.lt_of_lt_of_le f1443 g1424)
  have f1445 := (f1426.other W1437 (Ne.symm n1444))
  exact ⟨a1422, k1423, rfl, o1439, ((((Keep.refl _ _).wr W1418 (Or.inl (List.mem_of_getElem? (i := 0) rfl))).trans K1425 all0).wr W1437 (Or.inl (List.mem_of_getElem? (i := 0) rfl))), f1441, f1442, f1438, f1445⟩
theorem own_pd27 : parseMethodDescriptor "(Ljava/lang/AbstractStringBuilder;Ljava/lang/Void;)V" = some ⟨[(.object "java/lang/AbstractStringBuilder"), (.object "java/lang/Void")], none⟩ := by decide +kernel
theorem own_sib2 (l : Launch) (Z : State) (a0 : Array Value) (hw : ∀ d ∈ tables_1, d.before a0 Z = true) (G1 : Int32) (G3 : Value) (x : Addr) (a : Addr) (b : Addr) (bk : ClassId) (bN : Int32) (bvs : List Value) (cnt : Int32) (us : List Value) (h0 : Heap) (n0 : Nat) (z0 : n0 ≤ h0.size) (ge_x : n0 ≤ x) (X00 : Old Z n0 h0) (xE : Exa Z h0 x "java/lang/String") (xV : Fld Z h0 x "java/lang/String" "value" "[B" .null) (xC : Fld Z h0 x "java/lang/String" "coder" "B" (.int 0)) (aE : Exa Z h0 a "java/lang/StringBuilder") (aV : Fld Z h0 a "java/lang/AbstractStringBuilder" "value" "[B" (.ref b)) (aC : Fld Z h0 a "java/lang/AbstractStringBuilder" "coder" "B" (.int 0)) (aN : Fld Z h0 a "java/lang/AbstractStringBuilder" "count" "I" (.int cnt)) (bK : Arv Z h0 b bk .byte bN bvs (.int 0)) (ne_a_x : a ≠ x) (ne_b_x : b ≠ x) (O2 : Sta Z Z.heap "java/lang/String" "COMPACT_STRINGS" "Z" (.int G1)) (O4 : Sta Z Z.heap "jdk/internal/util/Preconditions" "SIOOBE_FORMATTER" "Ljava/util/function/BiFunction;" G3) (P5 : ¬ G1 = (0 : Int32)) (rG3 : G3.isRef = true) (t0 : ¬ cnt < (0 : Int32)) (t1 : ¬ bN < cnt) (t2 : ¬ cnt = bN) (t3 : cnt.toNatClampNeg ≤ 64) (t4 : ((List.range cnt.toNatClampNeg).map fun i => bvs.getD ((0 : Int32).toNatClampNeg + i) (.int 0)) = us) :
    own_Met l Z (⟨"java/lang/String", "<init>", "(Ljava/lang/StringBuilder;)V"⟩ : MethodName) jdk_42_method_53_code 2 none ({ frames := 4, cells := 1, slots := 64, locals := 65 } : Room) n0 #[(.ref x), (.ref a)] h0 (fun v h => ∃ r : Addr, ∃ rk : ClassId, v = none ∧ h0.size ≤ r ∧ Keep h0 h [x] ∧ Exa Z h x "java/lang/String" ∧ Fld Z h x "java/lang/String" "coder" "B" (.int 0) ∧ Fld Z h x "java/lang/String" "value" "[B" (.ref r) ∧ Arv Z h r rk .byte cnt us (.int 0)) := by
  refine own_met (by decide +kernel) #[.val (.ref x), .val (.ref a)] (fun m => by first | (simp [entryFrame, mkF, argsToLocals, Value.category]; done) | rfl) ?_
  intro p e s m below meth c T0 C S0
  refine own_seg C S0 [(0, .aload_n 0, 1), (1, .aload_n 1, 1), (2, .aconst_null, 1)] (by decide +kernel) 3 #[.val (.ref x), .val (.ref a)] [.null, (.ref a), (.ref x)] rfl ?_
  refine own_callI C S0 rfl (own_wd hw 199 rfl) (own_wd hw 200 rfl) (own_wd hw 201 rfl) (by decide) (own_Met.pay (own_sib l Z a0 hw G1 G3 x a _ _ _ _ _ us h0 n0 z0 ge_x X00 xE xV xC aE aV aC aN bK ne_a_x ne_b_x O2 O4 P5 rG3 t0 t1 t2 t3 t4) C 0 (own_wd hw 201 rfl) (own_wd hw 4 rfl) (by decide) (by decide)) (fun _ _ _ q => q.2) [(.ref a), .null] [] rfl own_pd27 rfl rfl rfl (Nat.le_of_ble_eq_true rfl) (by decide) (by decide) (by decide +kernel) ?_
  rintro T1454 h1455 v1456 L1457 S1458 ⟨⟨a1446, k1447, rfl, g1448, K1449, f1450, f1451, f1452, f1453⟩, -⟩
  show own_Go p e below _ T1454 (mkF m 6 #[.val (.ref x), .val (.ref a)] [])
  refine own_retV C S1458 (by decide +kernel) (by decide) (by decide) ?_
  have o1459 : h0.size ≤ a1446 := Nat.le_trans (Nat.le_refl _) g1448
  exact ⟨a1446, k1447, rfl, o1459, ((Keep.refl _ _).trans K1449 (allS (Or.inl (List.mem_of_getElem? (i := 0) rfl)) all0)), f1450, f1451, f1452, f1453⟩
theorem own_pd28 : parseMethodDescriptor "(Ljava/lang/StringBuilder;)V" = some ⟨[(.object "java/lang/StringBuilder")], none⟩ := by decide +kernel
theorem own_ts (l : Launch) (Z : State) (a0 : Array Value) (hw : ∀ d ∈ tables_1, d.before a0 Z = true) (G1 : Int32) (G3 : Value) (a : Addr) (b : Addr) (bk : ClassId) (bN : Int32) (bvs : List Value) (cnt : Int32) (us : List Value) (h0 : Heap) (n0 : Nat) (z0 : n0 ≤ h0.size) (X00 : Old Z n0 h0) (aE : Exa Z h0 a "java/lang/StringBuilder") (aV : Fld Z h0 a "java/lang/AbstractStringBuilder" "value" "[B" (.ref b)) (aC : Fld Z h0 a "java/lang/AbstractStringBuilder" "coder" "B" (.int 0)) (aN : Fld Z h0 a "java/lang/AbstractStringBuilder" "count" "I" (.int cnt)) (bK : Arv Z h0 b bk .byte bN bvs (.int 0)) (O2 : Sta Z Z.heap "java/lang/String" "COMPACT_STRINGS" "Z" (.int G1)) (O4 : Sta Z Z.heap "jdk/internal/util/Preconditions" "SIOOBE_FORMATTER" "Ljava/util/function/BiFunction;" G3) (P5 : ¬ G1 = (0 : Int32)) (rG3 : G3.isRef = true) (t0 : ¬ cnt < (0 : Int32)) (t1 : ¬ bN < cnt) (t2 : ¬ cnt = bN) (t3 : cnt.toNatClampNeg ≤ 64) (t4 : ((List.range cnt.toNatClampNeg).map fun i => bvs.getD ((0 : Int32).toNatClampNeg + i) (.int 0)) = us) :
    own_Met l Z (⟨"java/lang/StringBuilder", "toString", "()Ljava/lang/String;"⟩ : MethodName) jdk_67_method_42_code 1 (some (.object "java/lang/String")) ({ frames := 5, cells := 2, slots := 68, locals := 79 } : Room) n0 #[(.ref a)] h0 (fun v h => ∃ x : Addr, ∃ r : Addr, ∃ rk : ClassId, v = some (.ref x) ∧ h0.size ≤ x ∧ h0.size ≤ r ∧ Keep h0 h [] ∧ Exa Z h x "java/lang/String" ∧ Fld Z h x "java/lang/String" "coder" "B" (.int 0) ∧ Fld Z h x "java/lang/String" "value" "[B" (.ref r) ∧ Arv Z h r rk .byte cnt us (.int 0)) := by
  refine own_met (by decide +kernel) #[.val (.ref a)] (fun m => by first | (simp [entryFrame, mkF, argsToLocals, Value.category]; done) | rfl) ?_
  intro p e s m below meth c T0 C S0
  refine own_new C S0 (own_wd hw 195 rfl) (own_wd hw 12 rfl) (own_wd hw 4 rfl) (by decide +kernel) (by decide) (by decide) ?_
  intro T1460 h1462 a1463 S1461 g1464 E1465 x1466 D1467
  have f1468 : Fld Z h1462 a1463 "java/lang/String" "value" "[B" .null := D1467 (ty := (.array .byte)) (Or.inr (own_wd hw 25 rfl)) own_fd0
  have f1469 : Fld Z h1462 a1463 "java/lang/String" "coder" "B" (.int 0) := D1467 (ty := .byte) (Or.inr (own_wd hw 27 rfl)) own_fd1
  refine own_seg C S1461 [(3, .dup, 1), (4, .aload_n 0, 1)] (by decide +kernel) 5 #[.val (.ref a)] [(.ref a), (.ref a1463), (.ref a1463)] rfl ?_
  have f1470 := (X00.ext E1465)
  have f1471 := (Exa.ext E1465 aE)
  have f1472 := (Fld.ext E1465 aV)
  have f1473 := (Fld.ext E1465 aC)
  have f1474 := (Fld.ext E1465 aN)
  have f1475 := (bK.ext E1465)
  have f1476 : n0 ≤ h1462.size := (Nat.le_trans z0 E1465.1)
  have g1477 : n0 ≤ a1463 := by rw [g1464]; exact z0
  have n1478 : a ≠ a1463 := by rw [g1464]; exact Nat.ne_of_lt aE.lt
  have n1479 : b ≠ a1463 := by rw [g1464]; exact Nat.ne_of_lt bK.lt
  refine own_callI C S1461 rfl (own_wd hw 196 rfl) (own_wd hw 197 rfl) (own_wd hw 198 rfl) (by decide) (own_Met.pay (own_sib2 l Z a0 hw G1 G3 a1463 a _ _ _ _ _ us h1462 n0 f1476 g1477 f1470 x1466 f1468 f1469 f1471 f1472 f1473 f1474 f1475 n1478 n1479 O2 O4 P5 rG3 t0 t1 t2 t3 t4) C 1 (own_wd hw 198 rfl) (own_wd hw 4 rfl) (by decide) (by decide)) (fun _ _ _ q => q.2) [(.ref a)] [(.ref a1463)] rfl own_pd28 rfl rfl rfl (Nat.le_of_ble_eq_true rfl) (by decide) (by decide) (by decide +kernel) ?_
  rintro T1488 h1489 v1490 L1491 S1492 ⟨⟨a1480, k1481, rfl, g1482, K1483, f1484, f1485, f1486, f1487⟩, -⟩
  show own_Go p e below _ T1488 (mkF m 8 #[.val (.ref a)] [(.ref a1463)])
  refine own_retA C S1492 rfl rfl (by decide +kernel) (by decide) (by decide) ?_
  have o1493 : h0.size ≤ a1463 := by rw [g1464]; exact (Nat.le_refl _)
  have o1495 : h0.size ≤ h1462.size := (Nat.le_trans (Nat.le_refl _) E1465.1)
  have o1494 : h0.size ≤ a1480 := Nat.le_trans o1495 g1482
  exact ⟨a1463, a1480, k1481, rfl, o1493, o1494, (((Keep.refl _ _).ext E1465).trans K1483 (allS (Or.inr o1493) all0)), f1484, f1485, f1486, f1487⟩
theorem own_corC0 (l : Launch) (Z : State) (a0 : Array Value) (hw : ∀ d ∈ tables_1, d.before a0 Z = true) (b : Addr) (bk : ClassId) (h0 : Heap) (n0 : Nat) (z0 : n0 ≤ h0.size) (bK : Arv Z h0 b bk .byte (0 : Int32) ([]) (.int 0)) (bE : Exa Z h0 b "[B") :
    own_Met l Z (⟨"java/util/Arrays", "copyOfRange", "([BII)[B"⟩ : MethodName) jdk_65_method_132_code 3 (some (.array .byte)) ({ frames := 1, cells := 1, slots := 0, locals := 14 } : Room) n0 #[(.ref b), (.int 0), (.int 0)] h0 (fun v h => ∃ r : Addr, ∃ rk : ClassId, v = some (.ref r) ∧ h0.size ≤ r ∧ Keep h0 h [] ∧ Arv Z h r rk .byte (0 : Int32) ([]) (.int 0) ∧ Exa Z h r "[B") := by
  refine own_met (by decide +kernel) #[.val (.ref b), .val (.int 0), .val (.int 0)] (fun m => by first | (simp [entryFrame, mkF, argsToLocals, Value.category]; done) | rfl) ?_
  intro p e s m below meth c T0 C S0
  refine own_seg C S0 [(0, .iload_n 1, 1)] (by decide +kernel) 1 #[.val (.ref b), .val (.int 0), .val (.int 0)] [(.int 0)] rfl ?_
  refine own_if C S0 (q := .ne) (o := 9) (by decide +kernel) 10 (by decide) (by decide) (fun (hq : ¬ (0 : Int32) = (0 : Int32)) => False.elim (hq rfl)) (fun (q1496 : (0 : Int32) = (0 : Int32)) => ?_)
  refine own_seg C S0 [(4, .iload_n 2, 1), (5, .aload_n 0, 1)] (by decide +kernel) 6 #[.val (.ref b), .val (.int 0), .val (.int 0)] [(.ref b), (.int 0)] rfl ?_
  refine own_alen C S0 bK (by decide +kernel) ?_
  refine own_icmp C S0 (q := .eq) (o := 10) (by decide +kernel) 17 (by decide) (by decide) (fun (q1497 : (0 : Int32) = (0 : Int32)) => ?_) (fun (hq : ¬ (0 : Int32) = (0 : Int32)) => False.elim (by revert hq; decide))
  refine own_seg C S0 [(17, .aload_n 0, 1)] (by decide +kernel) 18 #[.val (.ref b), .val (.int 0), .val (.int 0)] [(.ref b)] rfl ?_
  refine own_clone C S0 (own_wd hw 259 rfl) (own_wd hw 83 rfl) (own_wd hw 87 rfl) (own_wd hw 85 rfl) (own_wd hw 86 rfl) (own_wd hw 88 rfl) bK bE rfl (by decide +kernel) (by decide) 0 0 (Nat.le_of_ble_eq_true rfl) (by decide) (by decide) (by decide) (by decide) ?_
  intro T1498 h1500 a1501 S1499 g1502 E1503 f1504 x1505
  refine own_cast C S1499 (own_wd hw 260 rfl) (Ins.self x1505) (by decide +kernel) ?_
  intro T1506 S1507
  refine own_retA C S1507 rfl rfl (by decide +kernel) (by decide) (by decide) ?_
  have o1508 : h0.size ≤ a1501 := by rw [g1502]; exact (Nat.le_refl _)
  exact ⟨a1501, bk, rfl, o1508, ((Keep.refl _ _).ext E1503), f1504, x1505⟩
theorem own_sibC0 (l : Launch) (Z : State) (a0 : Array Value) (hw : ∀ d ∈ tables_1, d.before a0 Z = true) (G1 : Int32) (G3 : Value) (x : Addr) (a : Addr) (b : Addr) (bk : ClassId) (h0 : Heap) (n0 : Nat) (z0 : n0 ≤ h0.size) (ge_x : n0 ≤ x) (X00 : Old Z n0 h0) (xE : Exa Z h0 x "java/lang/String") (xV : Fld Z h0 x "java/lang/String" "value" "[B" .null) (xC : Fld Z h0 x "java/lang/String" "coder" "B" (.int 0)) (aE : Exa Z h0 a "java/lang/StringBuilder") (aV : Fld Z h0 a "java/lang/AbstractStringBuilder" "value" "[B" (.ref b)) (aC : Fld Z h0 a "java/lang/AbstractStringBuilder" "coder" "B" (.int 0)) (aN : Fld Z h0 a "java/lang/AbstractStringBuilder" "count" "I" (.int 0)) (bK : Arv Z h0 b bk .byte (0 : Int32) ([]) (.int 0)) (bE : Exa Z h0 b "[B") (ne_a_x : a ≠ x) (ne_b_x : b ≠ x) (O2 : Sta Z Z.heap "java/lang/String" "COMPACT_STRINGS" "Z" (.int G1)) (O4 : Sta Z Z.heap "jdk/internal/util/Preconditions" "SIOOBE_FORMATTER" "Ljava/util/function/BiFunction;" G3) (P5 : ¬ G1 = (0 : Int32)) (rG3 : G3.isRef = true) :
    own_Met l Z (⟨"java/lang/String", "<init>", "(Ljava/lang/AbstractStringBuilder;Ljava/lang/Void;)V"⟩ : MethodName) jdk_42_method_150_code 5 none ({ frames := 2, cells := 1, slots := 0, locals := 29 } : Room) n0 #[(.ref x), (.ref a), .null] h0 (fun v h => ∃ r : Addr, ∃ rk : ClassId, v = none ∧ h0.size ≤ r ∧ Keep h0 h [x] ∧ Exa Z h x "java/lang/String" ∧ Fld Z h x "java/lang/String" "coder" "B" (.int 0) ∧ Fld Z h x "java/lang/String" "value" "[B" (.ref r) ∧ Arv Z h r rk .byte (0 : Int32) ([]) (.int 0)) := by
  refine own_met (by decide +kernel) #[.val (.ref x), .val (.ref a), .val .null, .unset, .unset] (fun m => by first | (simp [entryFrame, mkF, argsToLocals, Value.category]; done) | rfl) ?_
  intro p e s m below meth c T0 C S0
  refine own_seg C S0 [(0, .aload_n 0, 1)] (by decide +kernel) 1 #[.val (.ref x), .val (.ref a), .val .null, .unset, .unset] [(.ref x)] rfl ?_
  refine own_initO C S0 (own_wd hw 21 rfl) (own_wd hw 22 rfl) (own_wd hw 23 rfl) rfl (by decide +kernel) (by decide) 0 (Nat.le_of_ble_eq_true rfl) (by decide) ?_
  intro T1509 S1510
  refine own_seg C S1510 [(4, .aload_n 1, 1)] (by decide +kernel) 5 #[.val (.ref x), .val (.ref a), .val .null, .unset, .unset] [(.ref a)] rfl ?_
  refine own_callV C S1510 (own_wd hw 202 rfl) (own_wd hw 203 rfl) (own_wd hw 205 rfl) (own_wd hw 205 rfl) rfl (own_wd hw 204 rfl) (by decide) (own_Met.pay (own_gv l Z a0 hw a b h0 n0 z0 aV) C 0 (own_wd hw 206 rfl) (own_wd hw 52 rfl) (by decide) (by decide)) (fun _ _ _ q => q.2) aE [] [] rfl own_pd26 rfl rfl rfl (Nat.le_of_ble_eq_true rfl) (by decide) (by decide) (by decide +kernel) ?_
  rintro T1512 h1513 v1514 L1515 S1516 ⟨⟨rfl, e1511⟩, -⟩
  rw [e1511] at S1516; clear e1511
  show own_Go p e below _ T1512 (mkF m 8 #[.val (.ref x), .val (.ref a), .val .null, .unset, .unset] [(.ref b)])
  refine own_seg C S1516 [(8, .astore_n 3, 1), (9, .aload_n 1, 1)] (by decide +kernel) 10 #[.val (.ref x), .val (.ref a), .val .null, .val (.ref b), .unset] [(.ref a)] rfl ?_
  refine own_callV C S1516 (own_wd hw 207 rfl) (own_wd hw 208 rfl) (own_wd hw 210 rfl) (own_wd hw 144 rfl) rfl (own_wd hw 211 rfl) (by decide) (own_Met.pay (own_sbL l Z a0 hw a (0 : Int32) h0 n0 z0 aN aE) C 0 (own_wd hw 212 rfl) (own_wd hw 34 rfl) (by decide) (by decide)) (fun _ _ _ q => q.2) aE [] [] rfl own_pd5 rfl rfl rfl (Nat.le_of_ble_eq_true rfl) (by decide) (by decide) (by decide +kernel) ?_
  rintro T1518 h1519 v1520 L1521 S1522 ⟨⟨rfl, e1517⟩, -⟩
  rw [e1517] at S1522; clear e1517
  show own_Go p e below _ T1518 (mkF m 13 #[.val (.ref x), .val (.ref a), .val .null, .val (.ref b), .unset] [(.int 0)])
  refine own_seg C S1522 [(13, .istore 4, 2), (15, .aload_n 1, 1)] (by decide +kernel) 16 #[.val (.ref x), .val (.ref a), .val .null, .val (.ref b), .val (.int 0)] [(.ref a)] rfl ?_
  refine own_callV C S1522 (own_wd hw 215 rfl) (own_wd hw 147 rfl) (own_wd hw 149 rfl) (own_wd hw 149 rfl) rfl (own_wd hw 148 rfl) (by decide) (own_Met.pay (own_asbisL l Z a0 hw G1 G3 a h0 n0 z0 X00 aC O2 O4 P5 rG3) C 0 (own_wd hw 150 rfl) (own_wd hw 52 rfl) (by decide) (by decide)) (fun _ _ _ q => q.2) aE [] [] rfl own_pd4 rfl rfl rfl (Nat.le_of_ble_eq_true rfl) (by decide) (by decide) (by decide +kernel) ?_
  rintro T1524 h1525 v1526 L1527 S1528 ⟨⟨rfl, e1523⟩, -⟩
  rw [e1523] at S1528; clear e1523
  show own_Go p e below _ T1524 (mkF m 19 #[.val (.ref x), .val (.ref a), .val .null, .val (.ref b), .val (.int 0)] [(.int 1)])
  refine own_if C S1528 (q := .eq) (o := 22) (by decide +kernel) 41 (by decide) (by decide) (fun (hq : (1 : Int32) = (0 : Int32)) => False.elim (absurd hq (by decide))) (fun (q1529 : ¬ (1 : Int32) = (0 : Int32)) => ?_)
  refine own_seg C S1528 [(22, .aload_n 0, 1), (23, .iconst 0, 1)] (by decide +kernel) 24 #[.val (.ref x), .val (.ref a), .val .null, .val (.ref b), .val (.int 0)] [(.int 0), (.ref x)] rfl ?_
  refine own_putF C S1528 (ty := .byte) (host := "") (Or.inl (own_wd hw 26 rfl)) Via.refl xC xE (Or.inr ⟨(own_wd hw 27 rfl), rfl, rfl⟩) (own_wd hw 12 rfl) own_fd1 rfl rfl ge_x (by decide +kernel) ?_
  intro T1530 h1532 S1531 W1533
  have f1534 : Fld Z h1532 x "java/lang/String" "coder" "B" (.int 0) := Fld.same W1533 xC
  refine own_seg C S1531 [(27, .aload_n 0, 1), (28, .aload_n 3, 1), (29, .iconst 0, 1), (30, .iload 4, 2)] (by decide +kernel) 32 #[.val (.ref x), .val (.ref a), .val .null, .val (.ref b), .val (.int 0)] [(.int 0), (.int 0), (.ref b), (.ref x)] rfl ?_
  have f1535 := (bK.other W1533 ne_b_x)
  have f1536 := (Exa.wr W1533 bE)
  have f1537 : n0 ≤ h1532.size := (by rw [W1533.size]; exact z0)
  refine own_callS C S1531 (own_wd hw 216 rfl) (own_wd hw 217 rfl) (own_wd hw 183 rfl) (own_wd hw 218 rfl) (by decide) (own_Met.pay (own_corC0 l Z a0 hw b _ h1532 n0 f1537 f1535 f1536) C 1 (own_wd hw 218 rfl) (own_wd hw 183 rfl) (by decide) (by decide)) (fun _ _ _ q => q.2) [(.ref b), (.int 0), (.int 0)] [(.ref x)] rfl own_pd25 rfl rfl rfl (Nat.le_of_ble_eq_true rfl) (by decide) (by decide) (by decide +kernel) ?_
  rintro T1544 h1545 v1546 L1547 S1548 ⟨⟨a1538, k1539, rfl, g1540, K1541, f1542, f1543⟩, -⟩
  show own_Go p e below _ T1544 (mkF m 35 #[.val (.ref x), .val (.ref a), .val .null, .val (.ref b), .val (.int 0)] [(.ref a1538), (.ref x)])
  have f1549 := ((Fld.other W1533 xV (Or.inr (own_sn1 hw))).keep K1541 nin0)
  have f1550 := ((Exa.wr W1533 xE).keep K1541)
  refine own_putF C S1548 (ty := (.array .byte)) (host := "") (Or.inl (own_wd hw 24 rfl)) Via.refl f1549 f1550 (Or.inr ⟨(own_wd hw 25 rfl), rfl, rfl⟩) (own_wd hw 12 rfl) own_fd0 rfl rfl ge_x (by decide +kernel) ?_
  intro T1551 h1553 S1552 W1554
  have f1555 : Fld Z h1553 x "java/lang/String" "value" "[B" (.ref a1538) := Fld.same W1554 f1549
  refine own_seg C S1552 [(38, .goto 59, 3)] (by decide +kernel) 97 #[.val (.ref x), .val (.ref a), .val .null, .val (.ref b), .val (.int 0)] [] rfl ?_
  refine own_retV C S1552 (by decide +kernel) (by decide) (by decide) ?_
  have o1557 : h0.size ≤ h1532.size := (by rw [W1533.size]; exact (Nat.le_refl _))
  have o1556 : h0.size ≤ a1538 := Nat.le_trans o1557 g1540
  have f1558 := (Exa.wr W1554 f1550)
  have f1559 := (Fld.other W1554 (f1534.keep K1541 nin0) (Or.inr (own_sn0 hw)))
  have f1560 : x < h1532.size := (by rw [W1533.size]; exact xC.lt)
  have n1561 : x ≠ a1538 := Nat.ne_of_lt (Nat.lt_of_lt_of_le f1560 g1540)
  have f1562 := (f1542.other W1554 (Ne.symm n1561))
  exact ⟨a1538, k1539, rfl, o1556, ((((Keep.refl _ _).wr W1533 (Or.inl (List.mem_of_getElem? (i := 0) rfl))).trans K1541 all0).wr W1554 (Or.inl (List.mem_of_getElem? (i := 0) rfl))), f1558, f1559, f1555, f1562⟩
theorem own_sib2C0 (l : Launch) (Z : State) (a0 : Array Value) (hw : ∀ d ∈ tables_1, d.before a0 Z = true) (G1 : Int32) (G3 : Value) (x : Addr) (a : Addr) (b : Addr) (bk : ClassId) (h0 : Heap) (n0 : Nat) (z0 : n0 ≤ h0.size) (ge_x : n0 ≤ x) (X00 : Old Z n0 h0) (xE : Exa Z h0 x "java/lang/String") (xV : Fld Z h0 x "java/lang/String" "value" "[B" .null) (xC : Fld Z h0 x "java/lang/String" "coder" "B" (.int 0)) (aE : Exa Z h0 a "java/lang/StringBuilder") (aV : Fld Z h0 a "java/lang/AbstractStringBuilder" "value" "[B" (.ref b)) (aC : Fld Z h0 a "java/lang/AbstractStringBuilder" "coder" "B" (.int 0)) (aN : Fld Z h0 a "java/lang/AbstractStringBuilder" "count" "I" (.int 0)) (bK : Arv Z h0 b bk .byte (0 : Int32) ([]) (.int 0)) (bE : Exa Z h0 b "[B") (ne_a_x : a ≠ x) (ne_b_x : b ≠ x) (O2 : Sta Z Z.heap "java/lang/String" "COMPACT_STRINGS" "Z" (.int G1)) (O4 : Sta Z Z.heap "jdk/internal/util/Preconditions" "SIOOBE_FORMATTER" "Ljava/util/function/BiFunction;" G3) (P5 : ¬ G1 = (0 : Int32)) (rG3 : G3.isRef = true) :
    own_Met l Z (⟨"java/lang/String", "<init>", "(Ljava/lang/StringBuilder;)V"⟩ : MethodName) jdk_42_method_53_code 2 none ({ frames := 3, cells := 1, slots := 0, locals := 45 } : Room) n0 #[(.ref x), (.ref a)] h0 (fun v h => ∃ r : Addr, ∃ rk : ClassId, v = none ∧ h0.size ≤ r ∧ Keep h0 h [x] ∧ Exa Z h x "java/lang/String" ∧ Fld Z h x "java/lang/String" "coder" "B" (.int 0) ∧ Fld Z h x "java/lang/String" "value" "[B" (.ref r) ∧ Arv Z h r rk .byte (0 : Int32) ([]) (.int 0)) := by
  refine own_met (by decide +kernel) #[.val (.ref x), .val (.ref a)] (fun m => by first | (simp [entryFrame, mkF, argsToLocals, Value.category]; done) | rfl) ?_
  intro p e s m below meth c T0 C S0
  refine own_seg C S0 [(0, .aload_n 0, 1), (1, .aload_n 1, 1), (2, .aconst_null, 1)] (by decide +kernel) 3 #[.val (.ref x), .val (.ref a)] [.null, (.ref a), (.ref x)] rfl ?_
  refine own_callI C S0 rfl (own_wd hw 199 rfl) (own_wd hw 200 rfl) (own_wd hw 201 rfl) (by decide) (own_Met.pay (own_sibC0 l Z a0 hw G1 G3 x a _ _ h0 n0 z0 ge_x X00 xE xV xC aE aV aC aN bK bE ne_a_x ne_b_x O2 O4 P5 rG3) C 0 (own_wd hw 201 rfl) (own_wd hw 4 rfl) (by decide) (by decide)) (fun _ _ _ q => q.2) [(.ref a), .null] [] rfl own_pd27 rfl rfl rfl (Nat.le_of_ble_eq_true rfl) (by decide) (by decide) (by decide +kernel) ?_
  rintro T1571 h1572 v1573 L1574 S1575 ⟨⟨a1563, k1564, rfl, g1565, K1566, f1567, f1568, f1569, f1570⟩, -⟩
  show own_Go p e below _ T1571 (mkF m 6 #[.val (.ref x), .val (.ref a)] [])
  refine own_retV C S1575 (by decide +kernel) (by decide) (by decide) ?_
  have o1576 : h0.size ≤ a1563 := Nat.le_trans (Nat.le_refl _) g1565
  exact ⟨a1563, k1564, rfl, o1576, ((Keep.refl _ _).trans K1566 (allS (Or.inl (List.mem_of_getElem? (i := 0) rfl)) all0)), f1567, f1568, f1569, f1570⟩
theorem own_tsC0 (l : Launch) (Z : State) (a0 : Array Value) (hw : ∀ d ∈ tables_1, d.before a0 Z = true) (G1 : Int32) (G3 : Value) (a : Addr) (b : Addr) (bk : ClassId) (h0 : Heap) (n0 : Nat) (z0 : n0 ≤ h0.size) (X00 : Old Z n0 h0) (aE : Exa Z h0 a "java/lang/StringBuilder") (aV : Fld Z h0 a "java/lang/AbstractStringBuilder" "value" "[B" (.ref b)) (aC : Fld Z h0 a "java/lang/AbstractStringBuilder" "coder" "B" (.int 0)) (aN : Fld Z h0 a "java/lang/AbstractStringBuilder" "count" "I" (.int 0)) (bK : Arv Z h0 b bk .byte (0 : Int32) ([]) (.int 0)) (bE : Exa Z h0 b "[B") (O2 : Sta Z Z.heap "java/lang/String" "COMPACT_STRINGS" "Z" (.int G1)) (O4 : Sta Z Z.heap "jdk/internal/util/Preconditions" "SIOOBE_FORMATTER" "Ljava/util/function/BiFunction;" G3) (P5 : ¬ G1 = (0 : Int32)) (rG3 : G3.isRef = true) :
    own_Met l Z (⟨"java/lang/StringBuilder", "toString", "()Ljava/lang/String;"⟩ : MethodName) jdk_67_method_42_code 1 (some (.object "java/lang/String")) ({ frames := 4, cells := 2, slots := 4, locals := 59 } : Room) n0 #[(.ref a)] h0 (fun v h => ∃ x : Addr, ∃ r : Addr, ∃ rk : ClassId, v = some (.ref x) ∧ h0.size ≤ x ∧ h0.size ≤ r ∧ Keep h0 h [] ∧ Exa Z h x "java/lang/String" ∧ Fld Z h x "java/lang/String" "coder" "B" (.int 0) ∧ Fld Z h x "java/lang/String" "value" "[B" (.ref r) ∧ Arv Z h r rk .byte (0 : Int32) ([]) (.int 0)) := by
  refine own_met (by decide +kernel) #[.val (.ref a)] (fun m => by first | (simp [entryFrame, mkF, argsToLocals, Value.category]; done) | rfl) ?_
  intro p e s m below meth c T0 C S0
  refine own_new C S0 (own_wd hw 195 rfl) (own_wd hw 12 rfl) (own_wd hw 4 rfl) (by decide +kernel) (by decide) (by decide) ?_
  intro T1577 h1579 a1580 S1578 g1581 E1582 x1583 D1584
  have f1585 : Fld Z h1579 a1580 "java/lang/String" "value" "[B" .null := D1584 (ty := (.array .byte)) (Or.inr (own_wd hw 25 rfl)) own_fd0
  have f1586 : Fld Z h1579 a1580 "java/lang/String" "coder" "B" (.int 0) := D1584 (ty := .byte) (Or.inr (own_wd hw 27 rfl)) own_fd1
  refine own_seg C S1578 [(3, .dup, 1), (4, .aload_n 0, 1)] (by decide +kernel) 5 #[.val (.ref a)] [(.ref a), (.ref a1580), (.ref a1580)] rfl ?_
  have f1587 := (X00.ext E1582)
  have f1588 := (Exa.ext E1582 aE)
  have f1589 := (Fld.ext E1582 aV)
  have f1590 := (Fld.ext E1582 aC)
  have f1591 := (Fld.ext E1582 aN)
  have f1592 := (bK.ext E1582)
  have f1593 := (Exa.ext E1582 bE)
  have f1594 : n0 ≤ h1579.size := (Nat.le_trans z0 E1582.1)
  have g1595 : n0 ≤ a1580 := by rw [g1581]; exact z0
  have n1596 : a ≠ a1580 := by rw [g1581]; exact Nat.ne_of_lt aE.lt
  have n1597 : b ≠ a1580 := by rw [g1581]; exact Nat.ne_of_lt bK.lt
  refine own_callI C S1578 rfl (own_wd hw 196 rfl) (own_wd hw 197 rfl) (own_wd hw 198 rfl) (by decide) (own_Met.pay (own_sib2C0 l Z a0 hw G1 G3 a1580 a _ _ h1579 n0 f1594 g1595 f1587 x1583 f1585 f1586 f1588 f1589 f1590 f1591 f1592 f1593 n1596 n1597 O2 O4 P5 rG3) C 1 (own_wd hw 198 rfl) (own_wd hw 4 rfl) (by decide) (by decide)) (fun _ _ _ q => q.2) [(.ref a)] [(.ref a1580)] rfl own_pd28 rfl rfl rfl (Nat.le_of_ble_eq_true rfl) (by decide) (by decide) (by decide +kernel) ?_
  rintro T1606 h1607 v1608 L1609 S1610 ⟨⟨a1598, k1599, rfl, g1600, K1601, f1602, f1603, f1604, f1605⟩, -⟩
  show own_Go p e below _ T1606 (mkF m 8 #[.val (.ref a)] [(.ref a1580)])
  refine own_retA C S1610 rfl rfl (by decide +kernel) (by decide) (by decide) ?_
  have o1611 : h0.size ≤ a1580 := by rw [g1581]; exact (Nat.le_refl _)
  have o1613 : h0.size ≤ h1579.size := (Nat.le_trans (Nat.le_refl _) E1582.1)
  have o1612 : h0.size ≤ a1598 := Nat.le_trans o1613 g1600
  exact ⟨a1580, a1598, k1599, rfl, o1611, o1612, (((Keep.refl _ _).ext E1582).trans K1601 (allS (Or.inr o1611) all0)), f1602, f1603, f1604, f1605⟩
theorem own_corC1 (l : Launch) (Z : State) (a0 : Array Value) (hw : ∀ d ∈ tables_1, d.before a0 Z = true) (b : Addr) (bk : ClassId) (u0 : Int32) (h0 : Heap) (n0 : Nat) (z0 : n0 ≤ h0.size) (bK : Arv Z h0 b bk .byte (1 : Int32) ([(.int u0)]) (.int 0)) (bE : Exa Z h0 b "[B") :
    own_Met l Z (⟨"java/util/Arrays", "copyOfRange", "([BII)[B"⟩ : MethodName) jdk_65_method_132_code 3 (some (.array .byte)) ({ frames := 1, cells := 1, slots := 1, locals := 14 } : Room) n0 #[(.ref b), (.int 0), (.int 1)] h0 (fun v h => ∃ r : Addr, ∃ rk : ClassId, v = some (.ref r) ∧ h0.size ≤ r ∧ Keep h0 h [] ∧ Arv Z h r rk .byte (1 : Int32) ([(.int u0)]) (.int 0) ∧ Exa Z h r "[B") := by
  refine own_met (by decide +kernel) #[.val (.ref b), .val (.int 0), .val (.int 1)] (fun m => by first | (simp [entryFrame, mkF, argsToLocals, Value.category]; done) | rfl) ?_
  intro p e s m below meth c T0 C S0
  refine own_seg C S0 [(0, .iload_n 1, 1)] (by decide +kernel) 1 #[.val (.ref b), .val (.int 0), .val (.int 1)] [(.int 0)] rfl ?_
  refine own_if C S0 (q := .ne) (o := 9) (by decide +kernel) 10 (by decide) (by decide) (fun (hq : ¬ (0 : Int32) = (0 : Int32)) => False.elim (hq rfl)) (fun (q1614 : (0 : Int32) = (0 : Int32)) => ?_)
  refine own_seg C S0 [(4, .iload_n 2, 1), (5, .aload_n 0, 1)] (by decide +kernel) 6 #[.val (.ref b), .val (.int 0), .val (.int 1)] [(.ref b), (.int 1)] rfl ?_
  refine own_alen C S0 bK (by decide +kernel) ?_
  refine own_icmp C S0 (q := .eq) (o := 10) (by decide +kernel) 17 (by decide) (by decide) (fun (q1615 : (1 : Int32) = (1 : Int32)) => ?_) (fun (hq : ¬ (1 : Int32) = (1 : Int32)) => False.elim (by revert hq; decide))
  refine own_seg C S0 [(17, .aload_n 0, 1)] (by decide +kernel) 18 #[.val (.ref b), .val (.int 0), .val (.int 1)] [(.ref b)] rfl ?_
  refine own_clone C S0 (own_wd hw 259 rfl) (own_wd hw 83 rfl) (own_wd hw 87 rfl) (own_wd hw 85 rfl) (own_wd hw 86 rfl) (own_wd hw 88 rfl) bK bE rfl (by decide +kernel) (by decide) 0 1 (Nat.le_of_ble_eq_true rfl) (by decide) (by decide) (by decide) (by decide) ?_
  intro T1616 h1618 a1619 S1617 g1620 E1621 f1622 x1623
  refine own_cast C S1617 (own_wd hw 260 rfl) (Ins.self x1623) (by decide +kernel) ?_
  intro T1624 S1625
  refine own_retA C S1625 rfl rfl (by decide +kernel) (by decide) (by decide) ?_
  have o1626 : h0.size ≤ a1619 := by rw [g1620]; exact (Nat.le_refl _)
  exact ⟨a1619, bk, rfl, o1626, ((Keep.refl _ _).ext E1621), f1622, x1623⟩
theorem own_sibC1 (l : Launch) (Z : State) (a0 : Array Value) (hw : ∀ d ∈ tables_1, d.before a0 Z = true) (G1 : Int32) (G3 : Value) (x : Addr) (a : Addr) (b : Addr) (bk : ClassId) (u0 : Int32) (h0 : Heap) (n0 : Nat) (z0 : n0 ≤ h0.size) (ge_x : n0 ≤ x) (X00 : Old Z n0 h0) (xE : Exa Z h0 x "java/lang/String") (xV : Fld Z h0 x "java/lang/String" "value" "[B" .null) (xC : Fld Z h0 x "java/lang/String" "coder" "B" (.int 0)) (aE : Exa Z h0 a "java/lang/StringBuilder") (aV : Fld Z h0 a "java/lang/AbstractStringBuilder" "value" "[B" (.ref b)) (aC : Fld Z h0 a "java/lang/AbstractStringBuilder" "coder" "B" (.int 0)) (aN : Fld Z h0 a "java/lang/AbstractStringBuilder" "count" "I" (.int 1)) (bK : Arv Z h0 b bk .byte (1 : Int32) ([(.int u0)]) (.int 0)) (bE : Exa Z h0 b "[B") (ne_a_x : a ≠ x) (ne_b_x : b ≠ x) (O2 : Sta Z Z.heap "java/lang/String" "COMPACT_STRINGS" "Z" (.int G1)) (O4 : Sta Z Z.heap "jdk/internal/util/Preconditions" "SIOOBE_FORMATTER" "Ljava/util/function/BiFunction;" G3) (P5 : ¬ G1 = (0 : Int32)) (rG3 : G3.isRef = true) :
    own_Met l Z (⟨"java/lang/String", "<init>", "(Ljava/lang/AbstractStringBuilder;Ljava/lang/Void;)V"⟩ : MethodName) jdk_42_method_150_code 5 none ({ frames := 2, cells := 1, slots := 1, locals := 29 } : Room) n0 #[(.ref x), (.ref a), .null] h0 (fun v h => ∃ r : Addr, ∃ rk : ClassId, v = none ∧ h0.size ≤ r ∧ Keep h0 h [x] ∧ Exa Z h x "java/lang/String" ∧ Fld Z h x "java/lang/String" "coder" "B" (.int 0) ∧ Fld Z h x "java/lang/String" "value" "[B" (.ref r) ∧ Arv Z h r rk .byte (1 : Int32) ([(.int u0)]) (.int 0)) := by
  refine own_met (by decide +kernel) #[.val (.ref x), .val (.ref a), .val .null, .unset, .unset] (fun m => by first | (simp [entryFrame, mkF, argsToLocals, Value.category]; done) | rfl) ?_
  intro p e s m below meth c T0 C S0
  refine own_seg C S0 [(0, .aload_n 0, 1)] (by decide +kernel) 1 #[.val (.ref x), .val (.ref a), .val .null, .unset, .unset] [(.ref x)] rfl ?_
  refine own_initO C S0 (own_wd hw 21 rfl) (own_wd hw 22 rfl) (own_wd hw 23 rfl) rfl (by decide +kernel) (by decide) 0 (Nat.le_of_ble_eq_true rfl) (by decide) ?_
  intro T1627 S1628
  refine own_seg C S1628 [(4, .aload_n 1, 1)] (by decide +kernel) 5 #[.val (.ref x), .val (.ref a), .val .null, .unset, .unset] [(.ref a)] rfl ?_
  refine own_callV C S1628 (own_wd hw 202 rfl) (own_wd hw 203 rfl) (own_wd hw 205 rfl) (own_wd hw 205 rfl) rfl (own_wd hw 204 rfl) (by decide) (own_Met.pay (own_gv l Z a0 hw a b h0 n0 z0 aV) C 0 (own_wd hw 206 rfl) (own_wd hw 52 rfl) (by decide) (by decide)) (fun _ _ _ q => q.2) aE [] [] rfl own_pd26 rfl rfl rfl (Nat.le_of_ble_eq_true rfl) (by decide) (by decide) (by decide +kernel) ?_
  rintro T1630 h1631 v1632 L1633 S1634 ⟨⟨rfl, e1629⟩, -⟩
  rw [e1629] at S1634; clear e1629
  show own_Go p e below _ T1630 (mkF m 8 #[.val (.ref x), .val (.ref a), .val .null, .unset, .unset] [(.ref b)])
  refine own_seg C S1634 [(8, .astore_n 3, 1), (9, .aload_n 1, 1)] (by decide +kernel) 10 #[.val (.ref x), .val (.ref a), .val .null, .val (.ref b), .unset] [(.ref a)] rfl ?_
  refine own_callV C S1634 (own_wd hw 207 rfl) (own_wd hw 208 rfl) (own_wd hw 210 rfl) (own_wd hw 144 rfl) rfl (own_wd hw 211 rfl) (by decide) (own_Met.pay (own_sbL l Z a0 hw a (1 : Int32) h0 n0 z0 aN aE) C 0 (own_wd hw 212 rfl) (own_wd hw 34 rfl) (by decide) (by decide)) (fun _ _ _ q => q.2) aE [] [] rfl own_pd5 rfl rfl rfl (Nat.le_of_ble_eq_true rfl) (by decide) (by decide) (by decide +kernel) ?_
  rintro T1636 h1637 v1638 L1639 S1640 ⟨⟨rfl, e1635⟩, -⟩
  rw [e1635] at S1640; clear e1635
  show own_Go p e below _ T1636 (mkF m 13 #[.val (.ref x), .val (.ref a), .val .null, .val (.ref b), .unset] [(.int 1)])
  refine own_seg C S1640 [(13, .istore 4, 2), (15, .aload_n 1, 1)] (by decide +kernel) 16 #[.val (.ref x), .val (.ref a), .val .null, .val (.ref b), .val (.int 1)] [(.ref a)] rfl ?_
  refine own_callV C S1640 (own_wd hw 215 rfl) (own_wd hw 147 rfl) (own_wd hw 149 rfl) (own_wd hw 149 rfl) rfl (own_wd hw 148 rfl) (by decide) (own_Met.pay (own_asbisL l Z a0 hw G1 G3 a h0 n0 z0 X00 aC O2 O4 P5 rG3) C 0 (own_wd hw 150 rfl) (own_wd hw 52 rfl) (by decide) (by decide)) (fun _ _ _ q => q.2) aE [] [] rfl own_pd4 rfl rfl rfl (Nat.le_of_ble_eq_true rfl) (by decide) (by decide) (by decide +kernel) ?_
  rintro T1642 h1643 v1644 L1645 S1646 ⟨⟨rfl, e1641⟩, -⟩
  rw [e1641] at S1646; clear e1641
  show own_Go p e below _ T1642 (mkF m 19 #[.val (.ref x), .val (.ref a), .val .null, .val (.ref b), .val (.int 1)] [(.int 1)])
  refine own_if C S1646 (q := .eq) (o := 22) (by decide +kernel) 41 (by decide) (by decide) (fun (hq : (1 : Int32) = (0 : Int32)) => False.elim (absurd hq (by decide))) (fun (q1647 : ¬ (1 : Int32) = (0 : Int32)) => ?_)
  refine own_seg C S1646 [(22, .aload_n 0, 1), (23, .iconst 0, 1)] (by decide +kernel) 24 #[.val (.ref x), .val (.ref a), .val .null, .val (.ref b), .val (.int 1)] [(.int 0), (.ref x)] rfl ?_
  refine own_putF C S1646 (ty := .byte) (host := "") (Or.inl (own_wd hw 26 rfl)) Via.refl xC xE (Or.inr ⟨(own_wd hw 27 rfl), rfl, rfl⟩) (own_wd hw 12 rfl) own_fd1 rfl rfl ge_x (by decide +kernel) ?_
  intro T1648 h1650 S1649 W1651
  have f1652 : Fld Z h1650 x "java/lang/String" "coder" "B" (.int 0) := Fld.same W1651 xC
  refine own_seg C S1649 [(27, .aload_n 0, 1), (28, .aload_n 3, 1), (29, .iconst 0, 1), (30, .iload 4, 2)] (by decide +kernel) 32 #[.val (.ref x), .val (.ref a), .val .null, .val (.ref b), .val (.int 1)] [(.int 1), (.int 0), (.ref b), (.ref x)] rfl ?_
  have f1653 := (bK.other W1651 ne_b_x)
  have f1654 := (Exa.wr W1651 bE)
  have f1655 : n0 ≤ h1650.size := (by rw [W1651.size]; exact z0)
  refine own_callS C S1649 (own_wd hw 216 rfl) (own_wd hw 217 rfl) (own_wd hw 183 rfl) (own_wd hw 218 rfl) (by decide) (own_Met.pay (own_corC1 l Z a0 hw b _ u0 h1650 n0 f1655 f1653 f1654) C 1 (own_wd hw 218 rfl) (own_wd hw 183 rfl) (by decide) (by decide)) (fun _ _ _ q => q.2) [(.ref b), (.int 0), (.int 1)] [(.ref x)] rfl own_pd25 rfl rfl rfl (Nat.le_of_ble_eq_true rfl) (by decide) (by decide) (by decide +kernel) ?_
  rintro T1662 h1663 v1664 L1665 S1666 ⟨⟨a1656, k1657, rfl, g1658, K1659, f1660, f1661⟩, -⟩
  show own_Go p e below _ T1662 (mkF m 35 #[.val (.ref x), .val (.ref a), .val .null, .val (.ref b), .val (.int 1)] [(.ref a1656), (.ref x)])
  have f1667 := ((Fld.other W1651 xV (Or.inr (own_sn1 hw))).keep K1659 nin0)
  have f1668 := ((Exa.wr W1651 xE).keep K1659)
  refine own_putF C S1666 (ty := (.array .byte)) (host := "") (Or.inl (own_wd hw 24 rfl)) Via.refl f1667 f1668 (Or.inr ⟨(own_wd hw 25 rfl), rfl, rfl⟩) (own_wd hw 12 rfl) own_fd0 rfl rfl ge_x (by decide +kernel) ?_
  intro T1669 h1671 S1670 W1672
  have f1673 : Fld Z h1671 x "java/lang/String" "value" "[B" (.ref a1656) := Fld.same W1672 f1667
  refine own_seg C S1670 [(38, .goto 59, 3)] (by decide +kernel) 97 #[.val (.ref x), .val (.ref a), .val .null, .val (.ref b), .val (.int 1)] [] rfl ?_
  refine own_retV C S1670 (by decide +kernel) (by decide) (by decide) ?_
  have o1675 : h0.size ≤ h1650.size := (by rw [W1651.size]; exact (Nat.le_refl _))
  have o1674 : h0.size ≤ a1656 := Nat.le_trans o1675 g1658
  have f1676 := (Exa.wr W1672 f1668)
  have f1677 := (Fld.other W1672 (f1652.keep K1659 nin0) (Or.inr (own_sn0 hw)))
  have f1678 : x < h1650.size := (by rw [W1651.size]; exact xC.lt)
  have n1679 : x ≠ a1656 := Nat.ne_of_lt (Nat.lt_of_lt_of_le f1678 g1658)
  have f1680 := (f1660.other W1672 (Ne.symm n1679))
  exact ⟨a1656, k1657, rfl, o1674, ((((Keep.refl _ _).wr W1651 (Or.inl (List.mem_of_getElem? (i := 0) rfl))).trans K1659 all0).wr W1672 (Or.inl (List.mem_of_getElem? (i := 0) rfl))), f1676, f1677, f1673, f1680⟩
theorem own_sib2C1 (l : Launch) (Z : State) (a0 : Array Value) (hw : ∀ d ∈ tables_1, d.before a0 Z = true) (G1 : Int32) (G3 : Value) (x : Addr) (a : Addr) (b : Addr) (bk : ClassId) (u0 : Int32) (h0 : Heap) (n0 : Nat) (z0 : n0 ≤ h0.size) (ge_x : n0 ≤ x) (X00 : Old Z n0 h0) (xE : Exa Z h0 x "java/lang/String") (xV : Fld Z h0 x "java/lang/String" "value" "[B" .null) (xC : Fld Z h0 x "java/lang/String" "coder" "B" (.int 0)) (aE : Exa Z h0 a "java/lang/StringBuilder") (aV : Fld Z h0 a "java/lang/AbstractStringBuilder" "value" "[B" (.ref b)) (aC : Fld Z h0 a "java/lang/AbstractStringBuilder" "coder" "B" (.int 0)) (aN : Fld Z h0 a "java/lang/AbstractStringBuilder" "count" "I" (.int 1)) (bK : Arv Z h0 b bk .byte (1 : Int32) ([(.int u0)]) (.int 0)) (bE : Exa Z h0 b "[B") (ne_a_x : a ≠ x) (ne_b_x : b ≠ x) (O2 : Sta Z Z.heap "java/lang/String" "COMPACT_STRINGS" "Z" (.int G1)) (O4 : Sta Z Z.heap "jdk/internal/util/Preconditions" "SIOOBE_FORMATTER" "Ljava/util/function/BiFunction;" G3) (P5 : ¬ G1 = (0 : Int32)) (rG3 : G3.isRef = true) :
    own_Met l Z (⟨"java/lang/String", "<init>", "(Ljava/lang/StringBuilder;)V"⟩ : MethodName) jdk_42_method_53_code 2 none ({ frames := 3, cells := 1, slots := 1, locals := 45 } : Room) n0 #[(.ref x), (.ref a)] h0 (fun v h => ∃ r : Addr, ∃ rk : ClassId, v = none ∧ h0.size ≤ r ∧ Keep h0 h [x] ∧ Exa Z h x "java/lang/String" ∧ Fld Z h x "java/lang/String" "coder" "B" (.int 0) ∧ Fld Z h x "java/lang/String" "value" "[B" (.ref r) ∧ Arv Z h r rk .byte (1 : Int32) ([(.int u0)]) (.int 0)) := by
  refine own_met (by decide +kernel) #[.val (.ref x), .val (.ref a)] (fun m => by first | (simp [entryFrame, mkF, argsToLocals, Value.category]; done) | rfl) ?_
  intro p e s m below meth c T0 C S0
  refine own_seg C S0 [(0, .aload_n 0, 1), (1, .aload_n 1, 1), (2, .aconst_null, 1)] (by decide +kernel) 3 #[.val (.ref x), .val (.ref a)] [.null, (.ref a), (.ref x)] rfl ?_
  refine own_callI C S0 rfl (own_wd hw 199 rfl) (own_wd hw 200 rfl) (own_wd hw 201 rfl) (by decide) (own_Met.pay (own_sibC1 l Z a0 hw G1 G3 x a _ _ u0 h0 n0 z0 ge_x X00 xE xV xC aE aV aC aN bK bE ne_a_x ne_b_x O2 O4 P5 rG3) C 0 (own_wd hw 201 rfl) (own_wd hw 4 rfl) (by decide) (by decide)) (fun _ _ _ q => q.2) [(.ref a), .null] [] rfl own_pd27 rfl rfl rfl (Nat.le_of_ble_eq_true rfl) (by decide) (by decide) (by decide +kernel) ?_
  rintro T1689 h1690 v1691 L1692 S1693 ⟨⟨a1681, k1682, rfl, g1683, K1684, f1685, f1686, f1687, f1688⟩, -⟩
  show own_Go p e below _ T1689 (mkF m 6 #[.val (.ref x), .val (.ref a)] [])
  refine own_retV C S1693 (by decide +kernel) (by decide) (by decide) ?_
  have o1694 : h0.size ≤ a1681 := Nat.le_trans (Nat.le_refl _) g1683
  exact ⟨a1681, k1682, rfl, o1694, ((Keep.refl _ _).trans K1684 (allS (Or.inl (List.mem_of_getElem? (i := 0) rfl)) all0)), f1685, f1686, f1687, f1688⟩
theorem own_tsC1 (l : Launch) (Z : State) (a0 : Array Value) (hw : ∀ d ∈ tables_1, d.before a0 Z = true) (G1 : Int32) (G3 : Value) (a : Addr) (b : Addr) (bk : ClassId) (u0 : Int32) (h0 : Heap) (n0 : Nat) (z0 : n0 ≤ h0.size) (X00 : Old Z n0 h0) (aE : Exa Z h0 a "java/lang/StringBuilder") (aV : Fld Z h0 a "java/lang/AbstractStringBuilder" "value" "[B" (.ref b)) (aC : Fld Z h0 a "java/lang/AbstractStringBuilder" "coder" "B" (.int 0)) (aN : Fld Z h0 a "java/lang/AbstractStringBuilder" "count" "I" (.int 1)) (bK : Arv Z h0 b bk .byte (1 : Int32) ([(.int u0)]) (.int 0)) (bE : Exa Z h0 b "[B") (O2 : Sta Z Z.heap "java/lang/String" "COMPACT_STRINGS" "Z" (.int G1)) (O4 : Sta Z Z.heap "jdk/internal/util/Preconditions" "SIOOBE_FORMATTER" "Ljava/util/function/BiFunction;" G3) (P5 : ¬ G1 = (0 : Int32)) (rG3 : G3.isRef = true) :
    own_Met l Z (⟨"java/lang/StringBuilder", "toString", "()Ljava/lang/String;"⟩ : MethodName) jdk_67_method_42_code 1 (some (.object "java/lang/String")) ({ frames := 4, cells := 2, slots := 5, locals := 59 } : Room) n0 #[(.ref a)] h0 (fun v h => ∃ x : Addr, ∃ r : Addr, ∃ rk : ClassId, v = some (.ref x) ∧ h0.size ≤ x ∧ h0.size ≤ r ∧ Keep h0 h [] ∧ Exa Z h x "java/lang/String" ∧ Fld Z h x "java/lang/String" "coder" "B" (.int 0) ∧ Fld Z h x "java/lang/String" "value" "[B" (.ref r) ∧ Arv Z h r rk .byte (1 : Int32) ([(.int u0)]) (.int 0)) := by
  refine own_met (by decide +kernel) #[.val (.ref a)] (fun m => by first | (simp [entryFrame, mkF, argsToLocals, Value.category]; done) | rfl) ?_
  intro p e s m below meth c T0 C S0
  refine own_new C S0 (own_wd hw 195 rfl) (own_wd hw 12 rfl) (own_wd hw 4 rfl) (by decide +kernel) (by decide) (by decide) ?_
  intro T1695 h1697 a1698 S1696 g1699 E1700 x1701 D1702
  have f1703 : Fld Z h1697 a1698 "java/lang/String" "value" "[B" .null := D1702 (ty := (.array .byte)) (Or.inr (own_wd hw 25 rfl)) own_fd0
  have f1704 : Fld Z h1697 a1698 "java/lang/String" "coder" "B" (.int 0) := D1702 (ty := .byte) (Or.inr (own_wd hw 27 rfl)) own_fd1
  refine own_seg C S1696 [(3, .dup, 1), (4, .aload_n 0, 1)] (by decide +kernel) 5 #[.val (.ref a)] [(.ref a), (.ref a1698), (.ref a1698)] rfl ?_
  have f1705 := (X00.ext E1700)
  have f1706 := (Exa.ext E1700 aE)
  have f1707 := (Fld.ext E1700 aV)
  have f1708 := (Fld.ext E1700 aC)
  have f1709 := (Fld.ext E1700 aN)
  have f1710 := (bK.ext E1700)
  have f1711 := (Exa.ext E1700 bE)
  have f1712 : n0 ≤ h1697.size := (Nat.le_trans z0 E1700.1)
  have g1713 : n0 ≤ a1698 := by rw [g1699]; exact z0
  have n1714 : a ≠ a1698 := by rw [g1699]; exact Nat.ne_of_lt aE.lt
  have n1715 : b ≠ a1698 := by rw [g1699]; exact Nat.ne_of_lt bK.lt
  refine own_callI C S1696 rfl (own_wd hw 196 rfl) (own_wd hw 197 rfl) (own_wd hw 198 rfl) (by decide) (own_Met.pay (own_sib2C1 l Z a0 hw G1 G3 a1698 a _ _ u0 h1697 n0 f1712 g1713 f1705 x1701 f1703 f1704 f1706 f1707 f1708 f1709 f1710 f1711 n1714 n1715 O2 O4 P5 rG3) C 1 (own_wd hw 198 rfl) (own_wd hw 4 rfl) (by decide) (by decide)) (fun _ _ _ q => q.2) [(.ref a)] [(.ref a1698)] rfl own_pd28 rfl rfl rfl (Nat.le_of_ble_eq_true rfl) (by decide) (by decide) (by decide +kernel) ?_
  rintro T1724 h1725 v1726 L1727 S1728 ⟨⟨a1716, k1717, rfl, g1718, K1719, f1720, f1721, f1722, f1723⟩, -⟩
  show own_Go p e below _ T1724 (mkF m 8 #[.val (.ref a)] [(.ref a1698)])
  refine own_retA C S1728 rfl rfl (by decide +kernel) (by decide) (by decide) ?_
  have o1729 : h0.size ≤ a1698 := by rw [g1699]; exact (Nat.le_refl _)
  have o1731 : h0.size ≤ h1697.size := (Nat.le_trans (Nat.le_refl _) E1700.1)
  have o1730 : h0.size ≤ a1716 := Nat.le_trans o1731 g1718
  exact ⟨a1698, a1716, k1717, rfl, o1729, o1730, (((Keep.refl _ _).ext E1700).trans K1719 (allS (Or.inr o1729) all0)), f1720, f1721, f1722, f1723⟩
abbrev own_lv0 : List Value := [(.int 45), (.int 46), (.int 95), (.int 126), (.int 33), (.int 36), (.int 38), (.int 39), (.int 40), (.int 41), (.int 42), (.int 43), (.int 44), (.int 59), (.int 61), (.int 58), (.int 64)]
theorem own_ipc (l : Launch) (Z : State) (a0 : Array Value) (hw : ∀ d ∈ tables_1, d.before a0 Z = true) (hEL : EW Z a0 own_EL) (wS : ∀ a ∈ Bundle.stringAtoms, a.before a0 Z = true) (G1 : Int32) (G3 : Value) (U8 : Addr) (k : Int32) (h0 : Heap) (n0 : Nat) (z0 : n0 ≤ h0.size) (X00 : Old Z n0 h0) (O2 : Sta Z Z.heap "java/lang/String" "COMPACT_STRINGS" "Z" (.int G1)) (O4 : Sta Z Z.heap "jdk/internal/util/Preconditions" "SIOOBE_FORMATTER" "Ljava/util/function/BiFunction;" G3) (P5 : ¬ G1 = (0 : Int32)) (rG3 : G3.isRef = true) (OU1 : Sta Z Z.heap "java/nio/charset/StandardCharsets" "UTF_8" "Ljava/nio/charset/Charset;" (.ref U8)) (OU2 : Sta Z Z.heap "sun/nio/cs/UTF_8" "INSTANCE" "Lsun/nio/cs/UTF_8;" (.ref U8)) (OA : Sta Z Z.heap "java/lang/StringUTF16" "$assertionsDisabled" "Z" (.int 1)) (OH : Sta Z Z.heap "java/lang/StringUTF16" "HI_BYTE_SHIFT" "I" (.int 0)) (OL : Sta Z Z.heap "java/lang/StringUTF16" "LO_BYTE_SHIFT" "I" (.int 8)) (kr : ¬ k < 0 ∧ ¬ (255 : Int32) < k) :
    own_MetW l Z own_EL (⟨"com/example/exact_rest/exactrest/PathSegments", "isPathCharacter", "(C)Z"⟩ : MethodName) prog_13_method_4_code 1 (some .boolean) ({ frames := 4, cells := 2, slots := 72, locals := 59 } : Room) n0 #[(.int k)] h0 [] (fun v h => ∃ r : Int32, v = some (.int r) ∧ Keep h0 h [] ∧ (own_PC r k)) := by
  refine own_metW hEL wS (by decide +kernel) #[.val (.int k)] (fun m => by first | (simp [entryFrame, mkF, argsToLocals, Value.category]; done) | rfl) ?_
  intro p e s m below meth c T0 CW SW0
  refine own_lift CW SW0 ?_
  intro vm1732 C S1733 rb1734
  have J36 : ∀ (T1735 : State), own_S p l e ({ frames := 4, cells := 2, slots := 72, locals := 59 } : Room) (s.setVm vm1732) m #[(.int k)] below meth c n0 T1735 h0 0 0 → ¬ (¬ k < 97 ∧ ¬ 122 < k) → ¬ (¬ k < 65 ∧ ¬ 90 < k) → ¬ (¬ k < 48 ∧ ¬ 57 < k) → own_Go p e below (own_EnW s n0 Z own_EL (fun v h => ∃ r : Int32, v = some (.int r) ∧ Keep h0 h [] ∧ (own_PC r k)) ({ frames := 4, cells := 2, slots := 72, locals := 59 } : Room).cells ({ frames := 4, cells := 2, slots := 72, locals := 59 } : Room).slots) T1735 (mkF m 36 #[.val (.int k)] []) := by
    intro T1735 S1736 n1 n2 n3
    have SW1737 := rb1734 _ _ _ _ [] [] S1736 (Keep.refl _ _) all0 all0
    refine own_ldcWE CW SW1737 (own_wd hw 94 rfl) (List.mem_of_getElem? (i := 1) rfl) (z := (17 : Int32)) (vs := own_lv0) ⟨by decide, by decide⟩ (by decide) rfl (by decide +kernel) 68 (by decide) (by decide) (by decide) (by decide) ?_
    intro T1738 h1739 a1740 b1741 k1742 SW1743 E1744 x1745 f1746 f1747 f1748 ne1749 x1750
    have hp1751 : ∀ c ∈ ([45, 46, 95, 126, 33, 36, 38, 39, 40, 41, 42, 43, 44, 59, 61, 58, 64] : List Int32), ¬ c < 0 ∧ ¬ (255 : Int32) < c := by decide
    have hcd1752 : StrChars.Road.CodA ([45, 46, 95, 126, 33, 36, 38, 39, 40, 41, 42, 43, 44, 59, 61, 58, 64] : List Int32) 0 (17 : Int32) own_lv0 := StrChars.Road.codOf (cs := ([45, 46, 95, 126, 33, 36, 38, 39, 40, 41, 42, 43, 44, 59, 61, 58, 64] : List Int32)) (n := 17) rfl (fun c hc => (hp1751 c hc).2)
    refine own_lift CW SW1743 ?_
    intro vm1753 C S1754 rb1755
    refine own_seg C S1754 [(38, .iload_n 0, 1)] (by decide +kernel) 39 #[.val (.int k)] [(.int k), (.ref a1740)] rfl ?_
    have f1756 := (X00.ext E1744)
    have f1757 : n0 ≤ h1739.size := (Nat.le_trans z0 E1744.1)
    refine own_callV C S1754 (own_wd hw 97 rfl) (own_wd hw 98 rfl) (own_wd hw 100 rfl) (own_wd hw 100 rfl) rfl (own_wd hw 99 rfl) (by decide) (own_Met.pay (own_io l Z a0 hw G1 G3 a1740 _ _ _ _ ([45, 46, 95, 126, 33, 36, 38, 39, 40, 41, 42, 43, 44, 59, 61, 58, 64] : List Int32) k h1739 n0 f1757 f1756 x1745 f1747 f1746 f1748 O2 O4 P5 rG3 hcd1752 hp1751 (Nat.le_of_ble_eq_true rfl) kr) C 0 (own_wd hw 101 rfl) (own_wd hw 4 rfl) (by decide) (by decide)) (fun _ _ _ q => q.2) x1745 [(.int k)] [] rfl own_pd16 rfl rfl rfl (Nat.le_of_ble_eq_true rfl) (by decide) (by decide) (by decide +kernel) ?_
    rintro T1761 h1762 v1763 L1764 S1765 ⟨⟨y1758, rfl, e1759, p1760⟩, -⟩
    rw [e1759] at S1765; clear e1759
    show own_Go p e below _ T1761 (mkF m 42 #[.val (.int k)] [(.int y1758)])
    refine own_if C S1765 (q := .lt) (o := 7) (by decide +kernel) 49 (by decide) (by decide) (fun (q1766 : y1758 < (0 : Int32)) => ?_) (fun (q1767 : ¬ y1758 < (0 : Int32)) => ?_)
    · refine own_seg C S1765 [(49, .iconst 0, 1)] (by decide +kernel) 50 #[.val (.int k)] [(.int 0)] rfl ?_
      have SW1768 := rb1755 _ _ _ _ [] [] S1765 (Keep.refl _ _) all0 all0
      refine own_retZW CW SW1768 (by decide +kernel) (by decide) (by decide) (by decide) ?_
      exact ⟨(0 : Int32), rfl, ((Keep.refl _ _).ext E1744), Or.inr ⟨rfl, fun q => q.elim n1 (fun q => q.elim n2 (fun q => q.elim n3 (fun q => p1760.yes q q1766)))⟩⟩
    · refine own_seg C S1765 [(45, .iconst 1, 1), (46, .goto 4, 3)] (by decide +kernel) 50 #[.val (.int k)] [(.int 1)] rfl ?_
      have SW1769 := rb1755 _ _ _ _ [] [] S1765 (Keep.refl _ _) all0 all0
      refine own_retZW CW SW1769 (by decide +kernel) (by decide) (by decide) (by decide) ?_
      exact ⟨(1 : Int32), rfl, ((Keep.refl _ _).ext E1744), Or.inl ⟨rfl, Or.inr (Or.inr (Or.inr (p1760.mem q1767)))⟩⟩
  have J24 : ∀ (T1770 : State), own_S p l e ({ frames := 4, cells := 2, slots := 72, locals := 59 } : Room) (s.setVm vm1732) m #[(.int k)] below meth c n0 T1770 h0 0 0 → ¬ (¬ k < 97 ∧ ¬ 122 < k) → ¬ (¬ k < 65 ∧ ¬ 90 < k) → own_Go p e below (own_EnW s n0 Z own_EL (fun v h => ∃ r : Int32, v = some (.int r) ∧ Keep h0 h [] ∧ (own_PC r k)) ({ frames := 4, cells := 2, slots := 72, locals := 59 } : Room).cells ({ frames := 4, cells := 2, slots := 72, locals := 59 } : Room).slots) T1770 (mkF m 24 #[.val (.int k)] []) := by
    intro T1770 S1771 n1 n2
    refine own_seg C S1771 [(24, .iload_n 0, 1), (25, .bipush 48, 2)] (by decide +kernel) 27 #[.val (.int k)] [(.int 48), (.int k)] rfl ?_
    refine own_icmp C S1771 (q := .lt) (o := 9) (by decide +kernel) 36 (by decide) (by decide) (fun (q1772 : k < (48 : Int32)) => ?_) (fun (q1773 : ¬ k < (48 : Int32)) => ?_)
    · exact J36 T1770 S1771 n1 n2 (fun q => q.1 q1772)
    · refine own_seg C S1771 [(30, .iload_n 0, 1), (31, .bipush 57, 2)] (by decide +kernel) 33 #[.val (.int k)] [(.int 57), (.int k)] rfl ?_
      refine own_icmp C S1771 (q := .le) (o := 12) (by decide +kernel) 45 (by decide) (by decide) (fun (q1774 : ¬ (57 : Int32) < k) => ?_) (fun (q1775 : (57 : Int32) < k) => ?_)
      · refine own_seg C S1771 [(45, .iconst 1, 1), (46, .goto 4, 3)] (by decide +kernel) 50 #[.val (.int k)] [(.int 1)] rfl ?_
        have SW1776 := rb1734 _ _ _ _ [] [] S1771 (Keep.refl _ _) all0 all0
        refine own_retZW CW SW1776 (by decide +kernel) (by decide) (by decide) (by decide) ?_
        exact ⟨(1 : Int32), rfl, (Keep.refl _ _), Or.inl ⟨rfl, Or.inr (Or.inr (Or.inl ⟨q1773, q1774⟩))⟩⟩
      · exact J36 T1770 S1771 n1 n2 (fun z => z.2 q1775)
  have J12 : ∀ (T1777 : State), own_S p l e ({ frames := 4, cells := 2, slots := 72, locals := 59 } : Room) (s.setVm vm1732) m #[(.int k)] below meth c n0 T1777 h0 0 0 → ¬ (¬ k < 97 ∧ ¬ 122 < k) → own_Go p e below (own_EnW s n0 Z own_EL (fun v h => ∃ r : Int32, v = some (.int r) ∧ Keep h0 h [] ∧ (own_PC r k)) ({ frames := 4, cells := 2, slots := 72, locals := 59 } : Room).cells ({ frames := 4, cells := 2, slots := 72, locals := 59 } : Room).slots) T1777 (mkF m 12 #[.val (.int k)] []) := by
    intro T1777 S1778 n1
    refine own_seg C S1778 [(12, .iload_n 0, 1), (13, .bipush 65, 2)] (by decide +kernel) 15 #[.val (.int k)] [(.int 65), (.int k)] rfl ?_
    refine own_icmp C S1778 (q := .lt) (o := 9) (by decide +kernel) 24 (by decide) (by decide) (fun (q1779 : k < (65 : Int32)) => ?_) (fun (q1780 : ¬ k < (65 : Int32)) => ?_)
    · exact J24 T1777 S1778 n1 (fun q => q.1 q1779)
    · refine own_seg C S1778 [(18, .iload_n 0, 1), (19, .bipush 90, 2)] (by decide +kernel) 21 #[.val (.int k)] [(.int 90), (.int k)] rfl ?_
      refine own_icmp C S1778 (q := .le) (o := 24) (by decide +kernel) 45 (by decide) (by decide) (fun (q1781 : ¬ (90 : Int32) < k) => ?_) (fun (q1782 : (90 : Int32) < k) => ?_)
      · refine own_seg C S1778 [(45, .iconst 1, 1), (46, .goto 4, 3)] (by decide +kernel) 50 #[.val (.int k)] [(.int 1)] rfl ?_
        have SW1783 := rb1734 _ _ _ _ [] [] S1778 (Keep.refl _ _) all0 all0
        refine own_retZW CW SW1783 (by decide +kernel) (by decide) (by decide) (by decide) ?_
        exact ⟨(1 : Int32), rfl, (Keep.refl _ _), Or.inl ⟨rfl, Or.inr (Or.inl ⟨q1780, q1781⟩)⟩⟩
      · exact J24 T1777 S1778 n1 (fun z => z.2 q1782)
  refine own_seg C S1733 [(0, .iload_n 0, 1), (1, .bipush 97, 2)] (by decide +kernel) 3 #[.val (.int k)] [(.int 97), (.int k)] rfl ?_
  refine own_icmp C S1733 (q := .lt) (o := 9) (by decide +kernel) 12 (by decide) (by decide) (fun (q1784 : k < (97 : Int32)) => ?_) (fun (q1785 : ¬ k < (97 : Int32)) => ?_)
  · exact J12 T0 S1733  (fun q => q.1 q1784)
  · refine own_seg C S1733 [(6, .iload_n 0, 1), (7, .bipush 122, 2)] (by decide +kernel) 9 #[.val (.int k)] [(.int 122), (.int k)] rfl ?_
    refine own_icmp C S1733 (q := .le) (o := 36) (by decide +kernel) 45 (by decide) (by decide) (fun (q1786 : ¬ (122 : Int32) < k) => ?_) (fun (q1787 : (122 : Int32) < k) => ?_)
    · refine own_seg C S1733 [(45, .iconst 1, 1), (46, .goto 4, 3)] (by decide +kernel) 50 #[.val (.int k)] [(.int 1)] rfl ?_
      have SW1788 := rb1734 _ _ _ _ [] [] S1733 (Keep.refl _ _) all0 all0
      refine own_retZW CW SW1788 (by decide +kernel) (by decide) (by decide) (by decide) ?_
      exact ⟨(1 : Int32), rfl, (Keep.refl _ _), Or.inl ⟨rfl, Or.inl ⟨q1785, q1786⟩⟩⟩
    · exact J12 T0 S1733  (fun z => z.2 q1787)
theorem own_hex (l : Launch) (Z : State) (a0 : Array Value) (hw : ∀ d ∈ tables_1, d.before a0 Z = true) (d : Int32) (h0 : Heap) (n0 : Nat) (z0 : n0 ≤ h0.size) (hd : ¬ d < 0 ∧ ¬ (15 : Int32) < d) :
    own_Met l Z (⟨"com/example/exact_rest/exactrest/PathSegmentsEncodePinLaw", "hex", "(I)C"⟩ : MethodName) method_3_code 1 (some .char) ({ frames := 0, cells := 0, slots := 0, locals := 0 } : Room) n0 #[(.int d)] h0 (fun v h => v = some (.int (own_hx d)) ∧ h = h0) := by
  refine own_met (by decide +kernel) #[.val (.int d)] (fun m => by first | (simp [entryFrame, mkF, argsToLocals, Value.category]; done) | rfl) ?_
  intro p e s m below meth c T0 C S0
  refine own_seg C S0 [(0, .iload_n 0, 1), (1, .bipush 10, 2)] (by decide +kernel) 3 #[.val (.int d)] [(.int 10), (.int d)] rfl ?_
  refine own_icmp C S0 (q := .ge) (o := 9) (by decide +kernel) 12 (by decide) (by decide) (fun (q1789 : ¬ d < (10 : Int32)) => ?_) (fun (q1790 : d < (10 : Int32)) => ?_)
  · refine own_seg C S0 [(12, .bipush 65, 2), (14, .iload_n 0, 1), (15, .iadd, 1), (16, .bipush 10, 2), (18, .isub, 1), (19, .i2c, 1)] (by decide +kernel) 20 #[.val (.int d)] [(.int ((((65 : Int32) + d) - (10 : Int32)).toUInt32.toUInt16.toUInt32.toInt32))] rfl ?_
    rw [show (((65 : Int32) + d) - (10 : Int32)).toUInt32.toUInt16.toUInt32.toInt32 = (own_hx d) from (own_hxD hd).2.2.2 q1789]
    refine own_retC C S0 (by decide +kernel) (own_c16 (own_hxB d)) (by decide) (by decide) ?_
    exact ⟨rfl, rfl⟩
  · refine own_seg C S0 [(6, .bipush 48, 2), (8, .iload_n 0, 1), (9, .iadd, 1), (10, .i2c, 1)] (by decide +kernel) 11 #[.val (.int d)] [(.int (((48 : Int32) + d).toUInt32.toUInt16.toUInt32.toInt32))] rfl ?_
    rw [show ((48 : Int32) + d).toUInt32.toUInt16.toUInt32.toInt32 = (own_hx d) from (own_hxD hd).2.2.1 q1790]
    refine own_retC C S0 (by decide +kernel) (own_c16 (own_hxB d)) (by decide) (by decide) ?_
    exact ⟨rfl, rfl⟩
theorem own_alw (l : Launch) (Z : State) (a0 : Array Value) (hw : ∀ d ∈ tables_1, d.before a0 Z = true) (k : Int32) (h0 : Heap) (n0 : Nat) (z0 : n0 ≤ h0.size) :
    own_Met l Z (⟨"com/example/exact_rest/exactrest/PathSegmentsEncodePinLaw", "allowed", "(I)Z"⟩ : MethodName) method_4_code 1 (some .boolean) ({ frames := 0, cells := 0, slots := 0, locals := 0 } : Room) n0 #[(.int k)] h0 (fun v h => ∃ r : Int32, v = some (.int r) ∧ h = h0 ∧ (own_PC r k)) := by
  refine own_met (by decide +kernel) #[.val (.int k)] (fun m => by first | (simp [entryFrame, mkF, argsToLocals, Value.category]; done) | rfl) ?_
  intro p e s m below meth c T0 C S0
  have J42 : ∀ (T1791 : State), own_S p l e ({ frames := 0, cells := 0, slots := 0, locals := 0 } : Room) s m #[(.int k)] below meth c n0 T1791 h0 0 0 → ¬ (¬ k < 97 ∧ ¬ 122 < k) → ¬ (¬ k < 65 ∧ ¬ 90 < k) → ¬ (¬ k < 48 ∧ ¬ 57 < k) → own_Go p e below (own_En s n0 (fun v h => ∃ r : Int32, v = some (.int r) ∧ h = h0 ∧ (own_PC r k)) ({ frames := 0, cells := 0, slots := 0, locals := 0 } : Room).cells ({ frames := 0, cells := 0, slots := 0, locals := 0 } : Room).slots) T1791 (mkF m 42 #[.val (.int k)] []) := by
    intro T1791 S1792 n1 n2 n3
    refine own_seg C S1792 [(42, .iload_n 0, 1), (43, .bipush 45, 2)] (by decide +kernel) 45 #[.val (.int k)] [(.int 45), (.int k)] rfl ?_
    refine own_icmp C S1792 (q := .eq) (o := 99) (by decide +kernel) 144 (by decide) (by decide) (fun (q1793 : k = (45 : Int32)) => ?_) (fun (q1794 : ¬ k = (45 : Int32)) => ?_)
    · refine own_seg C S1792 [(144, .iconst 1, 1), (145, .goto 4, 3)] (by decide +kernel) 149 #[.val (.int k)] [(.int 1)] rfl ?_
      refine own_retZ C S1792 (by decide +kernel) (by decide) (by decide) (by decide) ?_
      exact ⟨(1 : Int32), rfl, rfl, Or.inl ⟨rfl, Or.inr (Or.inr (Or.inr (by rw [q1793]; decide)))⟩⟩
    · refine own_seg C S1792 [(48, .iload_n 0, 1), (49, .bipush 46, 2)] (by decide +kernel) 51 #[.val (.int k)] [(.int 46), (.int k)] rfl ?_
      refine own_icmp C S1792 (q := .eq) (o := 93) (by decide +kernel) 144 (by decide) (by decide) (fun (q1795 : k = (46 : Int32)) => ?_) (fun (q1796 : ¬ k = (46 : Int32)) => ?_)
      · refine own_seg C S1792 [(144, .iconst 1, 1), (145, .goto 4, 3)] (by decide +kernel) 149 #[.val (.int k)] [(.int 1)] rfl ?_
        refine own_retZ C S1792 (by decide +kernel) (by decide) (by decide) (by decide) ?_
        exact ⟨(1 : Int32), rfl, rfl, Or.inl ⟨rfl, Or.inr (Or.inr (Or.inr (by rw [q1795]; decide)))⟩⟩
      · refine own_seg C S1792 [(54, .iload_n 0, 1), (55, .bipush 95, 2)] (by decide +kernel) 57 #[.val (.int k)] [(.int 95), (.int k)] rfl ?_
        refine own_icmp C S1792 (q := .eq) (o := 87) (by decide +kernel) 144 (by decide) (by decide) (fun (q1797 : k = (95 : Int32)) => ?_) (fun (q1798 : ¬ k = (95 : Int32)) => ?_)
        · refine own_seg C S1792 [(144, .iconst 1, 1), (145, .goto 4, 3)] (by decide +kernel) 149 #[.val (.int k)] [(.int 1)] rfl ?_
          refine own_retZ C S1792 (by decide +kernel) (by decide) (by decide) (by decide) ?_
          exact ⟨(1 : Int32), rfl, rfl, Or.inl ⟨rfl, Or.inr (Or.inr (Or.inr (by rw [q1797]; decide)))⟩⟩
        · refine own_seg C S1792 [(60, .iload_n 0, 1), (61, .bipush 126, 2)] (by decide +kernel) 63 #[.val (.int k)] [(.int 126), (.int k)] rfl ?_
          refine own_icmp C S1792 (q := .eq) (o := 81) (by decide +kernel) 144 (by decide) (by decide) (fun (q1799 : k = (126 : Int32)) => ?_) (fun (q1800 : ¬ k = (126 : Int32)) => ?_)
          · refine own_seg C S1792 [(144, .iconst 1, 1), (145, .goto 4, 3)] (by decide +kernel) 149 #[.val (.int k)] [(.int 1)] rfl ?_
            refine own_retZ C S1792 (by decide +kernel) (by decide) (by decide) (by decide) ?_
            exact ⟨(1 : Int32), rfl, rfl, Or.inl ⟨rfl, Or.inr (Or.inr (Or.inr (by rw [q1799]; decide)))⟩⟩
          · refine own_seg C S1792 [(66, .iload_n 0, 1), (67, .bipush 33, 2)] (by decide +kernel) 69 #[.val (.int k)] [(.int 33), (.int k)] rfl ?_
            refine own_icmp C S1792 (q := .eq) (o := 75) (by decide +kernel) 144 (by decide) (by decide) (fun (q1801 : k = (33 : Int32)) => ?_) (fun (q1802 : ¬ k = (33 : Int32)) => ?_)
            · refine own_seg C S1792 [(144, .iconst 1, 1), (145, .goto 4, 3)] (by decide +kernel) 149 #[.val (.int k)] [(.int 1)] rfl ?_
              refine own_retZ C S1792 (by decide +kernel) (by decide) (by decide) (by decide) ?_
              exact ⟨(1 : Int32), rfl, rfl, Or.inl ⟨rfl, Or.inr (Or.inr (Or.inr (by rw [q1801]; decide)))⟩⟩
            · refine own_seg C S1792 [(72, .iload_n 0, 1), (73, .bipush 36, 2)] (by decide +kernel) 75 #[.val (.int k)] [(.int 36), (.int k)] rfl ?_
              refine own_icmp C S1792 (q := .eq) (o := 69) (by decide +kernel) 144 (by decide) (by decide) (fun (q1803 : k = (36 : Int32)) => ?_) (fun (q1804 : ¬ k = (36 : Int32)) => ?_)
              · refine own_seg C S1792 [(144, .iconst 1, 1), (145, .goto 4, 3)] (by decide +kernel) 149 #[.val (.int k)] [(.int 1)] rfl ?_
                refine own_retZ C S1792 (by decide +kernel) (by decide) (by decide) (by decide) ?_
                exact ⟨(1 : Int32), rfl, rfl, Or.inl ⟨rfl, Or.inr (Or.inr (Or.inr (by rw [q1803]; decide)))⟩⟩
              · refine own_seg C S1792 [(78, .iload_n 0, 1), (79, .bipush 38, 2)] (by decide +kernel) 81 #[.val (.int k)] [(.int 38), (.int k)] rfl ?_
                refine own_icmp C S1792 (q := .eq) (o := 63) (by decide +kernel) 144 (by decide) (by decide) (fun (q1805 : k = (38 : Int32)) => ?_) (fun (q1806 : ¬ k = (38 : Int32)) => ?_)
                · refine own_seg C S1792 [(144, .iconst 1, 1), (145, .goto 4, 3)] (by decide +kernel) 149 #[.val (.int k)] [(.int 1)] rfl ?_
                  refine own_retZ C S1792 (by decide +kernel) (by decide) (by decide) (by decide) ?_
                  exact ⟨(1 : Int32), rfl, rfl, Or.inl ⟨rfl, Or.inr (Or.inr (Or.inr (by rw [q1805]; decide)))⟩⟩
                · refine own_seg C S1792 [(84, .iload_n 0, 1), (85, .bipush 39, 2)] (by decide +kernel) 87 #[.val (.int k)] [(.int 39), (.int k)] rfl ?_
                  refine own_icmp C S1792 (q := .eq) (o := 57) (by decide +kernel) 144 (by decide) (by decide) (fun (q1807 : k = (39 : Int32)) => ?_) (fun (q1808 : ¬ k = (39 : Int32)) => ?_)
                  · refine own_seg C S1792 [(144, .iconst 1, 1), (145, .goto 4, 3)] (by decide +kernel) 149 #[.val (.int k)] [(.int 1)] rfl ?_
                    refine own_retZ C S1792 (by decide +kernel) (by decide) (by decide) (by decide) ?_
                    exact ⟨(1 : Int32), rfl, rfl, Or.inl ⟨rfl, Or.inr (Or.inr (Or.inr (by rw [q1807]; decide)))⟩⟩
                  · refine own_seg C S1792 [(90, .iload_n 0, 1), (91, .bipush 40, 2)] (by decide +kernel) 93 #[.val (.int k)] [(.int 40), (.int k)] rfl ?_
                    refine own_icmp C S1792 (q := .eq) (o := 51) (by decide +kernel) 144 (by decide) (by decide) (fun (q1809 : k = (40 : Int32)) => ?_) (fun (q1810 : ¬ k = (40 : Int32)) => ?_)
                    · refine own_seg C S1792 [(144, .iconst 1, 1), (145, .goto 4, 3)] (by decide +kernel) 149 #[.val (.int k)] [(.int 1)] rfl ?_
                      refine own_retZ C S1792 (by decide +kernel) (by decide) (by decide) (by decide) ?_
                      exact ⟨(1 : Int32), rfl, rfl, Or.inl ⟨rfl, Or.inr (Or.inr (Or.inr (by rw [q1809]; decide)))⟩⟩
                    · refine own_seg C S1792 [(96, .iload_n 0, 1), (97, .bipush 41, 2)] (by decide +kernel) 99 #[.val (.int k)] [(.int 41), (.int k)] rfl ?_
                      refine own_icmp C S1792 (q := .eq) (o := 45) (by decide +kernel) 144 (by decide) (by decide) (fun (q1811 : k = (41 : Int32)) => ?_) (fun (q1812 : ¬ k = (41 : Int32)) => ?_)
                      · refine own_seg C S1792 [(144, .iconst 1, 1), (145, .goto 4, 3)] (by decide +kernel) 149 #[.val (.int k)] [(.int 1)] rfl ?_
                        refine own_retZ C S1792 (by decide +kernel) (by decide) (by decide) (by decide) ?_
                        exact ⟨(1 : Int32), rfl, rfl, Or.inl ⟨rfl, Or.inr (Or.inr (Or.inr (by rw [q1811]; decide)))⟩⟩
                      · refine own_seg C S1792 [(102, .iload_n 0, 1), (103, .bipush 42, 2)] (by decide +kernel) 105 #[.val (.int k)] [(.int 42), (.int k)] rfl ?_
                        refine own_icmp C S1792 (q := .eq) (o := 39) (by decide +kernel) 144 (by decide) (by decide) (fun (q1813 : k = (42 : Int32)) => ?_) (fun (q1814 : ¬ k = (42 : Int32)) => ?_)
                        · refine own_seg C S1792 [(144, .iconst 1, 1), (145, .goto 4, 3)] (by decide +kernel) 149 #[.val (.int k)] [(.int 1)] rfl ?_
                          refine own_retZ C S1792 (by decide +kernel) (by decide) (by decide) (by decide) ?_
                          exact ⟨(1 : Int32), rfl, rfl, Or.inl ⟨rfl, Or.inr (Or.inr (Or.inr (by rw [q1813]; decide)))⟩⟩
                        · refine own_seg C S1792 [(108, .iload_n 0, 1), (109, .bipush 43, 2)] (by decide +kernel) 111 #[.val (.int k)] [(.int 43), (.int k)] rfl ?_
                          refine own_icmp C S1792 (q := .eq) (o := 33) (by decide +kernel) 144 (by decide) (by decide) (fun (q1815 : k = (43 : Int32)) => ?_) (fun (q1816 : ¬ k = (43 : Int32)) => ?_)
                          · refine own_seg C S1792 [(144, .iconst 1, 1), (145, .goto 4, 3)] (by decide +kernel) 149 #[.val (.int k)] [(.int 1)] rfl ?_
                            refine own_retZ C S1792 (by decide +kernel) (by decide) (by decide) (by decide) ?_
                            exact ⟨(1 : Int32), rfl, rfl, Or.inl ⟨rfl, Or.inr (Or.inr (Or.inr (by rw [q1815]; decide)))⟩⟩
                          · refine own_seg C S1792 [(114, .iload_n 0, 1), (115, .bipush 44, 2)] (by decide +kernel) 117 #[.val (.int k)] [(.int 44), (.int k)] rfl ?_
                            refine own_icmp C S1792 (q := .eq) (o := 27) (by decide +kernel) 144 (by decide) (by decide) (fun (q1817 : k = (44 : Int32)) => ?_) (fun (q1818 : ¬ k = (44 : Int32)) => ?_)
                            · refine own_seg C S1792 [(144, .iconst 1, 1), (145, .goto 4, 3)] (by decide +kernel) 149 #[.val (.int k)] [(.int 1)] rfl ?_
                              refine own_retZ C S1792 (by decide +kernel) (by decide) (by decide) (by decide) ?_
                              exact ⟨(1 : Int32), rfl, rfl, Or.inl ⟨rfl, Or.inr (Or.inr (Or.inr (by rw [q1817]; decide)))⟩⟩
                            · refine own_seg C S1792 [(120, .iload_n 0, 1), (121, .bipush 59, 2)] (by decide +kernel) 123 #[.val (.int k)] [(.int 59), (.int k)] rfl ?_
                              refine own_icmp C S1792 (q := .eq) (o := 21) (by decide +kernel) 144 (by decide) (by decide) (fun (q1819 : k = (59 : Int32)) => ?_) (fun (q1820 : ¬ k = (59 : Int32)) => ?_)
                              · refine own_seg C S1792 [(144, .iconst 1, 1), (145, .goto 4, 3)] (by decide +kernel) 149 #[.val (.int k)] [(.int 1)] rfl ?_
                                refine own_retZ C S1792 (by decide +kernel) (by decide) (by decide) (by decide) ?_
                                exact ⟨(1 : Int32), rfl, rfl, Or.inl ⟨rfl, Or.inr (Or.inr (Or.inr (by rw [q1819]; decide)))⟩⟩
                              · refine own_seg C S1792 [(126, .iload_n 0, 1), (127, .bipush 61, 2)] (by decide +kernel) 129 #[.val (.int k)] [(.int 61), (.int k)] rfl ?_
                                refine own_icmp C S1792 (q := .eq) (o := 15) (by decide +kernel) 144 (by decide) (by decide) (fun (q1821 : k = (61 : Int32)) => ?_) (fun (q1822 : ¬ k = (61 : Int32)) => ?_)
                                · refine own_seg C S1792 [(144, .iconst 1, 1), (145, .goto 4, 3)] (by decide +kernel) 149 #[.val (.int k)] [(.int 1)] rfl ?_
                                  refine own_retZ C S1792 (by decide +kernel) (by decide) (by decide) (by decide) ?_
                                  exact ⟨(1 : Int32), rfl, rfl, Or.inl ⟨rfl, Or.inr (Or.inr (Or.inr (by rw [q1821]; decide)))⟩⟩
                                · refine own_seg C S1792 [(132, .iload_n 0, 1), (133, .bipush 58, 2)] (by decide +kernel) 135 #[.val (.int k)] [(.int 58), (.int k)] rfl ?_
                                  refine own_icmp C S1792 (q := .eq) (o := 9) (by decide +kernel) 144 (by decide) (by decide) (fun (q1823 : k = (58 : Int32)) => ?_) (fun (q1824 : ¬ k = (58 : Int32)) => ?_)
                                  · refine own_seg C S1792 [(144, .iconst 1, 1), (145, .goto 4, 3)] (by decide +kernel) 149 #[.val (.int k)] [(.int 1)] rfl ?_
                                    refine own_retZ C S1792 (by decide +kernel) (by decide) (by decide) (by decide) ?_
                                    exact ⟨(1 : Int32), rfl, rfl, Or.inl ⟨rfl, Or.inr (Or.inr (Or.inr (by rw [q1823]; decide)))⟩⟩
                                  · refine own_seg C S1792 [(138, .iload_n 0, 1), (139, .bipush 64, 2)] (by decide +kernel) 141 #[.val (.int k)] [(.int 64), (.int k)] rfl ?_
                                    refine own_icmp C S1792 (q := .ne) (o := 7) (by decide +kernel) 148 (by decide) (by decide) (fun (q1825 : ¬ k = (64 : Int32)) => ?_) (fun (q1826 : k = (64 : Int32)) => ?_)
                                    · refine own_seg C S1792 [(148, .iconst 0, 1)] (by decide +kernel) 149 #[.val (.int k)] [(.int 0)] rfl ?_
                                      refine own_retZ C S1792 (by decide +kernel) (by decide) (by decide) (by decide) ?_
                                      exact ⟨(0 : Int32), rfl, rfl, Or.inr ⟨rfl, fun q => q.elim n1 (fun q => q.elim n2 (fun q => q.elim n3 (fun q => by simp only [List.mem_cons, List.not_mem_nil, or_false] at q; rcases q with q | q | q | q | q | q | q | q | q | q | q | q | q | q | q | q | q <;> contradiction)))⟩⟩
                                    · refine own_seg C S1792 [(144, .iconst 1, 1), (145, .goto 4, 3)] (by decide +kernel) 149 #[.val (.int k)] [(.int 1)] rfl ?_
                                      refine own_retZ C S1792 (by decide +kernel) (by decide) (by decide) (by decide) ?_
                                      exact ⟨(1 : Int32), rfl, rfl, Or.inl ⟨rfl, Or.inr (Or.inr (Or.inr (by rw [q1826]; decide)))⟩⟩
  have J28 : ∀ (T1827 : State), own_S p l e ({ frames := 0, cells := 0, slots := 0, locals := 0 } : Room) s m #[(.int k)] below meth c n0 T1827 h0 0 0 → ¬ (¬ k < 97 ∧ ¬ 122 < k) → ¬ (¬ k < 65 ∧ ¬ 90 < k) → own_Go p e below (own_En s n0 (fun v h => ∃ r : Int32, v = some (.int r) ∧ h = h0 ∧ (own_PC r k)) ({ frames := 0, cells := 0, slots := 0, locals := 0 } : Room).cells ({ frames := 0, cells := 0, slots := 0, locals := 0 } : Room).slots) T1827 (mkF m 28 #[.val (.int k)] []) := by
    intro T1827 S1828 n1 n2
    refine own_seg C S1828 [(28, .iload_n 0, 1), (29, .bipush 48, 2)] (by decide +kernel) 31 #[.val (.int k)] [(.int 48), (.int k)] rfl ?_
    refine own_icmp C S1828 (q := .lt) (o := 11) (by decide +kernel) 42 (by decide) (by decide) (fun (q1829 : k < (48 : Int32)) => ?_) (fun (q1830 : ¬ k < (48 : Int32)) => ?_)
    · exact J42 T1827 S1828 n1 n2 (fun q => q.1 q1829)
    · refine own_seg C S1828 [(34, .iload_n 0, 1), (35, .bipush 57, 2)] (by decide +kernel) 37 #[.val (.int k)] [(.int 57), (.int k)] rfl ?_
      refine own_icmp C S1828 (q := .gt) (o := 5) (by decide +kernel) 42 (by decide) (by decide) (fun (q1831 : (57 : Int32) < k) => ?_) (fun (q1832 : ¬ (57 : Int32) < k) => ?_)
      · exact J42 T1827 S1828 n1 n2 (fun z => z.2 q1831)
      · refine own_seg C S1828 [(40, .iconst 1, 1)] (by decide +kernel) 41 #[.val (.int k)] [(.int 1)] rfl ?_
        refine own_retZ C S1828 (by decide +kernel) (by decide) (by decide) (by decide) ?_
        exact ⟨(1 : Int32), rfl, rfl, Or.inl ⟨rfl, Or.inr (Or.inr (Or.inl ⟨q1830, q1832⟩))⟩⟩
  have J14 : ∀ (T1833 : State), own_S p l e ({ frames := 0, cells := 0, slots := 0, locals := 0 } : Room) s m #[(.int k)] below meth c n0 T1833 h0 0 0 → ¬ (¬ k < 97 ∧ ¬ 122 < k) → own_Go p e below (own_En s n0 (fun v h => ∃ r : Int32, v = some (.int r) ∧ h = h0 ∧ (own_PC r k)) ({ frames := 0, cells := 0, slots := 0, locals := 0 } : Room).cells ({ frames := 0, cells := 0, slots := 0, locals := 0 } : Room).slots) T1833 (mkF m 14 #[.val (.int k)] []) := by
    intro T1833 S1834 n1
    refine own_seg C S1834 [(14, .iload_n 0, 1), (15, .bipush 65, 2)] (by decide +kernel) 17 #[.val (.int k)] [(.int 65), (.int k)] rfl ?_
    refine own_icmp C S1834 (q := .lt) (o := 11) (by decide +kernel) 28 (by decide) (by decide) (fun (q1835 : k < (65 : Int32)) => ?_) (fun (q1836 : ¬ k < (65 : Int32)) => ?_)
    · exact J28 T1833 S1834 n1 (fun q => q.1 q1835)
    · refine own_seg C S1834 [(20, .iload_n 0, 1), (21, .bipush 90, 2)] (by decide +kernel) 23 #[.val (.int k)] [(.int 90), (.int k)] rfl ?_
      refine own_icmp C S1834 (q := .gt) (o := 5) (by decide +kernel) 28 (by decide) (by decide) (fun (q1837 : (90 : Int32) < k) => ?_) (fun (q1838 : ¬ (90 : Int32) < k) => ?_)
      · exact J28 T1833 S1834 n1 (fun z => z.2 q1837)
      · refine own_seg C S1834 [(26, .iconst 1, 1)] (by decide +kernel) 27 #[.val (.int k)] [(.int 1)] rfl ?_
        refine own_retZ C S1834 (by decide +kernel) (by decide) (by decide) (by decide) ?_
        exact ⟨(1 : Int32), rfl, rfl, Or.inl ⟨rfl, Or.inr (Or.inl ⟨q1836, q1838⟩)⟩⟩
  refine own_seg C S0 [(0, .iload_n 0, 1), (1, .bipush 97, 2)] (by decide +kernel) 3 #[.val (.int k)] [(.int 97), (.int k)] rfl ?_
  refine own_icmp C S0 (q := .lt) (o := 11) (by decide +kernel) 14 (by decide) (by decide) (fun (q1839 : k < (97 : Int32)) => ?_) (fun (q1840 : ¬ k < (97 : Int32)) => ?_)
  · exact J14 T0 S0  (fun q => q.1 q1839)
  · refine own_seg C S0 [(6, .iload_n 0, 1), (7, .bipush 122, 2)] (by decide +kernel) 9 #[.val (.int k)] [(.int 122), (.int k)] rfl ?_
    refine own_icmp C S0 (q := .gt) (o := 5) (by decide +kernel) 14 (by decide) (by decide) (fun (q1841 : (122 : Int32) < k) => ?_) (fun (q1842 : ¬ (122 : Int32) < k) => ?_)
    · exact J14 T0 S0  (fun z => z.2 q1841)
    · refine own_seg C S0 [(12, .iconst 1, 1)] (by decide +kernel) 13 #[.val (.int k)] [(.int 1)] rfl ?_
      refine own_retZ C S0 (by decide +kernel) (by decide) (by decide) (by decide) ?_
      exact ⟨(1 : Int32), rfl, rfl, Or.inl ⟨rfl, Or.inl ⟨q1840, q1842⟩⟩⟩
theorem own_pd29 : parseMethodDescriptor "(Ljava/nio/charset/Charset;)[B" = some ⟨[(.object "java/nio/charset/Charset")], (some (.array .byte))⟩ := by decide +kernel
theorem own_pd30 : parseMethodDescriptor "()Ljava/lang/String;" = some ⟨[], (some (.object "java/lang/String"))⟩ := by decide +kernel
theorem own_enc0 (l : Launch) (Z : State) (a0 : Array Value) (hw : ∀ d ∈ tables_1, d.before a0 Z = true) (hEL : EW Z a0 own_EL) (wS : ∀ a ∈ Bundle.stringAtoms, a.before a0 Z = true) (G1 : Int32) (G3 : Value) (U8 : Addr) (x : Addr) (b : Addr) (bk : ClassId) (h0 : Heap) (n0 : Nat) (z0 : n0 ≤ h0.size) (X00 : Old Z n0 h0) (xE : Exa Z h0 x "java/lang/String") (xV : Fld Z h0 x "java/lang/String" "value" "[B" (.ref b)) (xC : Fld Z h0 x "java/lang/String" "coder" "B" (.int 0)) (bK : Arv Z h0 b bk .byte (0 : Int32) ([]) (.int 0)) (bE : Exa Z h0 b "[B") (O2 : Sta Z Z.heap "java/lang/String" "COMPACT_STRINGS" "Z" (.int G1)) (O4 : Sta Z Z.heap "jdk/internal/util/Preconditions" "SIOOBE_FORMATTER" "Ljava/util/function/BiFunction;" G3) (P5 : ¬ G1 = (0 : Int32)) (rG3 : G3.isRef = true) (OU1 : Sta Z Z.heap "java/nio/charset/StandardCharsets" "UTF_8" "Ljava/nio/charset/Charset;" (.ref U8)) (OU2 : Sta Z Z.heap "sun/nio/cs/UTF_8" "INSTANCE" "Lsun/nio/cs/UTF_8;" (.ref U8)) (OA : Sta Z Z.heap "java/lang/StringUTF16" "$assertionsDisabled" "Z" (.int 1)) (OH : Sta Z Z.heap "java/lang/StringUTF16" "HI_BYTE_SHIFT" "I" (.int 0)) (OL : Sta Z Z.heap "java/lang/StringUTF16" "LO_BYTE_SHIFT" "I" (.int 8)) :
    own_MetW l Z own_EL (⟨"com/example/exact_rest/exactrest/PathSegments", "encode", "(Ljava/lang/String;)Ljava/lang/String;"⟩ : MethodName) prog_13_method_3_code 7 (some (.object "java/lang/String")) ({ frames := 5, cells := 5, slots := 8, locals := 77 } : Room) n0 #[(.ref x)] h0 [] (fun v h => ∃ x2 : Addr, ∃ r : Addr, ∃ rk : ClassId, v = some (.ref x2) ∧ h0.size ≤ x2 ∧ h0.size ≤ r ∧ Keep h0 h [] ∧ Exa Z h x2 "java/lang/String" ∧ Fld Z h x2 "java/lang/String" "coder" "B" (.int 0) ∧ Fld Z h x2 "java/lang/String" "value" "[B" (.ref r) ∧ Arv Z h r rk .byte (0 : Int32) ([]) (.int 0)) := by
  refine own_metW hEL wS (by decide +kernel) #[.val (.ref x), .unset, .unset, .unset, .unset, .unset, .unset] (fun m => by first | (simp [entryFrame, mkF, argsToLocals, Value.category]; done) | rfl) ?_
  intro p e s m below meth c T0 CW SW0
  refine own_lift CW SW0 ?_
  intro vm1843 C S1844 rb1845
  refine own_new C S1844 (own_wd hw 32 rfl) (own_wd hw 33 rfl) (own_wd hw 34 rfl) (by decide +kernel) (by decide) (by decide) ?_
  intro T1846 h1848 a1849 S1847 g1850 E1851 x1852 D1853
  have f1854 : Fld Z h1848 a1849 "java/lang/AbstractStringBuilder" "value" "[B" .null := D1853 (ty := (.array .byte)) (Or.inl (own_wd hw 57 rfl)) own_fd0
  have f1855 : Fld Z h1848 a1849 "java/lang/AbstractStringBuilder" "coder" "B" (.int 0) := D1853 (ty := .byte) (Or.inl (own_wd hw 59 rfl)) own_fd1
  have f1856 : Fld Z h1848 a1849 "java/lang/AbstractStringBuilder" "count" "I" (.int 0) := D1853 (ty := .int) (Or.inl (own_wd hw 140 rfl)) own_fd2
  refine own_seg C S1847 [(3, .dup, 1), (4, .aload_n 0, 1)] (by decide +kernel) 5 #[.val (.ref x), .unset, .unset, .unset, .unset, .unset, .unset] [(.ref x), (.ref a1849), (.ref a1849)] rfl ?_
  have f1857 := (X00.ext E1851)
  have f1858 := (Exa.ext E1851 xE)
  have f1859 := (Fld.ext E1851 xV)
  have f1860 := (Fld.ext E1851 xC)
  have f1861 := (bK.ext E1851)
  have f1862 : n0 ≤ h1848.size := (Nat.le_trans z0 E1851.1)
  refine own_callV C S1847 (own_wd hw 35 rfl) (own_wd hw 36 rfl) (own_wd hw 38 rfl) (own_wd hw 38 rfl) rfl (own_wd hw 37 rfl) (by decide) (own_Met.pay (own_len l Z a0 hw G1 G3 x _ _ _ _ _ h1848 n0 f1862 f1857 f1858 f1859 f1860 f1861 O2 O4 P5 rG3 (by decide)) C 2 (own_wd hw 39 rfl) (own_wd hw 4 rfl) (by decide) (by decide)) (fun _ _ _ q => q.2) f1858 [] [(.ref a1849), (.ref a1849)] rfl own_pd5 rfl rfl rfl (Nat.le_of_ble_eq_true rfl) (by decide) (by decide) (by decide +kernel) ?_
  rintro T1864 h1865 v1866 L1867 S1868 ⟨⟨rfl, e1863⟩, -⟩
  rw [e1863] at S1868; clear e1863
  show own_Go p e below _ T1864 (mkF m 8 #[.val (.ref x), .unset, .unset, .unset, .unset, .unset, .unset] [(.int ((0 : Int32) >>> ((0 : Int32) &&& 31))), (.ref a1849), (.ref a1849)])
  show own_Go p e below _ T1864 (mkF m 8 #[.val (.ref x), .unset, .unset, .unset, .unset, .unset, .unset] [(.int 0), (.ref a1849), (.ref a1849)])
  have g1869 : n0 ≤ a1849 := by rw [g1850]; exact z0
  refine own_callI C S1868 rfl (own_wd hw 45 rfl) (own_wd hw 46 rfl) (own_wd hw 47 rfl) (by decide) (own_Met.pay (own_sbI0 l Z a0 hw G1 G3 a1849 h1848 n0 f1862 g1869 f1857 x1852 f1854 f1855 f1856 O2 O4 P5 rG3) C 1 (own_wd hw 47 rfl) (own_wd hw 34 rfl) (by decide) (by decide)) (fun _ _ _ q => q.2) [(.int 0)] [(.ref a1849)] rfl own_pd22 rfl rfl rfl (Nat.le_of_ble_eq_true rfl) (by decide) (by decide) (by decide +kernel) ?_
  rintro T1880 h1881 v1882 L1883 S1884 ⟨⟨a1870, k1871, rfl, g1872, K1873, f1874, f1875, f1876, f1877, f1878, f1879⟩, -⟩
  show own_Go p e below _ T1880 (mkF m 11 #[.val (.ref x), .unset, .unset, .unset, .unset, .unset, .unset] [(.ref a1849)])
  refine own_seg C S1884 [(11, .astore_n 1, 1), (12, .aload_n 0, 1)] (by decide +kernel) 13 #[.val (.ref x), .val (.ref a1849), .unset, .unset, .unset, .unset, .unset] [(.ref x)] rfl ?_
  have f1885 := (f1857.keep K1873 (allS g1869 all0))
  refine own_getS C S1884 (own_wd hw 60 rfl) Via.refl (OU1.ext f1885.2) (by decide +kernel) ?_
  intro T1886 S1887
  have f1888 := (f1858.keep K1873)
  have n1889 : x ≠ a1849 := by rw [g1850]; exact Nat.ne_of_lt xE.lt
  have f1890 := (f1859.keep K1873 (ninS n1889 nin0))
  have f1891 := (f1860.keep K1873 (ninS n1889 nin0))
  have n1892 : b ≠ a1849 := by rw [g1850]; exact Nat.ne_of_lt bK.lt
  have f1893 := (f1861.keep K1873 (ninS n1892 nin0))
  have f1894 := ((Exa.ext E1851 bE).keep K1873)
  have f1895 : n0 ≤ h1881.size := (Nat.le_trans f1862 K1873.1)
  refine own_callV C S1887 (own_wd hw 62 rfl) (own_wd hw 63 rfl) (own_wd hw 65 rfl) (own_wd hw 65 rfl) rfl (own_wd hw 64 rfl) (by decide) (own_Met.pay (own_gb0 l Z a0 hw G1 G3 U8 x _ _ h1881 n0 f1895 f1885 f1888 f1890 f1891 f1893 f1894 O2 O4 P5 rG3 OU1 OU2 OA OH OL) C 0 (own_wd hw 66 rfl) (own_wd hw 4 rfl) (by decide) (by decide)) (fun _ _ _ q => q.2) f1888 [(.ref U8)] [] rfl own_pd29 rfl rfl rfl (Nat.le_of_ble_eq_true rfl) (by decide) (by decide) (by decide +kernel) ?_
  rintro T1902 h1903 v1904 L1905 S1906 ⟨⟨a1896, k1897, rfl, g1898, K1899, f1900, f1901⟩, -⟩
  show own_Go p e below _ T1902 (mkF m 19 #[.val (.ref x), .val (.ref a1849), .unset, .unset, .unset, .unset, .unset] [(.ref a1896)])
  refine own_seg C S1906 [(19, .astore_n 2, 1), (20, .aload_n 2, 1)] (by decide +kernel) 21 #[.val (.ref x), .val (.ref a1849), .val (.ref a1896), .unset, .unset, .unset, .unset] [(.ref a1896)] rfl ?_
  refine own_alen C S1906 f1900 (by decide +kernel) ?_
  refine own_seg C S1906 [(22, .istore_n 3, 1), (23, .iconst 0, 1), (24, .istore 4, 2)] (by decide +kernel) 26 #[.val (.ref x), .val (.ref a1849), .val (.ref a1896), .val (.int 0), .val (.int 0), .unset, .unset] [] rfl ?_
  refine own_seg C S1906 [(26, .iload 4, 2), (28, .iload_n 3, 1)] (by decide +kernel) 29 #[.val (.ref x), .val (.ref a1849), .val (.ref a1896), .val (.int 0), .val (.int 0), .unset, .unset] [(.int 0), (.int 0)] rfl ?_
  refine own_icmp C S1906 (q := .ge) (o := 74) (by decide +kernel) 103 (by decide) (by decide) (fun (q1907 : ¬ (0 : Int32) < (0 : Int32)) => ?_) (fun (hq : (0 : Int32) < (0 : Int32)) => False.elim (by revert hq; decide))
  refine own_seg C S1906 [(103, .aload_n 1, 1)] (by decide +kernel) 104 #[.val (.ref x), .val (.ref a1849), .val (.ref a1896), .val (.int 0), .val (.int 0), .unset, .unset] [(.ref a1849)] rfl ?_
  have f1908 := (f1885.keep K1899 all0)
  have f1909 := (f1874.keep K1899)
  have f1910 := (f1875.keep K1899 nin0)
  have f1911 := (f1876.keep K1899 nin0)
  have f1912 := (f1877.keep K1899 nin0)
  have f1913 := (f1878.keep K1899 nin0)
  have f1914 := (f1879.keep K1899)
  have f1915 : n0 ≤ h1903.size := (Nat.le_trans f1895 K1899.1)
  refine own_callV C S1906 (own_wd hw 190 rfl) (own_wd hw 191 rfl) (own_wd hw 193 rfl) (own_wd hw 193 rfl) rfl (own_wd hw 192 rfl) (by decide) (own_Met.pay (own_tsC0 l Z a0 hw G1 G3 a1849 _ _ h1903 n0 f1915 f1908 f1909 f1910 f1911 f1912 f1913 f1914 O2 O4 P5 rG3) C 0 (own_wd hw 194 rfl) (own_wd hw 34 rfl) (by decide) (by decide)) (fun _ _ _ q => q.2) f1909 [] [] rfl own_pd30 rfl rfl rfl (Nat.le_of_ble_eq_true rfl) (by decide) (by decide) (by decide +kernel) ?_
  rintro T1926 h1927 v1928 L1929 S1930 ⟨⟨a1916, a1917, k1918, rfl, g1919, g1920, K1921, f1922, f1923, f1924, f1925⟩, -⟩
  show own_Go p e below _ T1926 (mkF m 107 #[.val (.ref x), .val (.ref a1849), .val (.ref a1896), .val (.int 0), .val (.int 0), .unset, .unset] [(.ref a1916)])
  have o1931 : h0.size ≤ a1849 := by rw [g1850]; exact (Nat.le_refl _)
  have o1933 : h0.size ≤ h1903.size := (Nat.le_trans (Nat.le_trans (Nat.le_trans (Nat.le_refl _) E1851.1) K1873.1) K1899.1)
  have o1932 : h0.size ≤ a1917 := Nat.le_trans o1933 g1920
  have o1934 : h0.size ≤ a1916 := Nat.le_trans o1933 g1919
  have o1936 : h0.size ≤ h1881.size := (Nat.le_trans (Nat.le_trans (Nat.le_refl _) E1851.1) K1873.1)
  have o1935 : h0.size ≤ a1896 := Nat.le_trans o1936 g1898
  have f1937 : a1896 < h1927.size := (Nat.lt_of_lt_of_le f1900.lt K1921.1)
  have o1939 : h0.size ≤ h1848.size := (Nat.le_trans (Nat.le_refl _) E1851.1)
  have o1938 : h0.size ≤ a1870 := Nat.le_trans o1939 g1872
  have f1940 : a1870 < h1927.size := (Nat.lt_of_lt_of_le (Nat.lt_of_lt_of_le f1878.lt K1899.1) K1921.1)
  have f1941 : a1849 < h1927.size := (Nat.lt_of_lt_of_le (Nat.lt_of_lt_of_le (Nat.lt_of_lt_of_le f1854.lt K1873.1) K1899.1) K1921.1)
  have SW1942 := rb1845 _ _ _ _ [] [a1849, a1870, a1896, a1916, a1917] S1930 (((((Keep.refl _ _).ext E1851).trans K1873 (allS (Or.inr o1931) all0)).trans K1899 all0).trans K1921 all0) all0 (allS ⟨o1931, f1941⟩ (allS ⟨o1938, f1940⟩ (allS ⟨o1935, f1937⟩ (allS ⟨o1934, f1922.lt⟩ (allS ⟨o1932, f1925.lt⟩ all0)))))
  refine own_retAW CW SW1942 rfl rfl (by decide +kernel) (by decide) (by decide) ?_
  exact ⟨a1916, a1917, k1918, rfl, o1934, o1932, (((((Keep.refl _ _).ext E1851).trans K1873 (allS (Or.inr o1931) all0)).trans K1899 all0).trans K1921 all0), f1922, f1923, f1924, f1925⟩
theorem own_pd31 : parseMethodDescriptor "(C)Ljava/lang/StringBuilder;" = some ⟨[.char], (some (.object "java/lang/StringBuilder"))⟩ := by decide +kernel
theorem own_enc1a (l : Launch) (Z : State) (a0 : Array Value) (hw : ∀ d ∈ tables_1, d.before a0 Z = true) (hEL : EW Z a0 own_EL) (wS : ∀ a ∈ Bundle.stringAtoms, a.before a0 Z = true) (G1 : Int32) (G3 : Value) (U8 : Addr) (x : Addr) (b : Addr) (bk : ClassId) (k : Int32) (h0 : Heap) (n0 : Nat) (z0 : n0 ≤ h0.size) (X00 : Old Z n0 h0) (xE : Exa Z h0 x "java/lang/String") (xV : Fld Z h0 x "java/lang/String" "value" "[B" (.ref b)) (xC : Fld Z h0 x "java/lang/String" "coder" "B" (.int 0)) (bK : Arv Z h0 b bk .byte (1 : Int32) ([(.int k.toInt8.toInt32)]) (.int 0)) (bE : Exa Z h0 b "[B") (O2 : Sta Z Z.heap "java/lang/String" "COMPACT_STRINGS" "Z" (.int G1)) (O4 : Sta Z Z.heap "jdk/internal/util/Preconditions" "SIOOBE_FORMATTER" "Ljava/util/function/BiFunction;" G3) (P5 : ¬ G1 = (0 : Int32)) (rG3 : G3.isRef = true) (OU1 : Sta Z Z.heap "java/nio/charset/StandardCharsets" "UTF_8" "Ljava/nio/charset/Charset;" (.ref U8)) (OU2 : Sta Z Z.heap "sun/nio/cs/UTF_8" "INSTANCE" "Lsun/nio/cs/UTF_8;" (.ref U8)) (OA : Sta Z Z.heap "java/lang/StringUTF16" "$assertionsDisabled" "Z" (.int 1)) (OH : Sta Z Z.heap "java/lang/StringUTF16" "HI_BYTE_SHIFT" "I" (.int 0)) (OL : Sta Z Z.heap "java/lang/StringUTF16" "LO_BYTE_SHIFT" "I" (.int 8)) (hb : ¬ k.toInt8.toInt32 < 0) (kr : ¬ k < 0 ∧ ¬ (255 : Int32) < k) (al : own_al k) :
    own_MetW l Z own_EL (⟨"com/example/exact_rest/exactrest/PathSegments", "encode", "(Ljava/lang/String;)Ljava/lang/String;"⟩ : MethodName) prog_13_method_3_code 7 (some (.object "java/lang/String")) ({ frames := 5, cells := 7, slots := 83, locals := 77 } : Room) n0 #[(.ref x)] h0 [] (fun v h => ∃ x2 : Addr, ∃ r : Addr, ∃ rk : ClassId, v = some (.ref x2) ∧ h0.size ≤ x2 ∧ h0.size ≤ r ∧ Keep h0 h [] ∧ Exa Z h x2 "java/lang/String" ∧ Fld Z h x2 "java/lang/String" "coder" "B" (.int 0) ∧ Fld Z h x2 "java/lang/String" "value" "[B" (.ref r) ∧ Arv Z h r rk .byte (1 : Int32) ([(.int k.toInt8.toInt32)]) (.int 0)) := by
  refine own_metW hEL wS (by decide +kernel) #[.val (.ref x), .unset, .unset, .unset, .unset, .unset, .unset] (fun m => by first | (simp [entryFrame, mkF, argsToLocals, Value.category]; done) | rfl) ?_
  intro p e s m below meth c T0 CW SW0
  refine own_lift CW SW0 ?_
  intro vm1943 C S1944 rb1945
  refine own_new C S1944 (own_wd hw 32 rfl) (own_wd hw 33 rfl) (own_wd hw 34 rfl) (by decide +kernel) (by decide) (by decide) ?_
  intro T1946 h1948 a1949 S1947 g1950 E1951 x1952 D1953
  have f1954 : Fld Z h1948 a1949 "java/lang/AbstractStringBuilder" "value" "[B" .null := D1953 (ty := (.array .byte)) (Or.inl (own_wd hw 57 rfl)) own_fd0
  have f1955 : Fld Z h1948 a1949 "java/lang/AbstractStringBuilder" "coder" "B" (.int 0) := D1953 (ty := .byte) (Or.inl (own_wd hw 59 rfl)) own_fd1
  have f1956 : Fld Z h1948 a1949 "java/lang/AbstractStringBuilder" "count" "I" (.int 0) := D1953 (ty := .int) (Or.inl (own_wd hw 140 rfl)) own_fd2
  refine own_seg C S1947 [(3, .dup, 1), (4, .aload_n 0, 1)] (by decide +kernel) 5 #[.val (.ref x), .unset, .unset, .unset, .unset, .unset, .unset] [(.ref x), (.ref a1949), (.ref a1949)] rfl ?_
  have f1957 := (X00.ext E1951)
  have f1958 := (Exa.ext E1951 xE)
  have f1959 := (Fld.ext E1951 xV)
  have f1960 := (Fld.ext E1951 xC)
  have f1961 := (bK.ext E1951)
  have f1962 : n0 ≤ h1948.size := (Nat.le_trans z0 E1951.1)
  refine own_callV C S1947 (own_wd hw 35 rfl) (own_wd hw 36 rfl) (own_wd hw 38 rfl) (own_wd hw 38 rfl) rfl (own_wd hw 37 rfl) (by decide) (own_Met.pay (own_len l Z a0 hw G1 G3 x _ _ _ _ _ h1948 n0 f1962 f1957 f1958 f1959 f1960 f1961 O2 O4 P5 rG3 (by decide)) C 2 (own_wd hw 39 rfl) (own_wd hw 4 rfl) (by decide) (by decide)) (fun _ _ _ q => q.2) f1958 [] [(.ref a1949), (.ref a1949)] rfl own_pd5 rfl rfl rfl (Nat.le_of_ble_eq_true rfl) (by decide) (by decide) (by decide +kernel) ?_
  rintro T1964 h1965 v1966 L1967 S1968 ⟨⟨rfl, e1963⟩, -⟩
  rw [e1963] at S1968; clear e1963
  show own_Go p e below _ T1964 (mkF m 8 #[.val (.ref x), .unset, .unset, .unset, .unset, .unset, .unset] [(.int ((1 : Int32) >>> ((0 : Int32) &&& 31))), (.ref a1949), (.ref a1949)])
  show own_Go p e below _ T1964 (mkF m 8 #[.val (.ref x), .unset, .unset, .unset, .unset, .unset, .unset] [(.int 1), (.ref a1949), (.ref a1949)])
  have g1969 : n0 ≤ a1949 := by rw [g1950]; exact z0
  refine own_callI C S1968 rfl (own_wd hw 45 rfl) (own_wd hw 46 rfl) (own_wd hw 47 rfl) (by decide) (own_Met.pay (own_sbI1 l Z a0 hw G1 G3 a1949 h1948 n0 f1962 g1969 f1957 x1952 f1954 f1955 f1956 O2 O4 P5 rG3) C 1 (own_wd hw 47 rfl) (own_wd hw 34 rfl) (by decide) (by decide)) (fun _ _ _ q => q.2) [(.int 1)] [(.ref a1949)] rfl own_pd22 rfl rfl rfl (Nat.le_of_ble_eq_true rfl) (by decide) (by decide) (by decide +kernel) ?_
  rintro T1980 h1981 v1982 L1983 S1984 ⟨⟨a1970, k1971, rfl, g1972, K1973, f1974, f1975, f1976, f1977, f1978, f1979⟩, -⟩
  show own_Go p e below _ T1980 (mkF m 11 #[.val (.ref x), .unset, .unset, .unset, .unset, .unset, .unset] [(.ref a1949)])
  refine own_seg C S1984 [(11, .astore_n 1, 1), (12, .aload_n 0, 1)] (by decide +kernel) 13 #[.val (.ref x), .val (.ref a1949), .unset, .unset, .unset, .unset, .unset] [(.ref x)] rfl ?_
  have f1985 := (f1957.keep K1973 (allS g1969 all0))
  refine own_getS C S1984 (own_wd hw 60 rfl) Via.refl (OU1.ext f1985.2) (by decide +kernel) ?_
  intro T1986 S1987
  have f1988 := (f1958.keep K1973)
  have n1989 : x ≠ a1949 := by rw [g1950]; exact Nat.ne_of_lt xE.lt
  have f1990 := (f1959.keep K1973 (ninS n1989 nin0))
  have f1991 := (f1960.keep K1973 (ninS n1989 nin0))
  have n1992 : b ≠ a1949 := by rw [g1950]; exact Nat.ne_of_lt bK.lt
  have f1993 := (f1961.keep K1973 (ninS n1992 nin0))
  have f1994 := ((Exa.ext E1951 bE).keep K1973)
  have f1995 : n0 ≤ h1981.size := (Nat.le_trans f1962 K1973.1)
  refine own_callV C S1987 (own_wd hw 62 rfl) (own_wd hw 63 rfl) (own_wd hw 65 rfl) (own_wd hw 65 rfl) rfl (own_wd hw 64 rfl) (by decide) (own_Met.pay (own_gb1 l Z a0 hw G1 G3 U8 x _ _ k h1981 n0 f1995 f1985 f1988 f1990 f1991 f1993 f1994 O2 O4 P5 rG3 OU1 OU2 OA OH OL hb) C 0 (own_wd hw 66 rfl) (own_wd hw 4 rfl) (by decide) (by decide)) (fun _ _ _ q => q.2) f1988 [(.ref U8)] [] rfl own_pd29 rfl rfl rfl (Nat.le_of_ble_eq_true rfl) (by decide) (by decide) (by decide +kernel) ?_
  rintro T2002 h2003 v2004 L2005 S2006 ⟨⟨a1996, k1997, rfl, g1998, K1999, f2000, f2001⟩, -⟩
  show own_Go p e below _ T2002 (mkF m 19 #[.val (.ref x), .val (.ref a1949), .unset, .unset, .unset, .unset, .unset] [(.ref a1996)])
  refine own_seg C S2006 [(19, .astore_n 2, 1), (20, .aload_n 2, 1)] (by decide +kernel) 21 #[.val (.ref x), .val (.ref a1949), .val (.ref a1996), .unset, .unset, .unset, .unset] [(.ref a1996)] rfl ?_
  refine own_alen C S2006 f2000 (by decide +kernel) ?_
  refine own_seg C S2006 [(22, .istore_n 3, 1), (23, .iconst 0, 1), (24, .istore 4, 2)] (by decide +kernel) 26 #[.val (.ref x), .val (.ref a1949), .val (.ref a1996), .val (.int 1), .val (.int 0), .unset, .unset] [] rfl ?_
  refine own_seg C S2006 [(26, .iload 4, 2), (28, .iload_n 3, 1)] (by decide +kernel) 29 #[.val (.ref x), .val (.ref a1949), .val (.ref a1996), .val (.int 1), .val (.int 0), .unset, .unset] [(.int 1), (.int 0)] rfl ?_
  refine own_icmp C S2006 (q := .ge) (o := 74) (by decide +kernel) 103 (by decide) (by decide) (fun (hq : ¬ (0 : Int32) < (1 : Int32)) => False.elim (by revert hq; decide)) (fun (q2007 : (0 : Int32) < (1 : Int32)) => ?_)
  refine own_seg C S2006 [(32, .aload_n 2, 1), (33, .iload 4, 2)] (by decide +kernel) 35 #[.val (.ref x), .val (.ref a1949), .val (.ref a1996), .val (.int 1), .val (.int 0), .unset, .unset] [(.int 0), (.ref a1996)] rfl ?_
  refine own_baload C S2006 f2000 ⟨(by decide), (by decide)⟩ (.int k.toInt8.toInt32) rfl (by decide +kernel) ?_
  refine own_seg C S2006 [(36, .istore 5, 2), (38, .iload 5, 2), (40, .sipush 255, 3), (43, .iand, 1), (44, .i2c, 1), (45, .istore 6, 2)] (by decide +kernel) 47 #[.val (.ref x), .val (.ref a1949), .val (.ref a1996), .val (.int 1), .val (.int 0), .val (.int k.toInt8.toInt32), .val (.int ((k.toInt8.toInt32 &&& (255 : Int32)).toUInt32.toUInt16.toUInt32.toInt32))] [] rfl ?_
  rw [show (k.toInt8.toInt32 &&& (255 : Int32)).toUInt32.toUInt16.toUInt32.toInt32 = k from own_by kr]
  refine own_seg C S2006 [(47, .iload 6, 2)] (by decide +kernel) 49 #[.val (.ref x), .val (.ref a1949), .val (.ref a1996), .val (.int 1), .val (.int 0), .val (.int k.toInt8.toInt32), .val (.int k)] [(.int k)] rfl ?_
  have f2008 := (f1985.keep K1999 all0)
  have f2009 : n0 ≤ h2003.size := (Nat.le_trans f1995 K1999.1)
  have o2018 : h0.size ≤ a1949 := by rw [g1950]; exact (Nat.le_refl _)
  have o2020 : h0.size ≤ h1981.size := (Nat.le_trans (Nat.le_trans (Nat.le_refl _) E1951.1) K1973.1)
  have o2019 : h0.size ≤ a1996 := Nat.le_trans o2020 g1998
  have o2022 : h0.size ≤ h1948.size := (Nat.le_trans (Nat.le_refl _) E1951.1)
  have o2021 : h0.size ≤ a1970 := Nat.le_trans o2022 g1972
  have f2023 : a1970 < h2003.size := (Nat.lt_of_lt_of_le f1978.lt K1999.1)
  have f2024 : a1949 < h2003.size := (Nat.lt_of_lt_of_le (Nat.lt_of_lt_of_le f1954.lt K1973.1) K1999.1)
  have SW2025 := rb1945 _ _ _ _ [] [a1949, a1970, a1996] S2006 ((((Keep.refl _ _).ext E1951).trans K1973 (allS (Or.inr o2018) all0)).trans K1999 all0) all0 (allS ⟨o2018, f2024⟩ (allS ⟨o2021, f2023⟩ (allS ⟨o2019, f2000.lt⟩ all0)))
  refine own_callSW CW SW2025 (own_wd hw 91 rfl) (own_wd hw 92 rfl) (own_wd hw 30 rfl) (own_wd hw 93 rfl) (by decide) (own_ipc l Z a0 hw hEL wS G1 G3 U8 k h2003 n0 f2009 f2008 O2 O4 P5 rG3 OU1 OU2 OA OH OL kr) all0 0 (by decide) (by decide) [(.int k)] [] rfl own_pd11 rfl rfl rfl (Nat.le_of_ble_eq_true rfl) (by decide) (by decide) (by decide +kernel) ?_
  rintro T2026 h2027 v2028 SW2029 hg2030 ⟨y2010, rfl, K2011, p2012⟩
  show own_Go p e below _ T2026 (mkF m 52 #[.val (.ref x), .val (.ref a1949), .val (.ref a1996), .val (.int 1), .val (.int 0), .val (.int k.toInt8.toInt32), .val (.int k)] [(.int y2010)])
  have hr2031 : y2010 = 1 := own_PC.one p2012 al
  subst hr2031
  refine own_lift CW SW2029 ?_
  intro vm2032 C S2033 rb2034
  refine own_if C S2033 (q := .eq) (o := 13) (by decide +kernel) 65 (by decide) (by decide) (fun (hq : (1 : Int32) = (0 : Int32)) => False.elim (absurd hq (by decide))) (fun (q2035 : ¬ (1 : Int32) = (0 : Int32)) => ?_)
  refine own_seg C S2033 [(55, .aload_n 1, 1), (56, .iload 6, 2)] (by decide +kernel) 58 #[.val (.ref x), .val (.ref a1949), .val (.ref a1996), .val (.int 1), .val (.int 0), .val (.int k.toInt8.toInt32), .val (.int k)] [(.int k), (.ref a1949)] rfl ?_
  have f2036 := (f2008.keep K2011 all0)
  have f2037 := ((f1974.keep K1999).keep K2011)
  have f2038 := ((f1975.keep K1999 nin0).keep K2011 nin0)
  have f2039 := ((f1976.keep K1999 nin0).keep K2011 nin0)
  have f2040 := ((f1977.keep K1999 nin0).keep K2011 nin0)
  have f2041 := ((f1978.keep K1999 nin0).keep K2011 nin0)
  have f2042 : n0 ≤ h2027.size := (Nat.le_trans f2009 K2011.1)
  have g2043 : n0 ≤ a1970 := Nat.le_trans f1962 g1972
  have n2044 : a1949 ≠ a1970 := Nat.ne_of_lt (Nat.lt_of_lt_of_le f1954.lt g1972)
  refine own_callV C S2033 (own_wd hw 129 rfl) (own_wd hw 130 rfl) (own_wd hw 132 rfl) (own_wd hw 132 rfl) rfl (own_wd hw 131 rfl) (by decide) (own_Met.pay (own_sbC l Z a0 hw G1 G3 a1949 _ _ _ _ _ k ([(.int k.toInt8.toInt32)]) h2027 n0 f2042 g1969 g2043 f2036 f2037 f2038 f2039 f2040 f2041 (Ne.symm n2044) O2 O4 P5 rG3 kr.2 (by decide) (by decide) (Nat.le_of_ble_eq_true rfl) rfl) C 0 (own_wd hw 133 rfl) (own_wd hw 34 rfl) (by decide) (by decide)) (fun _ _ _ q => q.2) f2037 [(.int k)] [] rfl own_pd31 rfl rfl rfl (Nat.le_of_ble_eq_true rfl) (by decide) (by decide) (by decide +kernel) ?_
  rintro T2051 h2052 v2053 L2054 S2055 ⟨⟨rfl, K2045, f2046, f2047, f2048, f2049, f2050⟩, -⟩
  have f2056 : Fld Z h2052 a1949 "java/lang/AbstractStringBuilder" "count" "I" (.int 1) := f2049
  show own_Go p e below _ T2051 (mkF m 61 #[.val (.ref x), .val (.ref a1949), .val (.ref a1996), .val (.int 1), .val (.int 0), .val (.int k.toInt8.toInt32), .val (.int k)] [(.ref a1949)])
  refine own_seg C S2055 [(61, .pop, 1), (62, .goto 35, 3)] (by decide +kernel) 97 #[.val (.ref x), .val (.ref a1949), .val (.ref a1996), .val (.int 1), .val (.int 0), .val (.int k.toInt8.toInt32), .val (.int k)] [] rfl ?_
  refine own_seg C S2055 [(97, .iinc 4 1, 3), (100, .goto (-74), 3)] (by decide +kernel) 26 #[.val (.ref x), .val (.ref a1949), .val (.ref a1996), .val (.int 1), .val (.int ((0 : Int32) + (1 : Int32))), .val (.int k.toInt8.toInt32), .val (.int k)] [] rfl ?_
  show own_Go p e below _ T2051 (mkF m 26 #[.val (.ref x), .val (.ref a1949), .val (.ref a1996), .val (.int 1), .val (.int 1), .val (.int k.toInt8.toInt32), .val (.int k)] [])
  refine own_seg C S2055 [(26, .iload 4, 2), (28, .iload_n 3, 1)] (by decide +kernel) 29 #[.val (.ref x), .val (.ref a1949), .val (.ref a1996), .val (.int 1), .val (.int 1), .val (.int k.toInt8.toInt32), .val (.int k)] [(.int 1), (.int 1)] rfl ?_
  refine own_icmp C S2055 (q := .ge) (o := 74) (by decide +kernel) 103 (by decide) (by decide) (fun (q2057 : ¬ (1 : Int32) < (1 : Int32)) => ?_) (fun (hq : (1 : Int32) < (1 : Int32)) => False.elim (by revert hq; decide))
  refine own_seg C S2055 [(103, .aload_n 1, 1)] (by decide +kernel) 104 #[.val (.ref x), .val (.ref a1949), .val (.ref a1996), .val (.int 1), .val (.int 1), .val (.int k.toInt8.toInt32), .val (.int k)] [(.ref a1949)] rfl ?_
  have f2058 := (f2036.keep K2045 (allS g1969 (allS g2043 all0)))
  have f2059 := (((f1979.keep K1999).keep K2011).keep K2045)
  have f2060 : n0 ≤ h2052.size := (Nat.le_trans f2042 K2045.1)
  refine own_callV C S2055 (own_wd hw 190 rfl) (own_wd hw 191 rfl) (own_wd hw 193 rfl) (own_wd hw 193 rfl) rfl (own_wd hw 192 rfl) (by decide) (own_Met.pay (own_tsC1 l Z a0 hw G1 G3 a1949 _ _ k.toInt8.toInt32 h2052 n0 f2060 f2058 f2046 f2047 f2048 f2056 f2050 f2059 O2 O4 P5 rG3) C 0 (own_wd hw 194 rfl) (own_wd hw 34 rfl) (by decide) (by decide)) (fun _ _ _ q => q.2) f2046 [] [] rfl own_pd30 rfl rfl rfl (Nat.le_of_ble_eq_true rfl) (by decide) (by decide) (by decide +kernel) ?_
  rintro T2071 h2072 v2073 L2074 S2075 ⟨⟨a2061, a2062, k2063, rfl, g2064, g2065, K2066, f2067, f2068, f2069, f2070⟩, -⟩
  show own_Go p e below _ T2071 (mkF m 107 #[.val (.ref x), .val (.ref a1949), .val (.ref a1996), .val (.int 1), .val (.int 1), .val (.int k.toInt8.toInt32), .val (.int k)] [(.ref a2061)])
  have o2077 : h2027.size ≤ h2052.size := (Nat.le_trans (Nat.le_refl _) K2045.1)
  have o2076 : h2027.size ≤ a2062 := Nat.le_trans o2077 g2065
  have o2078 : h2027.size ≤ a2061 := Nat.le_trans o2077 g2064
  have SW2079 := rb2034 _ _ _ _ [a1949, a1970] [a2061, a2062] S2075 (((Keep.refl _ _).trans K2045 (allS (Or.inl (List.mem_of_getElem? (i := 0) rfl)) (allS (Or.inl (List.mem_of_getElem? (i := 1) rfl)) all0))).trans K2066 all0) (allS (List.mem_of_getElem? (i := 0) rfl) (allS (List.mem_of_getElem? (i := 1) rfl) all0)) (allS ⟨o2078, f2067.lt⟩ (allS ⟨o2076, f2070.lt⟩ all0))
  refine own_retAW CW SW2079 rfl rfl (by decide +kernel) (by decide) (by decide) ?_
  have o2081 : h0.size ≤ h2052.size := (Nat.le_trans (Nat.le_trans (Nat.le_trans o2020 K1999.1) K2011.1) K2045.1)
  have o2080 : h0.size ≤ a2061 := Nat.le_trans o2081 g2064
  have o2082 : h0.size ≤ a2062 := Nat.le_trans o2081 g2065
  exact ⟨a2061, a2062, k2063, rfl, o2080, o2082, (((((((Keep.refl _ _).ext E1951).trans K1973 (allS (Or.inr o2018) all0)).trans K1999 all0).trans K2011 all0).trans K2045 (allS (Or.inr o2018) (allS (Or.inr o2021) all0))).trans K2066 all0), f2067, f2068, f2069, f2070⟩
abbrev own_lv1 : List Value := [(.int 48), (.int 49), (.int 50), (.int 51), (.int 52), (.int 53), (.int 54), (.int 55), (.int 56), (.int 57), (.int 65), (.int 66), (.int 67), (.int 68), (.int 69), (.int 70)]
theorem own_pd32 : parseMethodDescriptor "(I)C" = some ⟨[.int], (some .char)⟩ := by decide +kernel
theorem own_enc1b (l : Launch) (Z : State) (a0 : Array Value) (hw : ∀ d ∈ tables_1, d.before a0 Z = true) (hEL : EW Z a0 own_EL) (wS : ∀ a ∈ Bundle.stringAtoms, a.before a0 Z = true) (G1 : Int32) (G3 : Value) (U8 : Addr) (x : Addr) (b : Addr) (bk : ClassId) (k : Int32) (h0 : Heap) (n0 : Nat) (z0 : n0 ≤ h0.size) (X00 : Old Z n0 h0) (xE : Exa Z h0 x "java/lang/String") (xV : Fld Z h0 x "java/lang/String" "value" "[B" (.ref b)) (xC : Fld Z h0 x "java/lang/String" "coder" "B" (.int 0)) (bK : Arv Z h0 b bk .byte (1 : Int32) ([(.int k.toInt8.toInt32)]) (.int 0)) (bE : Exa Z h0 b "[B") (O2 : Sta Z Z.heap "java/lang/String" "COMPACT_STRINGS" "Z" (.int G1)) (O4 : Sta Z Z.heap "jdk/internal/util/Preconditions" "SIOOBE_FORMATTER" "Ljava/util/function/BiFunction;" G3) (P5 : ¬ G1 = (0 : Int32)) (rG3 : G3.isRef = true) (OU1 : Sta Z Z.heap "java/nio/charset/StandardCharsets" "UTF_8" "Ljava/nio/charset/Charset;" (.ref U8)) (OU2 : Sta Z Z.heap "sun/nio/cs/UTF_8" "INSTANCE" "Lsun/nio/cs/UTF_8;" (.ref U8)) (OA : Sta Z Z.heap "java/lang/StringUTF16" "$assertionsDisabled" "Z" (.int 1)) (OH : Sta Z Z.heap "java/lang/StringUTF16" "HI_BYTE_SHIFT" "I" (.int 0)) (OL : Sta Z Z.heap "java/lang/StringUTF16" "LO_BYTE_SHIFT" "I" (.int 8)) (hb : ¬ k.toInt8.toInt32 < 0) (kr : ¬ k < 0 ∧ ¬ (255 : Int32) < k) (nal : ¬ own_al k) :
    own_MetW l Z own_EL (⟨"com/example/exact_rest/exactrest/PathSegments", "encode", "(Ljava/lang/String;)Ljava/lang/String;"⟩ : MethodName) prog_13_method_3_code 7 (some (.object "java/lang/String")) ({ frames := 6, cells := 12, slots := 286, locals := 91 } : Room) n0 #[(.ref x)] h0 [] (fun v h => ∃ x2 : Addr, ∃ r : Addr, ∃ rk : ClassId, v = some (.ref x2) ∧ h0.size ≤ x2 ∧ h0.size ≤ r ∧ Keep h0 h [] ∧ Exa Z h x2 "java/lang/String" ∧ Fld Z h x2 "java/lang/String" "coder" "B" (.int 0) ∧ Fld Z h x2 "java/lang/String" "value" "[B" (.ref r) ∧ Arv Z h r rk .byte (3 : Int32) ([(.int 37), (.int ((own_hx (k >>> ((4 : Int32) &&& 31))).toInt8.toInt32)), (.int ((own_hx (k &&& (15 : Int32))).toInt8.toInt32))]) (.int 0)) := by
  refine own_metW hEL wS (by decide +kernel) #[.val (.ref x), .unset, .unset, .unset, .unset, .unset, .unset] (fun m => by first | (simp [entryFrame, mkF, argsToLocals, Value.category]; done) | rfl) ?_
  intro p e s m below meth c T0 CW SW0
  refine own_lift CW SW0 ?_
  intro vm2083 C S2084 rb2085
  refine own_new C S2084 (own_wd hw 32 rfl) (own_wd hw 33 rfl) (own_wd hw 34 rfl) (by decide +kernel) (by decide) (by decide) ?_
  intro T2086 h2088 a2089 S2087 g2090 E2091 x2092 D2093
  have f2094 : Fld Z h2088 a2089 "java/lang/AbstractStringBuilder" "value" "[B" .null := D2093 (ty := (.array .byte)) (Or.inl (own_wd hw 57 rfl)) own_fd0
  have f2095 : Fld Z h2088 a2089 "java/lang/AbstractStringBuilder" "coder" "B" (.int 0) := D2093 (ty := .byte) (Or.inl (own_wd hw 59 rfl)) own_fd1
  have f2096 : Fld Z h2088 a2089 "java/lang/AbstractStringBuilder" "count" "I" (.int 0) := D2093 (ty := .int) (Or.inl (own_wd hw 140 rfl)) own_fd2
  refine own_seg C S2087 [(3, .dup, 1), (4, .aload_n 0, 1)] (by decide +kernel) 5 #[.val (.ref x), .unset, .unset, .unset, .unset, .unset, .unset] [(.ref x), (.ref a2089), (.ref a2089)] rfl ?_
  have f2097 := (X00.ext E2091)
  have f2098 := (Exa.ext E2091 xE)
  have f2099 := (Fld.ext E2091 xV)
  have f2100 := (Fld.ext E2091 xC)
  have f2101 := (bK.ext E2091)
  have f2102 : n0 ≤ h2088.size := (Nat.le_trans z0 E2091.1)
  refine own_callV C S2087 (own_wd hw 35 rfl) (own_wd hw 36 rfl) (own_wd hw 38 rfl) (own_wd hw 38 rfl) rfl (own_wd hw 37 rfl) (by decide) (own_Met.pay (own_len l Z a0 hw G1 G3 x _ _ _ _ _ h2088 n0 f2102 f2097 f2098 f2099 f2100 f2101 O2 O4 P5 rG3 (by decide)) C 2 (own_wd hw 39 rfl) (own_wd hw 4 rfl) (by decide) (by decide)) (fun _ _ _ q => q.2) f2098 [] [(.ref a2089), (.ref a2089)] rfl own_pd5 rfl rfl rfl (Nat.le_of_ble_eq_true rfl) (by decide) (by decide) (by decide +kernel) ?_
  rintro T2104 h2105 v2106 L2107 S2108 ⟨⟨rfl, e2103⟩, -⟩
  rw [e2103] at S2108; clear e2103
  show own_Go p e below _ T2104 (mkF m 8 #[.val (.ref x), .unset, .unset, .unset, .unset, .unset, .unset] [(.int ((1 : Int32) >>> ((0 : Int32) &&& 31))), (.ref a2089), (.ref a2089)])
  show own_Go p e below _ T2104 (mkF m 8 #[.val (.ref x), .unset, .unset, .unset, .unset, .unset, .unset] [(.int 1), (.ref a2089), (.ref a2089)])
  have g2109 : n0 ≤ a2089 := by rw [g2090]; exact z0
  refine own_callI C S2108 rfl (own_wd hw 45 rfl) (own_wd hw 46 rfl) (own_wd hw 47 rfl) (by decide) (own_Met.pay (own_sbI1 l Z a0 hw G1 G3 a2089 h2088 n0 f2102 g2109 f2097 x2092 f2094 f2095 f2096 O2 O4 P5 rG3) C 1 (own_wd hw 47 rfl) (own_wd hw 34 rfl) (by decide) (by decide)) (fun _ _ _ q => q.2) [(.int 1)] [(.ref a2089)] rfl own_pd22 rfl rfl rfl (Nat.le_of_ble_eq_true rfl) (by decide) (by decide) (by decide +kernel) ?_
  rintro T2120 h2121 v2122 L2123 S2124 ⟨⟨a2110, k2111, rfl, g2112, K2113, f2114, f2115, f2116, f2117, f2118, f2119⟩, -⟩
  show own_Go p e below _ T2120 (mkF m 11 #[.val (.ref x), .unset, .unset, .unset, .unset, .unset, .unset] [(.ref a2089)])
  refine own_seg C S2124 [(11, .astore_n 1, 1), (12, .aload_n 0, 1)] (by decide +kernel) 13 #[.val (.ref x), .val (.ref a2089), .unset, .unset, .unset, .unset, .unset] [(.ref x)] rfl ?_
  have f2125 := (f2097.keep K2113 (allS g2109 all0))
  refine own_getS C S2124 (own_wd hw 60 rfl) Via.refl (OU1.ext f2125.2) (by decide +kernel) ?_
  intro T2126 S2127
  have f2128 := (f2098.keep K2113)
  have n2129 : x ≠ a2089 := by rw [g2090]; exact Nat.ne_of_lt xE.lt
  have f2130 := (f2099.keep K2113 (ninS n2129 nin0))
  have f2131 := (f2100.keep K2113 (ninS n2129 nin0))
  have n2132 : b ≠ a2089 := by rw [g2090]; exact Nat.ne_of_lt bK.lt
  have f2133 := (f2101.keep K2113 (ninS n2132 nin0))
  have f2134 := ((Exa.ext E2091 bE).keep K2113)
  have f2135 : n0 ≤ h2121.size := (Nat.le_trans f2102 K2113.1)
  refine own_callV C S2127 (own_wd hw 62 rfl) (own_wd hw 63 rfl) (own_wd hw 65 rfl) (own_wd hw 65 rfl) rfl (own_wd hw 64 rfl) (by decide) (own_Met.pay (own_gb1 l Z a0 hw G1 G3 U8 x _ _ k h2121 n0 f2135 f2125 f2128 f2130 f2131 f2133 f2134 O2 O4 P5 rG3 OU1 OU2 OA OH OL hb) C 0 (own_wd hw 66 rfl) (own_wd hw 4 rfl) (by decide) (by decide)) (fun _ _ _ q => q.2) f2128 [(.ref U8)] [] rfl own_pd29 rfl rfl rfl (Nat.le_of_ble_eq_true rfl) (by decide) (by decide) (by decide +kernel) ?_
  rintro T2142 h2143 v2144 L2145 S2146 ⟨⟨a2136, k2137, rfl, g2138, K2139, f2140, f2141⟩, -⟩
  show own_Go p e below _ T2142 (mkF m 19 #[.val (.ref x), .val (.ref a2089), .unset, .unset, .unset, .unset, .unset] [(.ref a2136)])
  refine own_seg C S2146 [(19, .astore_n 2, 1), (20, .aload_n 2, 1)] (by decide +kernel) 21 #[.val (.ref x), .val (.ref a2089), .val (.ref a2136), .unset, .unset, .unset, .unset] [(.ref a2136)] rfl ?_
  refine own_alen C S2146 f2140 (by decide +kernel) ?_
  refine own_seg C S2146 [(22, .istore_n 3, 1), (23, .iconst 0, 1), (24, .istore 4, 2)] (by decide +kernel) 26 #[.val (.ref x), .val (.ref a2089), .val (.ref a2136), .val (.int 1), .val (.int 0), .unset, .unset] [] rfl ?_
  refine own_seg C S2146 [(26, .iload 4, 2), (28, .iload_n 3, 1)] (by decide +kernel) 29 #[.val (.ref x), .val (.ref a2089), .val (.ref a2136), .val (.int 1), .val (.int 0), .unset, .unset] [(.int 1), (.int 0)] rfl ?_
  refine own_icmp C S2146 (q := .ge) (o := 74) (by decide +kernel) 103 (by decide) (by decide) (fun (hq : ¬ (0 : Int32) < (1 : Int32)) => False.elim (by revert hq; decide)) (fun (q2147 : (0 : Int32) < (1 : Int32)) => ?_)
  refine own_seg C S2146 [(32, .aload_n 2, 1), (33, .iload 4, 2)] (by decide +kernel) 35 #[.val (.ref x), .val (.ref a2089), .val (.ref a2136), .val (.int 1), .val (.int 0), .unset, .unset] [(.int 0), (.ref a2136)] rfl ?_
  refine own_baload C S2146 f2140 ⟨(by decide), (by decide)⟩ (.int k.toInt8.toInt32) rfl (by decide +kernel) ?_
  refine own_seg C S2146 [(36, .istore 5, 2), (38, .iload 5, 2), (40, .sipush 255, 3), (43, .iand, 1), (44, .i2c, 1), (45, .istore 6, 2)] (by decide +kernel) 47 #[.val (.ref x), .val (.ref a2089), .val (.ref a2136), .val (.int 1), .val (.int 0), .val (.int k.toInt8.toInt32), .val (.int ((k.toInt8.toInt32 &&& (255 : Int32)).toUInt32.toUInt16.toUInt32.toInt32))] [] rfl ?_
  rw [show (k.toInt8.toInt32 &&& (255 : Int32)).toUInt32.toUInt16.toUInt32.toInt32 = k from own_by kr]
  refine own_seg C S2146 [(47, .iload 6, 2)] (by decide +kernel) 49 #[.val (.ref x), .val (.ref a2089), .val (.ref a2136), .val (.int 1), .val (.int 0), .val (.int k.toInt8.toInt32), .val (.int k)] [(.int k)] rfl ?_
  have f2148 := (f2125.keep K2139 all0)
  have f2149 : n0 ≤ h2143.size := (Nat.le_trans f2135 K2139.1)
  have o2158 : h0.size ≤ a2089 := by rw [g2090]; exact (Nat.le_refl _)
  have o2160 : h0.size ≤ h2121.size := (Nat.le_trans (Nat.le_trans (Nat.le_refl _) E2091.1) K2113.1)
  have o2159 : h0.size ≤ a2136 := Nat.le_trans o2160 g2138
  have o2162 : h0.size ≤ h2088.size := (Nat.le_trans (Nat.le_refl _) E2091.1)
  have o2161 : h0.size ≤ a2110 := Nat.le_trans o2162 g2112
  have f2163 : a2110 < h2143.size := (Nat.lt_of_lt_of_le f2118.lt K2139.1)
  have f2164 : a2089 < h2143.size := (Nat.lt_of_lt_of_le (Nat.lt_of_lt_of_le f2094.lt K2113.1) K2139.1)
  have SW2165 := rb2085 _ _ _ _ [] [a2089, a2110, a2136] S2146 ((((Keep.refl _ _).ext E2091).trans K2113 (allS (Or.inr o2158) all0)).trans K2139 all0) all0 (allS ⟨o2158, f2164⟩ (allS ⟨o2161, f2163⟩ (allS ⟨o2159, f2140.lt⟩ all0)))
  refine own_callSW CW SW2165 (own_wd hw 91 rfl) (own_wd hw 92 rfl) (own_wd hw 30 rfl) (own_wd hw 93 rfl) (by decide) (own_ipc l Z a0 hw hEL wS G1 G3 U8 k h2143 n0 f2149 f2148 O2 O4 P5 rG3 OU1 OU2 OA OH OL kr) all0 0 (by decide) (by decide) [(.int k)] [] rfl own_pd11 rfl rfl rfl (Nat.le_of_ble_eq_true rfl) (by decide) (by decide) (by decide +kernel) ?_
  rintro T2166 h2167 v2168 SW2169 hg2170 ⟨y2150, rfl, K2151, p2152⟩
  show own_Go p e below _ T2166 (mkF m 52 #[.val (.ref x), .val (.ref a2089), .val (.ref a2136), .val (.int 1), .val (.int 0), .val (.int k.toInt8.toInt32), .val (.int k)] [(.int y2150)])
  have hr2171 : y2150 = 0 := own_PC.zero p2152 nal
  subst hr2171
  refine own_lift CW SW2169 ?_
  intro vm2172 C S2173 rb2174
  refine own_if C S2173 (q := .eq) (o := 13) (by decide +kernel) 65 (by decide) (by decide) (fun (q2175 : (0 : Int32) = (0 : Int32)) => ?_) (fun (hq : ¬ (0 : Int32) = (0 : Int32)) => False.elim (hq rfl))
  refine own_seg C S2173 [(65, .aload_n 1, 1), (66, .bipush 37, 2)] (by decide +kernel) 68 #[.val (.ref x), .val (.ref a2089), .val (.ref a2136), .val (.int 1), .val (.int 0), .val (.int k.toInt8.toInt32), .val (.int k)] [(.int 37), (.ref a2089)] rfl ?_
  have f2176 := (f2148.keep K2151 all0)
  have f2177 := ((f2114.keep K2139).keep K2151)
  have f2178 := ((f2115.keep K2139 nin0).keep K2151 nin0)
  have f2179 := ((f2116.keep K2139 nin0).keep K2151 nin0)
  have f2180 := ((f2117.keep K2139 nin0).keep K2151 nin0)
  have f2181 := ((f2118.keep K2139 nin0).keep K2151 nin0)
  have f2182 : n0 ≤ h2167.size := (Nat.le_trans f2149 K2151.1)
  have g2183 : n0 ≤ a2110 := Nat.le_trans f2102 g2112
  have n2184 : a2089 ≠ a2110 := Nat.ne_of_lt (Nat.lt_of_lt_of_le f2094.lt g2112)
  refine own_callV C S2173 (own_wd hw 129 rfl) (own_wd hw 130 rfl) (own_wd hw 132 rfl) (own_wd hw 132 rfl) rfl (own_wd hw 131 rfl) (by decide) (own_Met.pay (own_sbC l Z a0 hw G1 G3 a2089 _ _ _ _ _ (37 : Int32) ([(.int 37)]) h2167 n0 f2182 g2109 g2183 f2176 f2177 f2178 f2179 f2180 f2181 (Ne.symm n2184) O2 O4 P5 rG3 (by decide) (by decide) (by decide) (Nat.le_of_ble_eq_true rfl) rfl) C 0 (own_wd hw 133 rfl) (own_wd hw 34 rfl) (by decide) (by decide)) (fun _ _ _ q => q.2) f2177 [(.int 37)] [] rfl own_pd31 rfl rfl rfl (Nat.le_of_ble_eq_true rfl) (by decide) (by decide) (by decide +kernel) ?_
  rintro T2191 h2192 v2193 L2194 S2195 ⟨⟨rfl, K2185, f2186, f2187, f2188, f2189, f2190⟩, -⟩
  have f2196 : Fld Z h2192 a2089 "java/lang/AbstractStringBuilder" "count" "I" (.int 1) := f2189
  show own_Go p e below _ T2191 (mkF m 71 #[.val (.ref x), .val (.ref a2089), .val (.ref a2136), .val (.int 1), .val (.int 0), .val (.int k.toInt8.toInt32), .val (.int k)] [(.ref a2089)])
  have SW2197 := rb2174 _ _ _ _ [a2089, a2110] [] S2195 ((Keep.refl _ _).trans K2185 (allS (Or.inl (List.mem_of_getElem? (i := 0) rfl)) (allS (Or.inl (List.mem_of_getElem? (i := 1) rfl)) all0))) (allS (List.mem_of_getElem? (i := 0) rfl) (allS (List.mem_of_getElem? (i := 1) rfl) all0)) all0
  refine own_ldcWE CW SW2197 (own_wd hw 152 rfl) (List.mem_of_getElem? (i := 0) rfl) (z := (16 : Int32)) (vs := own_lv1) ⟨by decide, by decide⟩ (by decide) rfl (by decide +kernel) 64 (by decide) (by decide) (by decide) (by decide) ?_
  intro T2198 h2199 a2200 b2201 k2202 SW2203 E2204 x2205 f2206 f2207 f2208 ne2209 x2210
  refine own_lift CW SW2203 ?_
  intro vm2211 C S2212 rb2213
  refine own_seg C S2212 [(73, .iload 6, 2), (75, .iconst 4, 1), (76, .ishr, 1)] (by decide +kernel) 77 #[.val (.ref x), .val (.ref a2089), .val (.ref a2136), .val (.int 1), .val (.int 0), .val (.int k.toInt8.toInt32), .val (.int k)] [(.int (k >>> ((4 : Int32) &&& 31))), (.ref a2200), (.ref a2089)] rfl ?_
  have f2214 := ((f2176.keep K2185 (allS g2109 (allS g2183 all0))).ext E2204)
  have f2215 : n0 ≤ h2199.size := (Nat.le_trans (Nat.le_trans f2182 K2185.1) E2204.1)
  refine own_callV C S2212 (own_wd hw 153 rfl) (own_wd hw 154 rfl) (own_wd hw 156 rfl) (own_wd hw 156 rfl) rfl (own_wd hw 155 rfl) (by decide) (own_Met.pay (own_sch l Z a0 hw G1 G3 a2200 _ _ _ _ (k >>> ((4 : Int32) &&& 31)) (own_hx (k >>> ((4 : Int32) &&& 31))) (own_hx (k >>> ((4 : Int32) &&& 31))) h2199 n0 f2215 f2214 x2205 f2207 f2206 f2208 O2 O4 P5 rG3 (own_j16 (own_d4 kr).1) (own_hxV _) (own_hcc _) (own_c16 (own_hxB _))) C 1 (own_wd hw 157 rfl) (own_wd hw 4 rfl) (by decide) (by decide)) (fun _ _ _ q => q.2) x2205 [(.int (k >>> ((4 : Int32) &&& 31)))] [(.ref a2089)] rfl own_pd32 rfl rfl rfl (Nat.le_of_ble_eq_true rfl) (by decide) (by decide) (by decide +kernel) ?_
  rintro T2217 h2218 v2219 L2220 S2221 ⟨⟨rfl, e2216⟩, -⟩
  rw [e2216] at S2221; clear e2216
  show own_Go p e below _ T2217 (mkF m 80 #[.val (.ref x), .val (.ref a2089), .val (.ref a2136), .val (.int 1), .val (.int 0), .val (.int k.toInt8.toInt32), .val (.int k)] [(.int (own_hx (k >>> ((4 : Int32) &&& 31)))), (.ref a2089)])
  obtain ⟨y2222, hy2222⟩ : ∃ y, y = (own_hx (k >>> ((4 : Int32) &&& 31))) := ⟨_, rfl⟩
  rw [← hy2222]
  have hb2223 : ¬ y2222 < 0 ∧ ¬ (255 : Int32) < y2222 := by rw [hy2222]; exact own_hxB _
  have f2224 := (Exa.ext E2204 f2186)
  have f2225 := (Fld.ext E2204 f2187)
  have f2226 := (Fld.ext E2204 f2188)
  have f2227 := (Fld.ext E2204 f2196)
  have f2228 := (f2190.ext E2204)
  refine own_callV C S2221 (own_wd hw 129 rfl) (own_wd hw 130 rfl) (own_wd hw 132 rfl) (own_wd hw 132 rfl) rfl (own_wd hw 131 rfl) (by decide) (own_Met.pay (own_sbG1 l Z a0 hw G1 G3 a2089 _ _ (37 : Int32) y2222 h2199 n0 f2215 g2109 f2214 f2224 f2225 f2226 f2227 f2228 (Ne.symm n2184) O2 O4 P5 rG3 ((hb2223).2)) C 0 (own_wd hw 133 rfl) (own_wd hw 34 rfl) (by decide) (by decide)) (fun _ _ _ q => q.2) f2224 [(.int y2222)] [] rfl own_pd31 rfl rfl rfl (Nat.le_of_ble_eq_true rfl) (by decide) (by decide) (by decide +kernel) ?_
  rintro T2239 h2240 v2241 L2242 S2243 ⟨⟨a2229, k2230, rfl, g2231, K2232, f2233, f2234, f2235, f2236, f2237, f2238⟩, -⟩
  show own_Go p e below _ T2239 (mkF m 83 #[.val (.ref x), .val (.ref a2089), .val (.ref a2136), .val (.int 1), .val (.int 0), .val (.int k.toInt8.toInt32), .val (.int k)] [(.ref a2089)])
  have o2244 : h2199.size ≤ a2229 := Nat.le_trans (Nat.le_refl _) g2231
  have SW2245 := rb2213 _ _ _ _ [a2089] [a2229] S2243 ((Keep.refl _ _).trans K2232 (allS (Or.inl (List.mem_of_getElem? (i := 0) rfl)) all0)) (allS (List.mem_of_getElem? (i := 0) rfl) all0) (allS ⟨o2244, f2237.lt⟩ all0)
  refine own_ldcWE CW SW2245 (own_wd hw 152 rfl) (List.mem_of_getElem? (i := 0) rfl) (z := (16 : Int32)) (vs := own_lv1) ⟨by decide, by decide⟩ (by decide) rfl (by decide +kernel) 64 (by decide) (by decide) (by decide) (by decide) ?_
  intro T2246 h2247 a2248 b2249 k2250 SW2251 E2252 x2253 f2254 f2255 f2256 ne2257 x2258
  refine own_lift CW SW2251 ?_
  intro vm2259 C S2260 rb2261
  refine own_seg C S2260 [(85, .iload 6, 2), (87, .bipush 15, 2), (89, .iand, 1)] (by decide +kernel) 90 #[.val (.ref x), .val (.ref a2089), .val (.ref a2136), .val (.int 1), .val (.int 0), .val (.int k.toInt8.toInt32), .val (.int k)] [(.int (k &&& (15 : Int32))), (.ref a2248), (.ref a2089)] rfl ?_
  have f2262 := ((f2214.keep K2232 (allS g2109 all0)).ext E2252)
  have f2263 : n0 ≤ h2247.size := (Nat.le_trans (Nat.le_trans f2215 K2232.1) E2252.1)
  refine own_callV C S2260 (own_wd hw 153 rfl) (own_wd hw 154 rfl) (own_wd hw 156 rfl) (own_wd hw 156 rfl) rfl (own_wd hw 155 rfl) (by decide) (own_Met.pay (own_sch l Z a0 hw G1 G3 a2248 _ _ _ _ (k &&& (15 : Int32)) (own_hx (k &&& (15 : Int32))) (own_hx (k &&& (15 : Int32))) h2247 n0 f2263 f2262 x2253 f2255 f2254 f2256 O2 O4 P5 rG3 (own_j16 (own_d4 kr).2) (own_hxV _) (own_hcc _) (own_c16 (own_hxB _))) C 1 (own_wd hw 157 rfl) (own_wd hw 4 rfl) (by decide) (by decide)) (fun _ _ _ q => q.2) x2253 [(.int (k &&& (15 : Int32)))] [(.ref a2089)] rfl own_pd32 rfl rfl rfl (Nat.le_of_ble_eq_true rfl) (by decide) (by decide) (by decide +kernel) ?_
  rintro T2265 h2266 v2267 L2268 S2269 ⟨⟨rfl, e2264⟩, -⟩
  rw [e2264] at S2269; clear e2264
  show own_Go p e below _ T2265 (mkF m 93 #[.val (.ref x), .val (.ref a2089), .val (.ref a2136), .val (.int 1), .val (.int 0), .val (.int k.toInt8.toInt32), .val (.int k)] [(.int (own_hx (k &&& (15 : Int32)))), (.ref a2089)])
  obtain ⟨y2270, hy2270⟩ : ∃ y, y = (own_hx (k &&& (15 : Int32))) := ⟨_, rfl⟩
  rw [← hy2270]
  have hb2271 : ¬ y2270 < 0 ∧ ¬ (255 : Int32) < y2270 := by rw [hy2270]; exact own_hxB _
  have f2272 := (Exa.ext E2252 f2233)
  have f2273 := (Fld.ext E2252 f2234)
  have f2274 := (Fld.ext E2252 f2235)
  have f2275 := (Fld.ext E2252 f2236)
  have f2276 := (f2237.ext E2252)
  have g2277 : n0 ≤ a2229 := Nat.le_trans f2215 g2231
  have f2278 : a2089 < h2199.size := (Nat.lt_of_lt_of_le (Nat.lt_of_lt_of_le (Nat.lt_of_lt_of_le f2164 K2151.1) K2185.1) E2204.1)
  have n2279 : a2089 ≠ a2229 := Nat.ne_of_lt (Nat.lt_of_lt_of_le f2278 g2231)
  refine own_callV C S2269 (own_wd hw 129 rfl) (own_wd hw 130 rfl) (own_wd hw 132 rfl) (own_wd hw 132 rfl) rfl (own_wd hw 131 rfl) (by decide) (own_Met.pay (own_sbC l Z a0 hw G1 G3 a2089 _ _ _ _ _ y2270 ([(.int 37), (.int y2222.toInt8.toInt32), (.int y2270.toInt8.toInt32), (.int 0)]) h2247 n0 f2263 g2109 g2277 f2262 f2272 f2273 f2274 f2275 f2276 (Ne.symm n2279) O2 O4 P5 rG3 hb2271.2 (by decide) (by decide) (Nat.le_of_ble_eq_true rfl) rfl) C 0 (own_wd hw 133 rfl) (own_wd hw 34 rfl) (by decide) (by decide)) (fun _ _ _ q => q.2) f2272 [(.int y2270)] [] rfl own_pd31 rfl rfl rfl (Nat.le_of_ble_eq_true rfl) (by decide) (by decide) (by decide +kernel) ?_
  rintro T2286 h2287 v2288 L2289 S2290 ⟨⟨rfl, K2280, f2281, f2282, f2283, f2284, f2285⟩, -⟩
  have f2291 : Fld Z h2287 a2089 "java/lang/AbstractStringBuilder" "count" "I" (.int 3) := f2284
  show own_Go p e below _ T2286 (mkF m 96 #[.val (.ref x), .val (.ref a2089), .val (.ref a2136), .val (.int 1), .val (.int 0), .val (.int k.toInt8.toInt32), .val (.int k)] [(.ref a2089)])
  refine own_seg C S2290 [(96, .pop, 1)] (by decide +kernel) 97 #[.val (.ref x), .val (.ref a2089), .val (.ref a2136), .val (.int 1), .val (.int 0), .val (.int k.toInt8.toInt32), .val (.int k)] [] rfl ?_
  refine own_seg C S2290 [(97, .iinc 4 1, 3), (100, .goto (-74), 3)] (by decide +kernel) 26 #[.val (.ref x), .val (.ref a2089), .val (.ref a2136), .val (.int 1), .val (.int ((0 : Int32) + (1 : Int32))), .val (.int k.toInt8.toInt32), .val (.int k)] [] rfl ?_
  show own_Go p e below _ T2286 (mkF m 26 #[.val (.ref x), .val (.ref a2089), .val (.ref a2136), .val (.int 1), .val (.int 1), .val (.int k.toInt8.toInt32), .val (.int k)] [])
  refine own_seg C S2290 [(26, .iload 4, 2), (28, .iload_n 3, 1)] (by decide +kernel) 29 #[.val (.ref x), .val (.ref a2089), .val (.ref a2136), .val (.int 1), .val (.int 1), .val (.int k.toInt8.toInt32), .val (.int k)] [(.int 1), (.int 1)] rfl ?_
  refine own_icmp C S2290 (q := .ge) (o := 74) (by decide +kernel) 103 (by decide) (by decide) (fun (q2292 : ¬ (1 : Int32) < (1 : Int32)) => ?_) (fun (hq : (1 : Int32) < (1 : Int32)) => False.elim (by revert hq; decide))
  refine own_seg C S2290 [(103, .aload_n 1, 1)] (by decide +kernel) 104 #[.val (.ref x), .val (.ref a2089), .val (.ref a2136), .val (.int 1), .val (.int 1), .val (.int k.toInt8.toInt32), .val (.int k)] [(.ref a2089)] rfl ?_
  have f2293 := (f2262.keep K2280 (allS g2109 (allS g2277 all0)))
  have f2294 : n0 ≤ h2287.size := (Nat.le_trans f2263 K2280.1)
  refine own_callV C S2290 (own_wd hw 190 rfl) (own_wd hw 191 rfl) (own_wd hw 193 rfl) (own_wd hw 193 rfl) rfl (own_wd hw 192 rfl) (by decide) (own_Met.pay (own_ts l Z a0 hw G1 G3 a2089 _ _ _ _ _ ([(.int 37), (.int y2222.toInt8.toInt32), (.int y2270.toInt8.toInt32)]) h2287 n0 f2294 f2293 f2281 f2282 f2283 f2291 f2285 O2 O4 P5 rG3 (by decide) (by decide) (by decide) (by decide) rfl) C 0 (own_wd hw 194 rfl) (own_wd hw 34 rfl) (by decide) (by decide)) (fun _ _ _ q => q.2) f2281 [] [] rfl own_pd30 rfl rfl rfl (Nat.le_of_ble_eq_true rfl) (by decide) (by decide) (by decide +kernel) ?_
  rintro T2305 h2306 v2307 L2308 S2309 ⟨⟨a2295, a2296, k2297, rfl, g2298, g2299, K2300, f2301, f2302, f2303, f2304⟩, -⟩
  show own_Go p e below _ T2305 (mkF m 107 #[.val (.ref x), .val (.ref a2089), .val (.ref a2136), .val (.int 1), .val (.int 1), .val (.int k.toInt8.toInt32), .val (.int k)] [(.ref a2295)])
  have o2311 : h2247.size ≤ h2287.size := (Nat.le_trans (Nat.le_refl _) K2280.1)
  have o2310 : h2247.size ≤ a2296 := Nat.le_trans o2311 g2299
  have o2312 : h2247.size ≤ a2295 := Nat.le_trans o2311 g2298
  have SW2313 := rb2261 _ _ _ _ [a2089, a2229] [a2295, a2296] S2309 (((Keep.refl _ _).trans K2280 (allS (Or.inl (List.mem_of_getElem? (i := 0) rfl)) (allS (Or.inl (List.mem_of_getElem? (i := 1) rfl)) all0))).trans K2300 all0) (allS (List.mem_of_getElem? (i := 1) rfl) (allS (List.mem_of_getElem? (i := 0) rfl) all0)) (allS ⟨o2312, f2301.lt⟩ (allS ⟨o2310, f2304.lt⟩ all0))
  refine own_retAW CW SW2313 rfl rfl (by decide +kernel) (by decide) (by decide) ?_
  subst hy2270
  subst hy2222
  have o2315 : h0.size ≤ h2287.size := (Nat.le_trans (Nat.le_trans (Nat.le_trans (Nat.le_trans (Nat.le_trans (Nat.le_trans (Nat.le_trans o2160 K2139.1) K2151.1) K2185.1) E2204.1) K2232.1) E2252.1) K2280.1)
  have o2314 : h0.size ≤ a2295 := Nat.le_trans o2315 g2298
  have o2316 : h0.size ≤ a2296 := Nat.le_trans o2315 g2299
  have o2318 : h0.size ≤ h2199.size := (Nat.le_trans (Nat.le_trans (Nat.le_trans (Nat.le_trans o2160 K2139.1) K2151.1) K2185.1) E2204.1)
  have o2317 : h0.size ≤ a2229 := Nat.le_trans o2318 g2231
  exact ⟨a2295, a2296, k2297, rfl, o2314, o2316, (((((((((((Keep.refl _ _).ext E2091).trans K2113 (allS (Or.inr o2158) all0)).trans K2139 all0).trans K2151 all0).trans K2185 (allS (Or.inr o2158) (allS (Or.inr o2161) all0))).ext E2204).trans K2232 (allS (Or.inr o2158) all0)).ext E2252).trans K2280 (allS (Or.inr o2158) (allS (Or.inr o2317) all0))).trans K2300 all0), f2301, f2302, f2303, f2304⟩
theorem own_enc2 (l : Launch) (Z : State) (a0 : Array Value) (hw : ∀ d ∈ tables_1, d.before a0 Z = true) (hEL : EW Z a0 own_EL) (wS : ∀ a ∈ Bundle.stringAtoms, a.before a0 Z = true) (G1 : Int32) (G3 : Value) (U8 : Addr) (x : Addr) (b : Addr) (bk : ClassId) (k : Int32) (h0 : Heap) (n0 : Nat) (z0 : n0 ≤ h0.size) (X00 : Old Z n0 h0) (xE : Exa Z h0 x "java/lang/String") (xV : Fld Z h0 x "java/lang/String" "value" "[B" (.ref b)) (xC : Fld Z h0 x "java/lang/String" "coder" "B" (.int 0)) (bK : Arv Z h0 b bk .byte (1 : Int32) ([(.int k.toInt8.toInt32)]) (.int 0)) (bE : Exa Z h0 b "[B") (O2 : Sta Z Z.heap "java/lang/String" "COMPACT_STRINGS" "Z" (.int G1)) (O4 : Sta Z Z.heap "jdk/internal/util/Preconditions" "SIOOBE_FORMATTER" "Ljava/util/function/BiFunction;" G3) (P5 : ¬ G1 = (0 : Int32)) (rG3 : G3.isRef = true) (OU1 : Sta Z Z.heap "java/nio/charset/StandardCharsets" "UTF_8" "Ljava/nio/charset/Charset;" (.ref U8)) (OU2 : Sta Z Z.heap "sun/nio/cs/UTF_8" "INSTANCE" "Lsun/nio/cs/UTF_8;" (.ref U8)) (OA : Sta Z Z.heap "java/lang/StringUTF16" "$assertionsDisabled" "Z" (.int 1)) (OH : Sta Z Z.heap "java/lang/StringUTF16" "HI_BYTE_SHIFT" "I" (.int 0)) (OL : Sta Z Z.heap "java/lang/StringUTF16" "LO_BYTE_SHIFT" "I" (.int 8)) (hb : k.toInt8.toInt32 < 0) (kr : ¬ k < 0 ∧ ¬ (255 : Int32) < k) :
    own_MetW l Z own_EL (⟨"com/example/exact_rest/exactrest/PathSegments", "encode", "(Ljava/lang/String;)Ljava/lang/String;"⟩ : MethodName) prog_13_method_3_code 7 (some (.object "java/lang/String")) ({ frames := 6, cells := 19, slots := 505, locals := 91 } : Room) n0 #[(.ref x)] h0 [] (fun v h => ∃ x2 : Addr, ∃ r : Addr, ∃ rk : ClassId, v = some (.ref x2) ∧ h0.size ≤ x2 ∧ h0.size ≤ r ∧ Keep h0 h [] ∧ Exa Z h x2 "java/lang/String" ∧ Fld Z h x2 "java/lang/String" "coder" "B" (.int 0) ∧ Fld Z h x2 "java/lang/String" "value" "[B" (.ref r) ∧ Arv Z h r rk .byte (6 : Int32) ([(.int 37), (.int ((own_hx (((192 : Int32) ||| (k >>> ((6 : Int32) &&& 31))) >>> ((4 : Int32) &&& 31))).toInt8.toInt32)), (.int ((own_hx (((192 : Int32) ||| (k >>> ((6 : Int32) &&& 31))) &&& (15 : Int32))).toInt8.toInt32)), (.int 37), (.int ((own_hx (((128 : Int32) ||| (k &&& (63 : Int32))) >>> ((4 : Int32) &&& 31))).toInt8.toInt32)), (.int ((own_hx (((128 : Int32) ||| (k &&& (63 : Int32))) &&& (15 : Int32))).toInt8.toInt32))]) (.int 0)) := by
  refine own_metW hEL wS (by decide +kernel) #[.val (.ref x), .unset, .unset, .unset, .unset, .unset, .unset] (fun m => by first | (simp [entryFrame, mkF, argsToLocals, Value.category]; done) | rfl) ?_
  intro p e s m below meth c T0 CW SW0
  refine own_lift CW SW0 ?_
  intro vm2319 C S2320 rb2321
  refine own_new C S2320 (own_wd hw 32 rfl) (own_wd hw 33 rfl) (own_wd hw 34 rfl) (by decide +kernel) (by decide) (by decide) ?_
  intro T2322 h2324 a2325 S2323 g2326 E2327 x2328 D2329
  have f2330 : Fld Z h2324 a2325 "java/lang/AbstractStringBuilder" "value" "[B" .null := D2329 (ty := (.array .byte)) (Or.inl (own_wd hw 57 rfl)) own_fd0
  have f2331 : Fld Z h2324 a2325 "java/lang/AbstractStringBuilder" "coder" "B" (.int 0) := D2329 (ty := .byte) (Or.inl (own_wd hw 59 rfl)) own_fd1
  have f2332 : Fld Z h2324 a2325 "java/lang/AbstractStringBuilder" "count" "I" (.int 0) := D2329 (ty := .int) (Or.inl (own_wd hw 140 rfl)) own_fd2
  refine own_seg C S2323 [(3, .dup, 1), (4, .aload_n 0, 1)] (by decide +kernel) 5 #[.val (.ref x), .unset, .unset, .unset, .unset, .unset, .unset] [(.ref x), (.ref a2325), (.ref a2325)] rfl ?_
  have f2333 := (X00.ext E2327)
  have f2334 := (Exa.ext E2327 xE)
  have f2335 := (Fld.ext E2327 xV)
  have f2336 := (Fld.ext E2327 xC)
  have f2337 := (bK.ext E2327)
  have f2338 : n0 ≤ h2324.size := (Nat.le_trans z0 E2327.1)
  refine own_callV C S2323 (own_wd hw 35 rfl) (own_wd hw 36 rfl) (own_wd hw 38 rfl) (own_wd hw 38 rfl) rfl (own_wd hw 37 rfl) (by decide) (own_Met.pay (own_len l Z a0 hw G1 G3 x _ _ _ _ _ h2324 n0 f2338 f2333 f2334 f2335 f2336 f2337 O2 O4 P5 rG3 (by decide)) C 2 (own_wd hw 39 rfl) (own_wd hw 4 rfl) (by decide) (by decide)) (fun _ _ _ q => q.2) f2334 [] [(.ref a2325), (.ref a2325)] rfl own_pd5 rfl rfl rfl (Nat.le_of_ble_eq_true rfl) (by decide) (by decide) (by decide +kernel) ?_
  rintro T2340 h2341 v2342 L2343 S2344 ⟨⟨rfl, e2339⟩, -⟩
  rw [e2339] at S2344; clear e2339
  show own_Go p e below _ T2340 (mkF m 8 #[.val (.ref x), .unset, .unset, .unset, .unset, .unset, .unset] [(.int ((1 : Int32) >>> ((0 : Int32) &&& 31))), (.ref a2325), (.ref a2325)])
  show own_Go p e below _ T2340 (mkF m 8 #[.val (.ref x), .unset, .unset, .unset, .unset, .unset, .unset] [(.int 1), (.ref a2325), (.ref a2325)])
  have g2345 : n0 ≤ a2325 := by rw [g2326]; exact z0
  refine own_callI C S2344 rfl (own_wd hw 45 rfl) (own_wd hw 46 rfl) (own_wd hw 47 rfl) (by decide) (own_Met.pay (own_sbI1 l Z a0 hw G1 G3 a2325 h2324 n0 f2338 g2345 f2333 x2328 f2330 f2331 f2332 O2 O4 P5 rG3) C 1 (own_wd hw 47 rfl) (own_wd hw 34 rfl) (by decide) (by decide)) (fun _ _ _ q => q.2) [(.int 1)] [(.ref a2325)] rfl own_pd22 rfl rfl rfl (Nat.le_of_ble_eq_true rfl) (by decide) (by decide) (by decide +kernel) ?_
  rintro T2356 h2357 v2358 L2359 S2360 ⟨⟨a2346, k2347, rfl, g2348, K2349, f2350, f2351, f2352, f2353, f2354, f2355⟩, -⟩
  show own_Go p e below _ T2356 (mkF m 11 #[.val (.ref x), .unset, .unset, .unset, .unset, .unset, .unset] [(.ref a2325)])
  refine own_seg C S2360 [(11, .astore_n 1, 1), (12, .aload_n 0, 1)] (by decide +kernel) 13 #[.val (.ref x), .val (.ref a2325), .unset, .unset, .unset, .unset, .unset] [(.ref x)] rfl ?_
  have f2361 := (f2333.keep K2349 (allS g2345 all0))
  refine own_getS C S2360 (own_wd hw 60 rfl) Via.refl (OU1.ext f2361.2) (by decide +kernel) ?_
  intro T2362 S2363
  have f2364 := (f2334.keep K2349)
  have n2365 : x ≠ a2325 := by rw [g2326]; exact Nat.ne_of_lt xE.lt
  have f2366 := (f2335.keep K2349 (ninS n2365 nin0))
  have f2367 := (f2336.keep K2349 (ninS n2365 nin0))
  have n2368 : b ≠ a2325 := by rw [g2326]; exact Nat.ne_of_lt bK.lt
  have f2369 := (f2337.keep K2349 (ninS n2368 nin0))
  have f2370 := ((Exa.ext E2327 bE).keep K2349)
  have f2371 : n0 ≤ h2357.size := (Nat.le_trans f2338 K2349.1)
  refine own_callV C S2363 (own_wd hw 62 rfl) (own_wd hw 63 rfl) (own_wd hw 65 rfl) (own_wd hw 65 rfl) rfl (own_wd hw 64 rfl) (by decide) (own_Met.pay (own_gb2 l Z a0 hw G1 G3 U8 x _ _ k h2357 n0 f2371 f2361 f2364 f2366 f2367 f2369 f2370 O2 O4 P5 rG3 OU1 OU2 OA OH OL hb) C 0 (own_wd hw 66 rfl) (own_wd hw 4 rfl) (by decide) (by decide)) (fun _ _ _ q => q.2) f2364 [(.ref U8)] [] rfl own_pd29 rfl rfl rfl (Nat.le_of_ble_eq_true rfl) (by decide) (by decide) (by decide +kernel) ?_
  rintro T2378 h2379 v2380 L2381 S2382 ⟨⟨a2372, k2373, rfl, g2374, K2375, f2376, f2377⟩, -⟩
  show own_Go p e below _ T2378 (mkF m 19 #[.val (.ref x), .val (.ref a2325), .unset, .unset, .unset, .unset, .unset] [(.ref a2372)])
  refine own_seg C S2382 [(19, .astore_n 2, 1), (20, .aload_n 2, 1)] (by decide +kernel) 21 #[.val (.ref x), .val (.ref a2325), .val (.ref a2372), .unset, .unset, .unset, .unset] [(.ref a2372)] rfl ?_
  refine own_alen C S2382 f2376 (by decide +kernel) ?_
  refine own_seg C S2382 [(22, .istore_n 3, 1), (23, .iconst 0, 1), (24, .istore 4, 2)] (by decide +kernel) 26 #[.val (.ref x), .val (.ref a2325), .val (.ref a2372), .val (.int 2), .val (.int 0), .unset, .unset] [] rfl ?_
  have hki := own_iv kr
  have hk0 : 0 ≤ k.toInt := hki.1
  have hk1 : k.toInt < 2048 := by have e : (255 : Int32).toInt = 255 := rfl; omega
  refine own_seg C S2382 [(26, .iload 4, 2), (28, .iload_n 3, 1)] (by decide +kernel) 29 #[.val (.ref x), .val (.ref a2325), .val (.ref a2372), .val (.int 2), .val (.int 0), .unset, .unset] [(.int 2), (.int 0)] rfl ?_
  refine own_icmp C S2382 (q := .ge) (o := 74) (by decide +kernel) 103 (by decide) (by decide) (fun (hq : ¬ (0 : Int32) < (2 : Int32)) => False.elim (by revert hq; decide)) (fun (q2383 : (0 : Int32) < (2 : Int32)) => ?_)
  refine own_seg C S2382 [(32, .aload_n 2, 1), (33, .iload 4, 2)] (by decide +kernel) 35 #[.val (.ref x), .val (.ref a2325), .val (.ref a2372), .val (.int 2), .val (.int 0), .unset, .unset] [(.int 0), (.ref a2372)] rfl ?_
  refine own_baload C S2382 f2376 ⟨(by decide), (by decide)⟩ (.int (((192 : Int32) ||| ((k.toInt8.toInt32 &&& (255 : Int32)) >>> ((6 : Int32) &&& 31))).toInt8.toInt32)) rfl (by decide +kernel) ?_
  refine own_seg C S2382 [(36, .istore 5, 2), (38, .iload 5, 2), (40, .sipush 255, 3), (43, .iand, 1), (44, .i2c, 1), (45, .istore 6, 2)] (by decide +kernel) 47 #[.val (.ref x), .val (.ref a2325), .val (.ref a2372), .val (.int 2), .val (.int 0), .val (.int (((192 : Int32) ||| ((k.toInt8.toInt32 &&& (255 : Int32)) >>> ((6 : Int32) &&& 31))).toInt8.toInt32)), .val (.int ((((192 : Int32) ||| ((k.toInt8.toInt32 &&& (255 : Int32)) >>> ((6 : Int32) &&& 31))).toInt8.toInt32 &&& (255 : Int32)).toUInt32.toUInt16.toUInt32.toInt32))] [] rfl ?_
  rw [show (((192 : Int32) ||| ((k.toInt8.toInt32 &&& (255 : Int32)) >>> ((6 : Int32) &&& 31))).toInt8.toInt32 &&& (255 : Int32)).toUInt32.toUInt16.toUInt32.toInt32 = ((192 : Int32) ||| ((k.toInt8.toInt32 &&& (255 : Int32)) >>> ((6 : Int32) &&& 31))) from own_by (by first | (rw [own_k8 kr]; exact (own_x2a hk0 hk1).1) | (rw [own_k63 k]; exact (own_x2a hk0 hk1).1))]
  rw [show (k.toInt8.toInt32 &&& (255 : Int32)) = k from own_k8 kr]
  obtain ⟨z2384, hz2384⟩ : ∃ y, y = ((192 : Int32) ||| (k >>> ((6 : Int32) &&& 31))) := ⟨_, rfl⟩
  rw [← hz2384]
  have hb2385 : ¬ z2384 < 0 ∧ ¬ (255 : Int32) < z2384 := by rw [hz2384]; exact (own_x2a hk0 hk1).1
  have hb2386 : ¬ z2384 < 128 := by rw [hz2384]; exact (own_x2a hk0 hk1).2
  refine own_seg C S2382 [(47, .iload 6, 2)] (by decide +kernel) 49 #[.val (.ref x), .val (.ref a2325), .val (.ref a2372), .val (.int 2), .val (.int 0), .val (.int z2384.toInt8.toInt32), .val (.int z2384)] [(.int z2384)] rfl ?_
  have f2387 := (f2361.keep K2375 all0)
  have f2388 : n0 ≤ h2379.size := (Nat.le_trans f2371 K2375.1)
  have o2397 : h0.size ≤ a2325 := by rw [g2326]; exact (Nat.le_refl _)
  have o2399 : h0.size ≤ h2357.size := (Nat.le_trans (Nat.le_trans (Nat.le_refl _) E2327.1) K2349.1)
  have o2398 : h0.size ≤ a2372 := Nat.le_trans o2399 g2374
  have o2401 : h0.size ≤ h2324.size := (Nat.le_trans (Nat.le_refl _) E2327.1)
  have o2400 : h0.size ≤ a2346 := Nat.le_trans o2401 g2348
  have f2402 : a2346 < h2379.size := (Nat.lt_of_lt_of_le f2354.lt K2375.1)
  have f2403 : a2325 < h2379.size := (Nat.lt_of_lt_of_le (Nat.lt_of_lt_of_le f2330.lt K2349.1) K2375.1)
  have SW2404 := rb2321 _ _ _ _ [] [a2325, a2346, a2372] S2382 ((((Keep.refl _ _).ext E2327).trans K2349 (allS (Or.inr o2397) all0)).trans K2375 all0) all0 (allS ⟨o2397, f2403⟩ (allS ⟨o2400, f2402⟩ (allS ⟨o2398, f2376.lt⟩ all0)))
  refine own_callSW CW SW2404 (own_wd hw 91 rfl) (own_wd hw 92 rfl) (own_wd hw 30 rfl) (own_wd hw 93 rfl) (by decide) (own_ipc l Z a0 hw hEL wS G1 G3 U8 z2384 h2379 n0 f2388 f2387 O2 O4 P5 rG3 OU1 OU2 OA OH OL hb2385) all0 0 (by decide) (by decide) [(.int z2384)] [] rfl own_pd11 rfl rfl rfl (Nat.le_of_ble_eq_true rfl) (by decide) (by decide) (by decide +kernel) ?_
  rintro T2405 h2406 v2407 SW2408 hg2409 ⟨y2389, rfl, K2390, p2391⟩
  show own_Go p e below _ T2405 (mkF m 52 #[.val (.ref x), .val (.ref a2325), .val (.ref a2372), .val (.int 2), .val (.int 0), .val (.int z2384.toInt8.toInt32), .val (.int z2384)] [(.int y2389)])
  have hr2410 : y2389 = 0 := own_PC.zero p2391 (own_al.no hb2386)
  subst hr2410
  refine own_lift CW SW2408 ?_
  intro vm2411 C S2412 rb2413
  refine own_if C S2412 (q := .eq) (o := 13) (by decide +kernel) 65 (by decide) (by decide) (fun (q2414 : (0 : Int32) = (0 : Int32)) => ?_) (fun (hq : ¬ (0 : Int32) = (0 : Int32)) => False.elim (hq rfl))
  refine own_seg C S2412 [(65, .aload_n 1, 1), (66, .bipush 37, 2)] (by decide +kernel) 68 #[.val (.ref x), .val (.ref a2325), .val (.ref a2372), .val (.int 2), .val (.int 0), .val (.int z2384.toInt8.toInt32), .val (.int z2384)] [(.int 37), (.ref a2325)] rfl ?_
  have f2415 := (f2387.keep K2390 all0)
  have f2416 := ((f2350.keep K2375).keep K2390)
  have f2417 := ((f2351.keep K2375 nin0).keep K2390 nin0)
  have f2418 := ((f2352.keep K2375 nin0).keep K2390 nin0)
  have f2419 := ((f2353.keep K2375 nin0).keep K2390 nin0)
  have f2420 := ((f2354.keep K2375 nin0).keep K2390 nin0)
  have f2421 : n0 ≤ h2406.size := (Nat.le_trans f2388 K2390.1)
  have g2422 : n0 ≤ a2346 := Nat.le_trans f2338 g2348
  have n2423 : a2325 ≠ a2346 := Nat.ne_of_lt (Nat.lt_of_lt_of_le f2330.lt g2348)
  refine own_callV C S2412 (own_wd hw 129 rfl) (own_wd hw 130 rfl) (own_wd hw 132 rfl) (own_wd hw 132 rfl) rfl (own_wd hw 131 rfl) (by decide) (own_Met.pay (own_sbC l Z a0 hw G1 G3 a2325 _ _ _ _ _ (37 : Int32) ([(.int 37)]) h2406 n0 f2421 g2345 g2422 f2415 f2416 f2417 f2418 f2419 f2420 (Ne.symm n2423) O2 O4 P5 rG3 (by decide) (by decide) (by decide) (Nat.le_of_ble_eq_true rfl) rfl) C 0 (own_wd hw 133 rfl) (own_wd hw 34 rfl) (by decide) (by decide)) (fun _ _ _ q => q.2) f2416 [(.int 37)] [] rfl own_pd31 rfl rfl rfl (Nat.le_of_ble_eq_true rfl) (by decide) (by decide) (by decide +kernel) ?_
  rintro T2430 h2431 v2432 L2433 S2434 ⟨⟨rfl, K2424, f2425, f2426, f2427, f2428, f2429⟩, -⟩
  have f2435 : Fld Z h2431 a2325 "java/lang/AbstractStringBuilder" "count" "I" (.int 1) := f2428
  show own_Go p e below _ T2430 (mkF m 71 #[.val (.ref x), .val (.ref a2325), .val (.ref a2372), .val (.int 2), .val (.int 0), .val (.int z2384.toInt8.toInt32), .val (.int z2384)] [(.ref a2325)])
  have SW2436 := rb2413 _ _ _ _ [a2325, a2346] [] S2434 ((Keep.refl _ _).trans K2424 (allS (Or.inl (List.mem_of_getElem? (i := 0) rfl)) (allS (Or.inl (List.mem_of_getElem? (i := 1) rfl)) all0))) (allS (List.mem_of_getElem? (i := 0) rfl) (allS (List.mem_of_getElem? (i := 1) rfl) all0)) all0
  refine own_ldcWE CW SW2436 (own_wd hw 152 rfl) (List.mem_of_getElem? (i := 0) rfl) (z := (16 : Int32)) (vs := own_lv1) ⟨by decide, by decide⟩ (by decide) rfl (by decide +kernel) 64 (by decide) (by decide) (by decide) (by decide) ?_
  intro T2437 h2438 a2439 b2440 k2441 SW2442 E2443 x2444 f2445 f2446 f2447 ne2448 x2449
  refine own_lift CW SW2442 ?_
  intro vm2450 C S2451 rb2452
  refine own_seg C S2451 [(73, .iload 6, 2), (75, .iconst 4, 1), (76, .ishr, 1)] (by decide +kernel) 77 #[.val (.ref x), .val (.ref a2325), .val (.ref a2372), .val (.int 2), .val (.int 0), .val (.int z2384.toInt8.toInt32), .val (.int z2384)] [(.int (z2384 >>> ((4 : Int32) &&& 31))), (.ref a2439), (.ref a2325)] rfl ?_
  have f2453 := ((f2415.keep K2424 (allS g2345 (allS g2422 all0))).ext E2443)
  have f2454 : n0 ≤ h2438.size := (Nat.le_trans (Nat.le_trans f2421 K2424.1) E2443.1)
  refine own_callV C S2451 (own_wd hw 153 rfl) (own_wd hw 154 rfl) (own_wd hw 156 rfl) (own_wd hw 156 rfl) rfl (own_wd hw 155 rfl) (by decide) (own_Met.pay (own_sch l Z a0 hw G1 G3 a2439 _ _ _ _ (z2384 >>> ((4 : Int32) &&& 31)) (own_hx (z2384 >>> ((4 : Int32) &&& 31))) (own_hx (z2384 >>> ((4 : Int32) &&& 31))) h2438 n0 f2454 f2453 x2444 f2446 f2445 f2447 O2 O4 P5 rG3 (own_j16 (own_d4 hb2385).1) (own_hxV _) (own_hcc _) (own_c16 (own_hxB _))) C 1 (own_wd hw 157 rfl) (own_wd hw 4 rfl) (by decide) (by decide)) (fun _ _ _ q => q.2) x2444 [(.int (z2384 >>> ((4 : Int32) &&& 31)))] [(.ref a2325)] rfl own_pd32 rfl rfl rfl (Nat.le_of_ble_eq_true rfl) (by decide) (by decide) (by decide +kernel) ?_
  rintro T2456 h2457 v2458 L2459 S2460 ⟨⟨rfl, e2455⟩, -⟩
  rw [e2455] at S2460; clear e2455
  show own_Go p e below _ T2456 (mkF m 80 #[.val (.ref x), .val (.ref a2325), .val (.ref a2372), .val (.int 2), .val (.int 0), .val (.int z2384.toInt8.toInt32), .val (.int z2384)] [(.int (own_hx (z2384 >>> ((4 : Int32) &&& 31)))), (.ref a2325)])
  obtain ⟨y2461, hy2461⟩ : ∃ y, y = (own_hx (z2384 >>> ((4 : Int32) &&& 31))) := ⟨_, rfl⟩
  rw [← hy2461]
  have hb2462 : ¬ y2461 < 0 ∧ ¬ (255 : Int32) < y2461 := by rw [hy2461]; exact own_hxB _
  have f2463 := (Exa.ext E2443 f2425)
  have f2464 := (Fld.ext E2443 f2426)
  have f2465 := (Fld.ext E2443 f2427)
  have f2466 := (Fld.ext E2443 f2435)
  have f2467 := (f2429.ext E2443)
  refine own_callV C S2460 (own_wd hw 129 rfl) (own_wd hw 130 rfl) (own_wd hw 132 rfl) (own_wd hw 132 rfl) rfl (own_wd hw 131 rfl) (by decide) (own_Met.pay (own_sbG1 l Z a0 hw G1 G3 a2325 _ _ (37 : Int32) y2461 h2438 n0 f2454 g2345 f2453 f2463 f2464 f2465 f2466 f2467 (Ne.symm n2423) O2 O4 P5 rG3 ((hb2462).2)) C 0 (own_wd hw 133 rfl) (own_wd hw 34 rfl) (by decide) (by decide)) (fun _ _ _ q => q.2) f2463 [(.int y2461)] [] rfl own_pd31 rfl rfl rfl (Nat.le_of_ble_eq_true rfl) (by decide) (by decide) (by decide +kernel) ?_
  rintro T2478 h2479 v2480 L2481 S2482 ⟨⟨a2468, k2469, rfl, g2470, K2471, f2472, f2473, f2474, f2475, f2476, f2477⟩, -⟩
  show own_Go p e below _ T2478 (mkF m 83 #[.val (.ref x), .val (.ref a2325), .val (.ref a2372), .val (.int 2), .val (.int 0), .val (.int z2384.toInt8.toInt32), .val (.int z2384)] [(.ref a2325)])
  have o2483 : h2438.size ≤ a2468 := Nat.le_trans (Nat.le_refl _) g2470
  have SW2484 := rb2452 _ _ _ _ [a2325] [a2468] S2482 ((Keep.refl _ _).trans K2471 (allS (Or.inl (List.mem_of_getElem? (i := 0) rfl)) all0)) (allS (List.mem_of_getElem? (i := 0) rfl) all0) (allS ⟨o2483, f2476.lt⟩ all0)
  refine own_ldcWE CW SW2484 (own_wd hw 152 rfl) (List.mem_of_getElem? (i := 0) rfl) (z := (16 : Int32)) (vs := own_lv1) ⟨by decide, by decide⟩ (by decide) rfl (by decide +kernel) 64 (by decide) (by decide) (by decide) (by decide) ?_
  intro T2485 h2486 a2487 b2488 k2489 SW2490 E2491 x2492 f2493 f2494 f2495 ne2496 x2497
  refine own_lift CW SW2490 ?_
  intro vm2498 C S2499 rb2500
  refine own_seg C S2499 [(85, .iload 6, 2), (87, .bipush 15, 2), (89, .iand, 1)] (by decide +kernel) 90 #[.val (.ref x), .val (.ref a2325), .val (.ref a2372), .val (.int 2), .val (.int 0), .val (.int z2384.toInt8.toInt32), .val (.int z2384)] [(.int (z2384 &&& (15 : Int32))), (.ref a2487), (.ref a2325)] rfl ?_
  have f2501 := ((f2453.keep K2471 (allS g2345 all0)).ext E2491)
  have f2502 : n0 ≤ h2486.size := (Nat.le_trans (Nat.le_trans f2454 K2471.1) E2491.1)
  refine own_callV C S2499 (own_wd hw 153 rfl) (own_wd hw 154 rfl) (own_wd hw 156 rfl) (own_wd hw 156 rfl) rfl (own_wd hw 155 rfl) (by decide) (own_Met.pay (own_sch l Z a0 hw G1 G3 a2487 _ _ _ _ (z2384 &&& (15 : Int32)) (own_hx (z2384 &&& (15 : Int32))) (own_hx (z2384 &&& (15 : Int32))) h2486 n0 f2502 f2501 x2492 f2494 f2493 f2495 O2 O4 P5 rG3 (own_j16 (own_d4 hb2385).2) (own_hxV _) (own_hcc _) (own_c16 (own_hxB _))) C 1 (own_wd hw 157 rfl) (own_wd hw 4 rfl) (by decide) (by decide)) (fun _ _ _ q => q.2) x2492 [(.int (z2384 &&& (15 : Int32)))] [(.ref a2325)] rfl own_pd32 rfl rfl rfl (Nat.le_of_ble_eq_true rfl) (by decide) (by decide) (by decide +kernel) ?_
  rintro T2504 h2505 v2506 L2507 S2508 ⟨⟨rfl, e2503⟩, -⟩
  rw [e2503] at S2508; clear e2503
  show own_Go p e below _ T2504 (mkF m 93 #[.val (.ref x), .val (.ref a2325), .val (.ref a2372), .val (.int 2), .val (.int 0), .val (.int z2384.toInt8.toInt32), .val (.int z2384)] [(.int (own_hx (z2384 &&& (15 : Int32)))), (.ref a2325)])
  obtain ⟨y2509, hy2509⟩ : ∃ y, y = (own_hx (z2384 &&& (15 : Int32))) := ⟨_, rfl⟩
  rw [← hy2509]
  have hb2510 : ¬ y2509 < 0 ∧ ¬ (255 : Int32) < y2509 := by rw [hy2509]; exact own_hxB _
  have f2511 := (Exa.ext E2491 f2472)
  have f2512 := (Fld.ext E2491 f2473)
  have f2513 := (Fld.ext E2491 f2474)
  have f2514 := (Fld.ext E2491 f2475)
  have f2515 := (f2476.ext E2491)
  have g2516 : n0 ≤ a2468 := Nat.le_trans f2454 g2470
  have f2517 : a2325 < h2438.size := (Nat.lt_of_lt_of_le (Nat.lt_of_lt_of_le (Nat.lt_of_lt_of_le f2403 K2390.1) K2424.1) E2443.1)
  have n2518 : a2325 ≠ a2468 := Nat.ne_of_lt (Nat.lt_of_lt_of_le f2517 g2470)
  refine own_callV C S2508 (own_wd hw 129 rfl) (own_wd hw 130 rfl) (own_wd hw 132 rfl) (own_wd hw 132 rfl) rfl (own_wd hw 131 rfl) (by decide) (own_Met.pay (own_sbC l Z a0 hw G1 G3 a2325 _ _ _ _ _ y2509 ([(.int 37), (.int y2461.toInt8.toInt32), (.int y2509.toInt8.toInt32), (.int 0)]) h2486 n0 f2502 g2345 g2516 f2501 f2511 f2512 f2513 f2514 f2515 (Ne.symm n2518) O2 O4 P5 rG3 hb2510.2 (by decide) (by decide) (Nat.le_of_ble_eq_true rfl) rfl) C 0 (own_wd hw 133 rfl) (own_wd hw 34 rfl) (by decide) (by decide)) (fun _ _ _ q => q.2) f2511 [(.int y2509)] [] rfl own_pd31 rfl rfl rfl (Nat.le_of_ble_eq_true rfl) (by decide) (by decide) (by decide +kernel) ?_
  rintro T2525 h2526 v2527 L2528 S2529 ⟨⟨rfl, K2519, f2520, f2521, f2522, f2523, f2524⟩, -⟩
  have f2530 : Fld Z h2526 a2325 "java/lang/AbstractStringBuilder" "count" "I" (.int 3) := f2523
  show own_Go p e below _ T2525 (mkF m 96 #[.val (.ref x), .val (.ref a2325), .val (.ref a2372), .val (.int 2), .val (.int 0), .val (.int z2384.toInt8.toInt32), .val (.int z2384)] [(.ref a2325)])
  refine own_seg C S2529 [(96, .pop, 1)] (by decide +kernel) 97 #[.val (.ref x), .val (.ref a2325), .val (.ref a2372), .val (.int 2), .val (.int 0), .val (.int z2384.toInt8.toInt32), .val (.int z2384)] [] rfl ?_
  refine own_seg C S2529 [(97, .iinc 4 1, 3), (100, .goto (-74), 3)] (by decide +kernel) 26 #[.val (.ref x), .val (.ref a2325), .val (.ref a2372), .val (.int 2), .val (.int ((0 : Int32) + (1 : Int32))), .val (.int z2384.toInt8.toInt32), .val (.int z2384)] [] rfl ?_
  show own_Go p e below _ T2525 (mkF m 26 #[.val (.ref x), .val (.ref a2325), .val (.ref a2372), .val (.int 2), .val (.int 1), .val (.int z2384.toInt8.toInt32), .val (.int z2384)] [])
  refine own_seg C S2529 [(26, .iload 4, 2), (28, .iload_n 3, 1)] (by decide +kernel) 29 #[.val (.ref x), .val (.ref a2325), .val (.ref a2372), .val (.int 2), .val (.int 1), .val (.int z2384.toInt8.toInt32), .val (.int z2384)] [(.int 2), (.int 1)] rfl ?_
  refine own_icmp C S2529 (q := .ge) (o := 74) (by decide +kernel) 103 (by decide) (by decide) (fun (hq : ¬ (1 : Int32) < (2 : Int32)) => False.elim (by revert hq; decide)) (fun (q2531 : (1 : Int32) < (2 : Int32)) => ?_)
  refine own_seg C S2529 [(32, .aload_n 2, 1), (33, .iload 4, 2)] (by decide +kernel) 35 #[.val (.ref x), .val (.ref a2325), .val (.ref a2372), .val (.int 2), .val (.int 1), .val (.int z2384.toInt8.toInt32), .val (.int z2384)] [(.int 1), (.ref a2372)] rfl ?_
  have n2532 : a2346 ≠ a2372 := Nat.ne_of_lt (Nat.lt_of_lt_of_le f2354.lt g2374)
  have f2533 : a2325 < h2357.size := (Nat.lt_of_lt_of_le f2330.lt K2349.1)
  have n2534 : a2325 ≠ a2372 := Nat.ne_of_lt (Nat.lt_of_lt_of_le f2533 g2374)
  have f2535 : a2372 < h2438.size := (Nat.lt_of_lt_of_le (Nat.lt_of_lt_of_le (Nat.lt_of_lt_of_le f2376.lt K2390.1) K2424.1) E2443.1)
  have n2536 : a2372 ≠ a2468 := Nat.ne_of_lt (Nat.lt_of_lt_of_le f2535 g2470)
  have f2537 := ((((((f2376.keep K2390 nin0).keep K2424 (ninS (Ne.symm n2534) (ninS (Ne.symm n2532) nin0))).ext E2443).keep K2471 (ninS (Ne.symm n2534) nin0)).ext E2491).keep K2519 (ninS (Ne.symm n2534) (ninS n2536 nin0)))
  refine own_baload C S2529 f2537 ⟨(by decide), (by decide)⟩ (.int (((128 : Int32) ||| (k.toInt8.toInt32 &&& (63 : Int32))).toInt8.toInt32)) rfl (by decide +kernel) ?_
  refine own_seg C S2529 [(36, .istore 5, 2), (38, .iload 5, 2), (40, .sipush 255, 3), (43, .iand, 1), (44, .i2c, 1), (45, .istore 6, 2)] (by decide +kernel) 47 #[.val (.ref x), .val (.ref a2325), .val (.ref a2372), .val (.int 2), .val (.int 1), .val (.int (((128 : Int32) ||| (k.toInt8.toInt32 &&& (63 : Int32))).toInt8.toInt32)), .val (.int ((((128 : Int32) ||| (k.toInt8.toInt32 &&& (63 : Int32))).toInt8.toInt32 &&& (255 : Int32)).toUInt32.toUInt16.toUInt32.toInt32))] [] rfl ?_
  rw [show (((128 : Int32) ||| (k.toInt8.toInt32 &&& (63 : Int32))).toInt8.toInt32 &&& (255 : Int32)).toUInt32.toUInt16.toUInt32.toInt32 = ((128 : Int32) ||| (k.toInt8.toInt32 &&& (63 : Int32))) from own_by (by first | (rw [own_k8 kr]; exact (own_xb k).1) | (rw [own_k63 k]; exact (own_xb k).1))]
  rw [show (k.toInt8.toInt32 &&& (63 : Int32)) = (k &&& (63 : Int32)) from own_k63 k]
  obtain ⟨z2538, hz2538⟩ : ∃ y, y = ((128 : Int32) ||| (k &&& (63 : Int32))) := ⟨_, rfl⟩
  rw [← hz2538]
  have hb2539 : ¬ z2538 < 0 ∧ ¬ (255 : Int32) < z2538 := by rw [hz2538]; exact (own_xb k).1
  have hb2540 : ¬ z2538 < 128 := by rw [hz2538]; exact (own_xb k).2
  refine own_seg C S2529 [(47, .iload 6, 2)] (by decide +kernel) 49 #[.val (.ref x), .val (.ref a2325), .val (.ref a2372), .val (.int 2), .val (.int 1), .val (.int z2538.toInt8.toInt32), .val (.int z2538)] [(.int z2538)] rfl ?_
  have f2541 := (f2501.keep K2519 (allS g2345 (allS g2516 all0)))
  have f2542 : n0 ≤ h2526.size := (Nat.le_trans f2502 K2519.1)
  have SW2551 := rb2500 _ _ _ _ [a2325, a2468] [] S2529 ((Keep.refl _ _).trans K2519 (allS (Or.inl (List.mem_of_getElem? (i := 0) rfl)) (allS (Or.inl (List.mem_of_getElem? (i := 1) rfl)) all0))) (allS (List.mem_of_getElem? (i := 1) rfl) (allS (List.mem_of_getElem? (i := 0) rfl) all0)) all0
  refine own_callSW CW SW2551 (own_wd hw 91 rfl) (own_wd hw 92 rfl) (own_wd hw 30 rfl) (own_wd hw 93 rfl) (by decide) (own_ipc l Z a0 hw hEL wS G1 G3 U8 z2538 h2526 n0 f2542 f2541 O2 O4 P5 rG3 OU1 OU2 OA OH OL hb2539) all0 0 (by decide) (by decide) [(.int z2538)] [] rfl own_pd11 rfl rfl rfl (Nat.le_of_ble_eq_true rfl) (by decide) (by decide) (by decide +kernel) ?_
  rintro T2552 h2553 v2554 SW2555 hg2556 ⟨y2543, rfl, K2544, p2545⟩
  show own_Go p e below _ T2552 (mkF m 52 #[.val (.ref x), .val (.ref a2325), .val (.ref a2372), .val (.int 2), .val (.int 1), .val (.int z2538.toInt8.toInt32), .val (.int z2538)] [(.int y2543)])
  have hr2557 : y2543 = 0 := own_PC.zero p2545 (own_al.no hb2540)
  subst hr2557
  refine own_lift CW SW2555 ?_
  intro vm2558 C S2559 rb2560
  refine own_if C S2559 (q := .eq) (o := 13) (by decide +kernel) 65 (by decide) (by decide) (fun (q2561 : (0 : Int32) = (0 : Int32)) => ?_) (fun (hq : ¬ (0 : Int32) = (0 : Int32)) => False.elim (hq rfl))
  refine own_seg C S2559 [(65, .aload_n 1, 1), (66, .bipush 37, 2)] (by decide +kernel) 68 #[.val (.ref x), .val (.ref a2325), .val (.ref a2372), .val (.int 2), .val (.int 1), .val (.int z2538.toInt8.toInt32), .val (.int z2538)] [(.int 37), (.ref a2325)] rfl ?_
  have f2562 := (f2541.keep K2544 all0)
  have f2563 := (f2520.keep K2544)
  have f2564 := (f2521.keep K2544 nin0)
  have f2565 := (f2522.keep K2544 nin0)
  have f2566 := (f2530.keep K2544 nin0)
  have f2567 := (f2524.keep K2544 nin0)
  have f2568 : n0 ≤ h2553.size := (Nat.le_trans f2542 K2544.1)
  refine own_callV C S2559 (own_wd hw 129 rfl) (own_wd hw 130 rfl) (own_wd hw 132 rfl) (own_wd hw 132 rfl) rfl (own_wd hw 131 rfl) (by decide) (own_Met.pay (own_sbC l Z a0 hw G1 G3 a2325 _ _ _ _ _ (37 : Int32) ([(.int 37), (.int y2461.toInt8.toInt32), (.int y2509.toInt8.toInt32), (.int 37)]) h2553 n0 f2568 g2345 g2516 f2562 f2563 f2564 f2565 f2566 f2567 (Ne.symm n2518) O2 O4 P5 rG3 (by decide) (by decide) (by decide) (Nat.le_of_ble_eq_true rfl) rfl) C 0 (own_wd hw 133 rfl) (own_wd hw 34 rfl) (by decide) (by decide)) (fun _ _ _ q => q.2) f2563 [(.int 37)] [] rfl own_pd31 rfl rfl rfl (Nat.le_of_ble_eq_true rfl) (by decide) (by decide) (by decide +kernel) ?_
  rintro T2575 h2576 v2577 L2578 S2579 ⟨⟨rfl, K2569, f2570, f2571, f2572, f2573, f2574⟩, -⟩
  have f2580 : Fld Z h2576 a2325 "java/lang/AbstractStringBuilder" "count" "I" (.int 4) := f2573
  show own_Go p e below _ T2575 (mkF m 71 #[.val (.ref x), .val (.ref a2325), .val (.ref a2372), .val (.int 2), .val (.int 1), .val (.int z2538.toInt8.toInt32), .val (.int z2538)] [(.ref a2325)])
  have SW2581 := rb2560 _ _ _ _ [a2325, a2468] [] S2579 ((Keep.refl _ _).trans K2569 (allS (Or.inl (List.mem_of_getElem? (i := 0) rfl)) (allS (Or.inl (List.mem_of_getElem? (i := 1) rfl)) all0))) (allS (List.mem_of_getElem? (i := 1) rfl) (allS (List.mem_of_getElem? (i := 0) rfl) all0)) all0
  refine own_ldcWE CW SW2581 (own_wd hw 152 rfl) (List.mem_of_getElem? (i := 0) rfl) (z := (16 : Int32)) (vs := own_lv1) ⟨by decide, by decide⟩ (by decide) rfl (by decide +kernel) 64 (by decide) (by decide) (by decide) (by decide) ?_
  intro T2582 h2583 a2584 b2585 k2586 SW2587 E2588 x2589 f2590 f2591 f2592 ne2593 x2594
  refine own_lift CW SW2587 ?_
  intro vm2595 C S2596 rb2597
  refine own_seg C S2596 [(73, .iload 6, 2), (75, .iconst 4, 1), (76, .ishr, 1)] (by decide +kernel) 77 #[.val (.ref x), .val (.ref a2325), .val (.ref a2372), .val (.int 2), .val (.int 1), .val (.int z2538.toInt8.toInt32), .val (.int z2538)] [(.int (z2538 >>> ((4 : Int32) &&& 31))), (.ref a2584), (.ref a2325)] rfl ?_
  have f2598 := ((f2562.keep K2569 (allS g2345 (allS g2516 all0))).ext E2588)
  have f2599 : n0 ≤ h2583.size := (Nat.le_trans (Nat.le_trans f2568 K2569.1) E2588.1)
  refine own_callV C S2596 (own_wd hw 153 rfl) (own_wd hw 154 rfl) (own_wd hw 156 rfl) (own_wd hw 156 rfl) rfl (own_wd hw 155 rfl) (by decide) (own_Met.pay (own_sch l Z a0 hw G1 G3 a2584 _ _ _ _ (z2538 >>> ((4 : Int32) &&& 31)) (own_hx (z2538 >>> ((4 : Int32) &&& 31))) (own_hx (z2538 >>> ((4 : Int32) &&& 31))) h2583 n0 f2599 f2598 x2589 f2591 f2590 f2592 O2 O4 P5 rG3 (own_j16 (own_d4 hb2539).1) (own_hxV _) (own_hcc _) (own_c16 (own_hxB _))) C 1 (own_wd hw 157 rfl) (own_wd hw 4 rfl) (by decide) (by decide)) (fun _ _ _ q => q.2) x2589 [(.int (z2538 >>> ((4 : Int32) &&& 31)))] [(.ref a2325)] rfl own_pd32 rfl rfl rfl (Nat.le_of_ble_eq_true rfl) (by decide) (by decide) (by decide +kernel) ?_
  rintro T2601 h2602 v2603 L2604 S2605 ⟨⟨rfl, e2600⟩, -⟩
  rw [e2600] at S2605; clear e2600
  show own_Go p e below _ T2601 (mkF m 80 #[.val (.ref x), .val (.ref a2325), .val (.ref a2372), .val (.int 2), .val (.int 1), .val (.int z2538.toInt8.toInt32), .val (.int z2538)] [(.int (own_hx (z2538 >>> ((4 : Int32) &&& 31)))), (.ref a2325)])
  obtain ⟨y2606, hy2606⟩ : ∃ y, y = (own_hx (z2538 >>> ((4 : Int32) &&& 31))) := ⟨_, rfl⟩
  rw [← hy2606]
  have hb2607 : ¬ y2606 < 0 ∧ ¬ (255 : Int32) < y2606 := by rw [hy2606]; exact own_hxB _
  have f2608 := (Exa.ext E2588 f2570)
  have f2609 := (Fld.ext E2588 f2571)
  have f2610 := (Fld.ext E2588 f2572)
  have f2611 := (Fld.ext E2588 f2580)
  have f2612 := (f2574.ext E2588)
  refine own_callV C S2605 (own_wd hw 129 rfl) (own_wd hw 130 rfl) (own_wd hw 132 rfl) (own_wd hw 132 rfl) rfl (own_wd hw 131 rfl) (by decide) (own_Met.pay (own_sbG4 l Z a0 hw G1 G3 a2325 _ _ (37 : Int32) y2461.toInt8.toInt32 y2509.toInt8.toInt32 (37 : Int32) y2606 h2583 n0 f2599 g2345 f2598 f2608 f2609 f2610 f2611 f2612 (Ne.symm n2518) O2 O4 P5 rG3 ((hb2607).2)) C 0 (own_wd hw 133 rfl) (own_wd hw 34 rfl) (by decide) (by decide)) (fun _ _ _ q => q.2) f2608 [(.int y2606)] [] rfl own_pd31 rfl rfl rfl (Nat.le_of_ble_eq_true rfl) (by decide) (by decide) (by decide +kernel) ?_
  rintro T2623 h2624 v2625 L2626 S2627 ⟨⟨a2613, k2614, rfl, g2615, K2616, f2617, f2618, f2619, f2620, f2621, f2622⟩, -⟩
  show own_Go p e below _ T2623 (mkF m 83 #[.val (.ref x), .val (.ref a2325), .val (.ref a2372), .val (.int 2), .val (.int 1), .val (.int z2538.toInt8.toInt32), .val (.int z2538)] [(.ref a2325)])
  have o2628 : h2583.size ≤ a2613 := Nat.le_trans (Nat.le_refl _) g2615
  have SW2629 := rb2597 _ _ _ _ [a2325] [a2613] S2627 ((Keep.refl _ _).trans K2616 (allS (Or.inl (List.mem_of_getElem? (i := 0) rfl)) all0)) (allS (List.mem_of_getElem? (i := 1) rfl) all0) (allS ⟨o2628, f2621.lt⟩ all0)
  refine own_ldcWE CW SW2629 (own_wd hw 152 rfl) (List.mem_of_getElem? (i := 0) rfl) (z := (16 : Int32)) (vs := own_lv1) ⟨by decide, by decide⟩ (by decide) rfl (by decide +kernel) 64 (by decide) (by decide) (by decide) (by decide) ?_
  intro T2630 h2631 a2632 b2633 k2634 SW2635 E2636 x2637 f2638 f2639 f2640 ne2641 x2642
  refine own_lift CW SW2635 ?_
  intro vm2643 C S2644 rb2645
  refine own_seg C S2644 [(85, .iload 6, 2), (87, .bipush 15, 2), (89, .iand, 1)] (by decide +kernel) 90 #[.val (.ref x), .val (.ref a2325), .val (.ref a2372), .val (.int 2), .val (.int 1), .val (.int z2538.toInt8.toInt32), .val (.int z2538)] [(.int (z2538 &&& (15 : Int32))), (.ref a2632), (.ref a2325)] rfl ?_
  have f2646 := ((f2598.keep K2616 (allS g2345 all0)).ext E2636)
  have f2647 : n0 ≤ h2631.size := (Nat.le_trans (Nat.le_trans f2599 K2616.1) E2636.1)
  refine own_callV C S2644 (own_wd hw 153 rfl) (own_wd hw 154 rfl) (own_wd hw 156 rfl) (own_wd hw 156 rfl) rfl (own_wd hw 155 rfl) (by decide) (own_Met.pay (own_sch l Z a0 hw G1 G3 a2632 _ _ _ _ (z2538 &&& (15 : Int32)) (own_hx (z2538 &&& (15 : Int32))) (own_hx (z2538 &&& (15 : Int32))) h2631 n0 f2647 f2646 x2637 f2639 f2638 f2640 O2 O4 P5 rG3 (own_j16 (own_d4 hb2539).2) (own_hxV _) (own_hcc _) (own_c16 (own_hxB _))) C 1 (own_wd hw 157 rfl) (own_wd hw 4 rfl) (by decide) (by decide)) (fun _ _ _ q => q.2) x2637 [(.int (z2538 &&& (15 : Int32)))] [(.ref a2325)] rfl own_pd32 rfl rfl rfl (Nat.le_of_ble_eq_true rfl) (by decide) (by decide) (by decide +kernel) ?_
  rintro T2649 h2650 v2651 L2652 S2653 ⟨⟨rfl, e2648⟩, -⟩
  rw [e2648] at S2653; clear e2648
  show own_Go p e below _ T2649 (mkF m 93 #[.val (.ref x), .val (.ref a2325), .val (.ref a2372), .val (.int 2), .val (.int 1), .val (.int z2538.toInt8.toInt32), .val (.int z2538)] [(.int (own_hx (z2538 &&& (15 : Int32)))), (.ref a2325)])
  obtain ⟨y2654, hy2654⟩ : ∃ y, y = (own_hx (z2538 &&& (15 : Int32))) := ⟨_, rfl⟩
  rw [← hy2654]
  have hb2655 : ¬ y2654 < 0 ∧ ¬ (255 : Int32) < y2654 := by rw [hy2654]; exact own_hxB _
  have f2656 := (Exa.ext E2636 f2617)
  have f2657 := (Fld.ext E2636 f2618)
  have f2658 := (Fld.ext E2636 f2619)
  have f2659 := (Fld.ext E2636 f2620)
  have f2660 := (f2621.ext E2636)
  have g2661 : n0 ≤ a2613 := Nat.le_trans f2599 g2615
  have f2662 : a2325 < h2583.size := (Nat.lt_of_lt_of_le (Nat.lt_of_lt_of_le (Nat.lt_of_lt_of_le (Nat.lt_of_lt_of_le (Nat.lt_of_lt_of_le (Nat.lt_of_lt_of_le f2517 K2471.1) E2491.1) K2519.1) K2544.1) K2569.1) E2588.1)
  have n2663 : a2325 ≠ a2613 := Nat.ne_of_lt (Nat.lt_of_lt_of_le f2662 g2615)
  refine own_callV C S2653 (own_wd hw 129 rfl) (own_wd hw 130 rfl) (own_wd hw 132 rfl) (own_wd hw 132 rfl) rfl (own_wd hw 131 rfl) (by decide) (own_Met.pay (own_sbC l Z a0 hw G1 G3 a2325 _ _ _ _ _ y2654 ([(.int 37), (.int y2461.toInt8.toInt32), (.int y2509.toInt8.toInt32), (.int 37), (.int y2606.toInt8.toInt32), (.int y2654.toInt8.toInt32), (.int 0), (.int 0), (.int 0), (.int 0)]) h2631 n0 f2647 g2345 g2661 f2646 f2656 f2657 f2658 f2659 f2660 (Ne.symm n2663) O2 O4 P5 rG3 hb2655.2 (by decide) (by decide) (Nat.le_of_ble_eq_true rfl) rfl) C 0 (own_wd hw 133 rfl) (own_wd hw 34 rfl) (by decide) (by decide)) (fun _ _ _ q => q.2) f2656 [(.int y2654)] [] rfl own_pd31 rfl rfl rfl (Nat.le_of_ble_eq_true rfl) (by decide) (by decide) (by decide +kernel) ?_
  rintro T2670 h2671 v2672 L2673 S2674 ⟨⟨rfl, K2664, f2665, f2666, f2667, f2668, f2669⟩, -⟩
  have f2675 : Fld Z h2671 a2325 "java/lang/AbstractStringBuilder" "count" "I" (.int 6) := f2668
  show own_Go p e below _ T2670 (mkF m 96 #[.val (.ref x), .val (.ref a2325), .val (.ref a2372), .val (.int 2), .val (.int 1), .val (.int z2538.toInt8.toInt32), .val (.int z2538)] [(.ref a2325)])
  refine own_seg C S2674 [(96, .pop, 1)] (by decide +kernel) 97 #[.val (.ref x), .val (.ref a2325), .val (.ref a2372), .val (.int 2), .val (.int 1), .val (.int z2538.toInt8.toInt32), .val (.int z2538)] [] rfl ?_
  refine own_seg C S2674 [(97, .iinc 4 1, 3), (100, .goto (-74), 3)] (by decide +kernel) 26 #[.val (.ref x), .val (.ref a2325), .val (.ref a2372), .val (.int 2), .val (.int ((1 : Int32) + (1 : Int32))), .val (.int z2538.toInt8.toInt32), .val (.int z2538)] [] rfl ?_
  show own_Go p e below _ T2670 (mkF m 26 #[.val (.ref x), .val (.ref a2325), .val (.ref a2372), .val (.int 2), .val (.int 2), .val (.int z2538.toInt8.toInt32), .val (.int z2538)] [])
  refine own_seg C S2674 [(26, .iload 4, 2), (28, .iload_n 3, 1)] (by decide +kernel) 29 #[.val (.ref x), .val (.ref a2325), .val (.ref a2372), .val (.int 2), .val (.int 2), .val (.int z2538.toInt8.toInt32), .val (.int z2538)] [(.int 2), (.int 2)] rfl ?_
  refine own_icmp C S2674 (q := .ge) (o := 74) (by decide +kernel) 103 (by decide) (by decide) (fun (q2676 : ¬ (2 : Int32) < (2 : Int32)) => ?_) (fun (hq : (2 : Int32) < (2 : Int32)) => False.elim (by revert hq; decide))
  refine own_seg C S2674 [(103, .aload_n 1, 1)] (by decide +kernel) 104 #[.val (.ref x), .val (.ref a2325), .val (.ref a2372), .val (.int 2), .val (.int 2), .val (.int z2538.toInt8.toInt32), .val (.int z2538)] [(.ref a2325)] rfl ?_
  have f2677 := (f2646.keep K2664 (allS g2345 (allS g2661 all0)))
  have f2678 : n0 ≤ h2671.size := (Nat.le_trans f2647 K2664.1)
  refine own_callV C S2674 (own_wd hw 190 rfl) (own_wd hw 191 rfl) (own_wd hw 193 rfl) (own_wd hw 193 rfl) rfl (own_wd hw 192 rfl) (by decide) (own_Met.pay (own_ts l Z a0 hw G1 G3 a2325 _ _ _ _ _ ([(.int 37), (.int y2461.toInt8.toInt32), (.int y2509.toInt8.toInt32), (.int 37), (.int y2606.toInt8.toInt32), (.int y2654.toInt8.toInt32)]) h2671 n0 f2678 f2677 f2665 f2666 f2667 f2675 f2669 O2 O4 P5 rG3 (by decide) (by decide) (by decide) (by decide) rfl) C 0 (own_wd hw 194 rfl) (own_wd hw 34 rfl) (by decide) (by decide)) (fun _ _ _ q => q.2) f2665 [] [] rfl own_pd30 rfl rfl rfl (Nat.le_of_ble_eq_true rfl) (by decide) (by decide) (by decide +kernel) ?_
  rintro T2689 h2690 v2691 L2692 S2693 ⟨⟨a2679, a2680, k2681, rfl, g2682, g2683, K2684, f2685, f2686, f2687, f2688⟩, -⟩
  show own_Go p e below _ T2689 (mkF m 107 #[.val (.ref x), .val (.ref a2325), .val (.ref a2372), .val (.int 2), .val (.int 2), .val (.int z2538.toInt8.toInt32), .val (.int z2538)] [(.ref a2679)])
  have o2695 : h2631.size ≤ h2671.size := (Nat.le_trans (Nat.le_refl _) K2664.1)
  have o2694 : h2631.size ≤ a2680 := Nat.le_trans o2695 g2683
  have o2696 : h2631.size ≤ a2679 := Nat.le_trans o2695 g2682
  have SW2697 := rb2645 _ _ _ _ [a2325, a2613] [a2679, a2680] S2693 (((Keep.refl _ _).trans K2664 (allS (Or.inl (List.mem_of_getElem? (i := 0) rfl)) (allS (Or.inl (List.mem_of_getElem? (i := 1) rfl)) all0))).trans K2684 all0) (allS (List.mem_of_getElem? (i := 2) rfl) (allS (List.mem_of_getElem? (i := 0) rfl) all0)) (allS ⟨o2696, f2685.lt⟩ (allS ⟨o2694, f2688.lt⟩ all0))
  refine own_retAW CW SW2697 rfl rfl (by decide +kernel) (by decide) (by decide) ?_
  subst hy2654
  subst hy2606
  subst hz2538
  subst hy2509
  subst hy2461
  subst hz2384
  have o2699 : h0.size ≤ h2671.size := (Nat.le_trans (Nat.le_trans (Nat.le_trans (Nat.le_trans (Nat.le_trans (Nat.le_trans (Nat.le_trans (Nat.le_trans (Nat.le_trans (Nat.le_trans (Nat.le_trans (Nat.le_trans (Nat.le_trans o2399 K2375.1) K2390.1) K2424.1) E2443.1) K2471.1) E2491.1) K2519.1) K2544.1) K2569.1) E2588.1) K2616.1) E2636.1) K2664.1)
  have o2698 : h0.size ≤ a2679 := Nat.le_trans o2699 g2682
  have o2700 : h0.size ≤ a2680 := Nat.le_trans o2699 g2683
  have o2702 : h0.size ≤ h2438.size := (Nat.le_trans (Nat.le_trans (Nat.le_trans (Nat.le_trans o2399 K2375.1) K2390.1) K2424.1) E2443.1)
  have o2701 : h0.size ≤ a2468 := Nat.le_trans o2702 g2470
  have o2704 : h0.size ≤ h2583.size := (Nat.le_trans (Nat.le_trans (Nat.le_trans (Nat.le_trans (Nat.le_trans (Nat.le_trans o2702 K2471.1) E2491.1) K2519.1) K2544.1) K2569.1) E2588.1)
  have o2703 : h0.size ≤ a2613 := Nat.le_trans o2704 g2615
  exact ⟨a2679, a2680, k2681, rfl, o2698, o2700, (((((((((((((((((Keep.refl _ _).ext E2327).trans K2349 (allS (Or.inr o2397) all0)).trans K2375 all0).trans K2390 all0).trans K2424 (allS (Or.inr o2397) (allS (Or.inr o2400) all0))).ext E2443).trans K2471 (allS (Or.inr o2397) all0)).ext E2491).trans K2519 (allS (Or.inr o2397) (allS (Or.inr o2701) all0))).trans K2544 all0).trans K2569 (allS (Or.inr o2397) (allS (Or.inr o2701) all0))).ext E2588).trans K2616 (allS (Or.inr o2397) all0)).ext E2636).trans K2664 (allS (Or.inr o2397) (allS (Or.inr o2703) all0))).trans K2684 all0), f2685, f2686, f2687, f2688⟩
theorem own_enc3 (l : Launch) (Z : State) (a0 : Array Value) (hw : ∀ d ∈ tables_1, d.before a0 Z = true) (hEL : EW Z a0 own_EL) (wS : ∀ a ∈ Bundle.stringAtoms, a.before a0 Z = true) (G1 : Int32) (G3 : Value) (U8 : Addr) (x : Addr) (b : Addr) (bk : ClassId) (k : Int32) (h0 : Heap) (n0 : Nat) (z0 : n0 ≤ h0.size) (X00 : Old Z n0 h0) (xE : Exa Z h0 x "java/lang/String") (xV : Fld Z h0 x "java/lang/String" "value" "[B" (.ref b)) (xC : Fld Z h0 x "java/lang/String" "coder" "B" (.int 1)) (bK : Arv Z h0 b bk .byte (2 : Int32) ([(.int ((k >>> ((0 : Int32) &&& 31)).toInt8.toInt32)), (.int ((k >>> ((8 : Int32) &&& 31)).toInt8.toInt32))]) (.int 0)) (bE : Exa Z h0 b "[B") (O2 : Sta Z Z.heap "java/lang/String" "COMPACT_STRINGS" "Z" (.int G1)) (O4 : Sta Z Z.heap "jdk/internal/util/Preconditions" "SIOOBE_FORMATTER" "Ljava/util/function/BiFunction;" G3) (P5 : ¬ G1 = (0 : Int32)) (rG3 : G3.isRef = true) (OU1 : Sta Z Z.heap "java/nio/charset/StandardCharsets" "UTF_8" "Ljava/nio/charset/Charset;" (.ref U8)) (OU2 : Sta Z Z.heap "sun/nio/cs/UTF_8" "INSTANCE" "Lsun/nio/cs/UTF_8;" (.ref U8)) (OA : Sta Z Z.heap "java/lang/StringUTF16" "$assertionsDisabled" "Z" (.int 1)) (OH : Sta Z Z.heap "java/lang/StringUTF16" "HI_BYTE_SHIFT" "I" (.int 0)) (OL : Sta Z Z.heap "java/lang/StringUTF16" "LO_BYTE_SHIFT" "I" (.int 8)) (hk : 0 ≤ k.toInt ∧ k.toInt ≤ 65535) (h1 : ¬ k < (128 : Int32)) (h2 : k < (2048 : Int32)) :
    own_MetW l Z own_EL (⟨"com/example/exact_rest/exactrest/PathSegments", "encode", "(Ljava/lang/String;)Ljava/lang/String;"⟩ : MethodName) prog_13_method_3_code 7 (some (.object "java/lang/String")) ({ frames := 6, cells := 20, slots := 508, locals := 99 } : Room) n0 #[(.ref x)] h0 [] (fun v h => ∃ x2 : Addr, ∃ r : Addr, ∃ rk : ClassId, v = some (.ref x2) ∧ h0.size ≤ x2 ∧ h0.size ≤ r ∧ Keep h0 h [] ∧ Exa Z h x2 "java/lang/String" ∧ Fld Z h x2 "java/lang/String" "coder" "B" (.int 0) ∧ Fld Z h x2 "java/lang/String" "value" "[B" (.ref r) ∧ Arv Z h r rk .byte (6 : Int32) ([(.int 37), (.int ((own_hx (((192 : Int32) ||| (k >>> ((6 : Int32) &&& 31))) >>> ((4 : Int32) &&& 31))).toInt8.toInt32)), (.int ((own_hx (((192 : Int32) ||| (k >>> ((6 : Int32) &&& 31))) &&& (15 : Int32))).toInt8.toInt32)), (.int 37), (.int ((own_hx (((128 : Int32) ||| (k &&& (63 : Int32))) >>> ((4 : Int32) &&& 31))).toInt8.toInt32)), (.int ((own_hx (((128 : Int32) ||| (k &&& (63 : Int32))) &&& (15 : Int32))).toInt8.toInt32))]) (.int 0)) := by
  refine own_metW hEL wS (by decide +kernel) #[.val (.ref x), .unset, .unset, .unset, .unset, .unset, .unset] (fun m => by first | (simp [entryFrame, mkF, argsToLocals, Value.category]; done) | rfl) ?_
  intro p e s m below meth c T0 CW SW0
  refine own_lift CW SW0 ?_
  intro vm2705 C S2706 rb2707
  refine own_new C S2706 (own_wd hw 32 rfl) (own_wd hw 33 rfl) (own_wd hw 34 rfl) (by decide +kernel) (by decide) (by decide) ?_
  intro T2708 h2710 a2711 S2709 g2712 E2713 x2714 D2715
  have f2716 : Fld Z h2710 a2711 "java/lang/AbstractStringBuilder" "value" "[B" .null := D2715 (ty := (.array .byte)) (Or.inl (own_wd hw 57 rfl)) own_fd0
  have f2717 : Fld Z h2710 a2711 "java/lang/AbstractStringBuilder" "coder" "B" (.int 0) := D2715 (ty := .byte) (Or.inl (own_wd hw 59 rfl)) own_fd1
  have f2718 : Fld Z h2710 a2711 "java/lang/AbstractStringBuilder" "count" "I" (.int 0) := D2715 (ty := .int) (Or.inl (own_wd hw 140 rfl)) own_fd2
  refine own_seg C S2709 [(3, .dup, 1), (4, .aload_n 0, 1)] (by decide +kernel) 5 #[.val (.ref x), .unset, .unset, .unset, .unset, .unset, .unset] [(.ref x), (.ref a2711), (.ref a2711)] rfl ?_
  have f2719 := (X00.ext E2713)
  have f2720 := (Exa.ext E2713 xE)
  have f2721 := (Fld.ext E2713 xV)
  have f2722 := (Fld.ext E2713 xC)
  have f2723 := (bK.ext E2713)
  have f2724 : n0 ≤ h2710.size := (Nat.le_trans z0 E2713.1)
  refine own_callV C S2709 (own_wd hw 35 rfl) (own_wd hw 36 rfl) (own_wd hw 38 rfl) (own_wd hw 38 rfl) rfl (own_wd hw 37 rfl) (by decide) (own_Met.pay (own_len l Z a0 hw G1 G3 x _ _ _ _ _ h2710 n0 f2724 f2719 f2720 f2721 f2722 f2723 O2 O4 P5 rG3 (by decide)) C 2 (own_wd hw 39 rfl) (own_wd hw 4 rfl) (by decide) (by decide)) (fun _ _ _ q => q.2) f2720 [] [(.ref a2711), (.ref a2711)] rfl own_pd5 rfl rfl rfl (Nat.le_of_ble_eq_true rfl) (by decide) (by decide) (by decide +kernel) ?_
  rintro T2726 h2727 v2728 L2729 S2730 ⟨⟨rfl, e2725⟩, -⟩
  rw [e2725] at S2730; clear e2725
  show own_Go p e below _ T2726 (mkF m 8 #[.val (.ref x), .unset, .unset, .unset, .unset, .unset, .unset] [(.int ((2 : Int32) >>> ((1 : Int32) &&& 31))), (.ref a2711), (.ref a2711)])
  show own_Go p e below _ T2726 (mkF m 8 #[.val (.ref x), .unset, .unset, .unset, .unset, .unset, .unset] [(.int 1), (.ref a2711), (.ref a2711)])
  have g2731 : n0 ≤ a2711 := by rw [g2712]; exact z0
  refine own_callI C S2730 rfl (own_wd hw 45 rfl) (own_wd hw 46 rfl) (own_wd hw 47 rfl) (by decide) (own_Met.pay (own_sbI1 l Z a0 hw G1 G3 a2711 h2710 n0 f2724 g2731 f2719 x2714 f2716 f2717 f2718 O2 O4 P5 rG3) C 1 (own_wd hw 47 rfl) (own_wd hw 34 rfl) (by decide) (by decide)) (fun _ _ _ q => q.2) [(.int 1)] [(.ref a2711)] rfl own_pd22 rfl rfl rfl (Nat.le_of_ble_eq_true rfl) (by decide) (by decide) (by decide +kernel) ?_
  rintro T2742 h2743 v2744 L2745 S2746 ⟨⟨a2732, k2733, rfl, g2734, K2735, f2736, f2737, f2738, f2739, f2740, f2741⟩, -⟩
  show own_Go p e below _ T2742 (mkF m 11 #[.val (.ref x), .unset, .unset, .unset, .unset, .unset, .unset] [(.ref a2711)])
  refine own_seg C S2746 [(11, .astore_n 1, 1), (12, .aload_n 0, 1)] (by decide +kernel) 13 #[.val (.ref x), .val (.ref a2711), .unset, .unset, .unset, .unset, .unset] [(.ref x)] rfl ?_
  have f2747 := (f2719.keep K2735 (allS g2731 all0))
  refine own_getS C S2746 (own_wd hw 60 rfl) Via.refl (OU1.ext f2747.2) (by decide +kernel) ?_
  intro T2748 S2749
  have f2750 := (f2720.keep K2735)
  have n2751 : x ≠ a2711 := by rw [g2712]; exact Nat.ne_of_lt xE.lt
  have f2752 := (f2721.keep K2735 (ninS n2751 nin0))
  have f2753 := (f2722.keep K2735 (ninS n2751 nin0))
  have n2754 : b ≠ a2711 := by rw [g2712]; exact Nat.ne_of_lt bK.lt
  have f2755 := (f2723.keep K2735 (ninS n2754 nin0))
  have f2756 := ((Exa.ext E2713 bE).keep K2735)
  have f2757 : n0 ≤ h2743.size := (Nat.le_trans f2724 K2735.1)
  refine own_callV C S2749 (own_wd hw 62 rfl) (own_wd hw 63 rfl) (own_wd hw 65 rfl) (own_wd hw 65 rfl) rfl (own_wd hw 64 rfl) (by decide) (own_Met.pay (own_gb3 l Z a0 hw G1 G3 U8 x _ _ k h2743 n0 f2757 f2747 f2750 f2752 f2753 f2755 f2756 O2 O4 P5 rG3 OU1 OU2 OA OH OL hk h1 h2) C 0 (own_wd hw 66 rfl) (own_wd hw 4 rfl) (by decide) (by decide)) (fun _ _ _ q => q.2) f2750 [(.ref U8)] [] rfl own_pd29 rfl rfl rfl (Nat.le_of_ble_eq_true rfl) (by decide) (by decide) (by decide +kernel) ?_
  rintro T2764 h2765 v2766 L2767 S2768 ⟨⟨a2758, k2759, rfl, g2760, K2761, f2762, f2763⟩, -⟩
  show own_Go p e below _ T2764 (mkF m 19 #[.val (.ref x), .val (.ref a2711), .unset, .unset, .unset, .unset, .unset] [(.ref a2758)])
  refine own_seg C S2768 [(19, .astore_n 2, 1), (20, .aload_n 2, 1)] (by decide +kernel) 21 #[.val (.ref x), .val (.ref a2711), .val (.ref a2758), .unset, .unset, .unset, .unset] [(.ref a2758)] rfl ?_
  refine own_alen C S2768 f2762 (by decide +kernel) ?_
  refine own_seg C S2768 [(22, .istore_n 3, 1), (23, .iconst 0, 1), (24, .istore 4, 2)] (by decide +kernel) 26 #[.val (.ref x), .val (.ref a2711), .val (.ref a2758), .val (.int 2), .val (.int 0), .unset, .unset] [] rfl ?_
  have hk2 : k.toInt < 2048 := by have e : (2048 : Int32).toInt = 2048 := rfl; have q := h2; rw [Int32.lt_iff_toInt_lt] at q; omega
  refine own_seg C S2768 [(26, .iload 4, 2), (28, .iload_n 3, 1)] (by decide +kernel) 29 #[.val (.ref x), .val (.ref a2711), .val (.ref a2758), .val (.int 2), .val (.int 0), .unset, .unset] [(.int 2), (.int 0)] rfl ?_
  refine own_icmp C S2768 (q := .ge) (o := 74) (by decide +kernel) 103 (by decide) (by decide) (fun (hq : ¬ (0 : Int32) < (2 : Int32)) => False.elim (by revert hq; decide)) (fun (q2769 : (0 : Int32) < (2 : Int32)) => ?_)
  refine own_seg C S2768 [(32, .aload_n 2, 1), (33, .iload 4, 2)] (by decide +kernel) 35 #[.val (.ref x), .val (.ref a2711), .val (.ref a2758), .val (.int 2), .val (.int 0), .unset, .unset] [(.int 0), (.ref a2758)] rfl ?_
  refine own_baload C S2768 f2762 ⟨(by decide), (by decide)⟩ (.int (((192 : Int32) ||| (k >>> ((6 : Int32) &&& 31))).toInt8.toInt32)) rfl (by decide +kernel) ?_
  refine own_seg C S2768 [(36, .istore 5, 2), (38, .iload 5, 2), (40, .sipush 255, 3), (43, .iand, 1), (44, .i2c, 1), (45, .istore 6, 2)] (by decide +kernel) 47 #[.val (.ref x), .val (.ref a2711), .val (.ref a2758), .val (.int 2), .val (.int 0), .val (.int (((192 : Int32) ||| (k >>> ((6 : Int32) &&& 31))).toInt8.toInt32)), .val (.int ((((192 : Int32) ||| (k >>> ((6 : Int32) &&& 31))).toInt8.toInt32 &&& (255 : Int32)).toUInt32.toUInt16.toUInt32.toInt32))] [] rfl ?_
  rw [show (((192 : Int32) ||| (k >>> ((6 : Int32) &&& 31))).toInt8.toInt32 &&& (255 : Int32)).toUInt32.toUInt16.toUInt32.toInt32 = ((192 : Int32) ||| (k >>> ((6 : Int32) &&& 31))) from own_by (own_x2a hk.1 hk2).1]
  obtain ⟨z2770, hz2770⟩ : ∃ y, y = ((192 : Int32) ||| (k >>> ((6 : Int32) &&& 31))) := ⟨_, rfl⟩
  rw [← hz2770]
  have hb2771 : ¬ z2770 < 0 ∧ ¬ (255 : Int32) < z2770 := by rw [hz2770]; exact (own_x2a hk.1 hk2).1
  have hb2772 : ¬ z2770 < 128 := by rw [hz2770]; exact (own_x2a hk.1 hk2).2
  refine own_seg C S2768 [(47, .iload 6, 2)] (by decide +kernel) 49 #[.val (.ref x), .val (.ref a2711), .val (.ref a2758), .val (.int 2), .val (.int 0), .val (.int z2770.toInt8.toInt32), .val (.int z2770)] [(.int z2770)] rfl ?_
  have f2773 := (f2747.keep K2761 all0)
  have f2774 : n0 ≤ h2765.size := (Nat.le_trans f2757 K2761.1)
  have o2783 : h0.size ≤ a2711 := by rw [g2712]; exact (Nat.le_refl _)
  have o2785 : h0.size ≤ h2743.size := (Nat.le_trans (Nat.le_trans (Nat.le_refl _) E2713.1) K2735.1)
  have o2784 : h0.size ≤ a2758 := Nat.le_trans o2785 g2760
  have o2787 : h0.size ≤ h2710.size := (Nat.le_trans (Nat.le_refl _) E2713.1)
  have o2786 : h0.size ≤ a2732 := Nat.le_trans o2787 g2734
  have f2788 : a2732 < h2765.size := (Nat.lt_of_lt_of_le f2740.lt K2761.1)
  have f2789 : a2711 < h2765.size := (Nat.lt_of_lt_of_le (Nat.lt_of_lt_of_le f2716.lt K2735.1) K2761.1)
  have SW2790 := rb2707 _ _ _ _ [] [a2711, a2732, a2758] S2768 ((((Keep.refl _ _).ext E2713).trans K2735 (allS (Or.inr o2783) all0)).trans K2761 all0) all0 (allS ⟨o2783, f2789⟩ (allS ⟨o2786, f2788⟩ (allS ⟨o2784, f2762.lt⟩ all0)))
  refine own_callSW CW SW2790 (own_wd hw 91 rfl) (own_wd hw 92 rfl) (own_wd hw 30 rfl) (own_wd hw 93 rfl) (by decide) (own_ipc l Z a0 hw hEL wS G1 G3 U8 z2770 h2765 n0 f2774 f2773 O2 O4 P5 rG3 OU1 OU2 OA OH OL hb2771) all0 0 (by decide) (by decide) [(.int z2770)] [] rfl own_pd11 rfl rfl rfl (Nat.le_of_ble_eq_true rfl) (by decide) (by decide) (by decide +kernel) ?_
  rintro T2791 h2792 v2793 SW2794 hg2795 ⟨y2775, rfl, K2776, p2777⟩
  show own_Go p e below _ T2791 (mkF m 52 #[.val (.ref x), .val (.ref a2711), .val (.ref a2758), .val (.int 2), .val (.int 0), .val (.int z2770.toInt8.toInt32), .val (.int z2770)] [(.int y2775)])
  have hr2796 : y2775 = 0 := own_PC.zero p2777 (own_al.no hb2772)
  subst hr2796
  refine own_lift CW SW2794 ?_
  intro vm2797 C S2798 rb2799
  refine own_if C S2798 (q := .eq) (o := 13) (by decide +kernel) 65 (by decide) (by decide) (fun (q2800 : (0 : Int32) = (0 : Int32)) => ?_) (fun (hq : ¬ (0 : Int32) = (0 : Int32)) => False.elim (hq rfl))
  refine own_seg C S2798 [(65, .aload_n 1, 1), (66, .bipush 37, 2)] (by decide +kernel) 68 #[.val (.ref x), .val (.ref a2711), .val (.ref a2758), .val (.int 2), .val (.int 0), .val (.int z2770.toInt8.toInt32), .val (.int z2770)] [(.int 37), (.ref a2711)] rfl ?_
  have f2801 := (f2773.keep K2776 all0)
  have f2802 := ((f2736.keep K2761).keep K2776)
  have f2803 := ((f2737.keep K2761 nin0).keep K2776 nin0)
  have f2804 := ((f2738.keep K2761 nin0).keep K2776 nin0)
  have f2805 := ((f2739.keep K2761 nin0).keep K2776 nin0)
  have f2806 := ((f2740.keep K2761 nin0).keep K2776 nin0)
  have f2807 : n0 ≤ h2792.size := (Nat.le_trans f2774 K2776.1)
  have g2808 : n0 ≤ a2732 := Nat.le_trans f2724 g2734
  have n2809 : a2711 ≠ a2732 := Nat.ne_of_lt (Nat.lt_of_lt_of_le f2716.lt g2734)
  refine own_callV C S2798 (own_wd hw 129 rfl) (own_wd hw 130 rfl) (own_wd hw 132 rfl) (own_wd hw 132 rfl) rfl (own_wd hw 131 rfl) (by decide) (own_Met.pay (own_sbC l Z a0 hw G1 G3 a2711 _ _ _ _ _ (37 : Int32) ([(.int 37)]) h2792 n0 f2807 g2731 g2808 f2801 f2802 f2803 f2804 f2805 f2806 (Ne.symm n2809) O2 O4 P5 rG3 (by decide) (by decide) (by decide) (Nat.le_of_ble_eq_true rfl) rfl) C 0 (own_wd hw 133 rfl) (own_wd hw 34 rfl) (by decide) (by decide)) (fun _ _ _ q => q.2) f2802 [(.int 37)] [] rfl own_pd31 rfl rfl rfl (Nat.le_of_ble_eq_true rfl) (by decide) (by decide) (by decide +kernel) ?_
  rintro T2816 h2817 v2818 L2819 S2820 ⟨⟨rfl, K2810, f2811, f2812, f2813, f2814, f2815⟩, -⟩
  have f2821 : Fld Z h2817 a2711 "java/lang/AbstractStringBuilder" "count" "I" (.int 1) := f2814
  show own_Go p e below _ T2816 (mkF m 71 #[.val (.ref x), .val (.ref a2711), .val (.ref a2758), .val (.int 2), .val (.int 0), .val (.int z2770.toInt8.toInt32), .val (.int z2770)] [(.ref a2711)])
  have SW2822 := rb2799 _ _ _ _ [a2711, a2732] [] S2820 ((Keep.refl _ _).trans K2810 (allS (Or.inl (List.mem_of_getElem? (i := 0) rfl)) (allS (Or.inl (List.mem_of_getElem? (i := 1) rfl)) all0))) (allS (List.mem_of_getElem? (i := 0) rfl) (allS (List.mem_of_getElem? (i := 1) rfl) all0)) all0
  refine own_ldcWE CW SW2822 (own_wd hw 152 rfl) (List.mem_of_getElem? (i := 0) rfl) (z := (16 : Int32)) (vs := own_lv1) ⟨by decide, by decide⟩ (by decide) rfl (by decide +kernel) 64 (by decide) (by decide) (by decide) (by decide) ?_
  intro T2823 h2824 a2825 b2826 k2827 SW2828 E2829 x2830 f2831 f2832 f2833 ne2834 x2835
  refine own_lift CW SW2828 ?_
  intro vm2836 C S2837 rb2838
  refine own_seg C S2837 [(73, .iload 6, 2), (75, .iconst 4, 1), (76, .ishr, 1)] (by decide +kernel) 77 #[.val (.ref x), .val (.ref a2711), .val (.ref a2758), .val (.int 2), .val (.int 0), .val (.int z2770.toInt8.toInt32), .val (.int z2770)] [(.int (z2770 >>> ((4 : Int32) &&& 31))), (.ref a2825), (.ref a2711)] rfl ?_
  have f2839 := ((f2801.keep K2810 (allS g2731 (allS g2808 all0))).ext E2829)
  have f2840 : n0 ≤ h2824.size := (Nat.le_trans (Nat.le_trans f2807 K2810.1) E2829.1)
  refine own_callV C S2837 (own_wd hw 153 rfl) (own_wd hw 154 rfl) (own_wd hw 156 rfl) (own_wd hw 156 rfl) rfl (own_wd hw 155 rfl) (by decide) (own_Met.pay (own_sch l Z a0 hw G1 G3 a2825 _ _ _ _ (z2770 >>> ((4 : Int32) &&& 31)) (own_hx (z2770 >>> ((4 : Int32) &&& 31))) (own_hx (z2770 >>> ((4 : Int32) &&& 31))) h2824 n0 f2840 f2839 x2830 f2832 f2831 f2833 O2 O4 P5 rG3 (own_j16 (own_d4 hb2771).1) (own_hxV _) (own_hcc _) (own_c16 (own_hxB _))) C 1 (own_wd hw 157 rfl) (own_wd hw 4 rfl) (by decide) (by decide)) (fun _ _ _ q => q.2) x2830 [(.int (z2770 >>> ((4 : Int32) &&& 31)))] [(.ref a2711)] rfl own_pd32 rfl rfl rfl (Nat.le_of_ble_eq_true rfl) (by decide) (by decide) (by decide +kernel) ?_
  rintro T2842 h2843 v2844 L2845 S2846 ⟨⟨rfl, e2841⟩, -⟩
  rw [e2841] at S2846; clear e2841
  show own_Go p e below _ T2842 (mkF m 80 #[.val (.ref x), .val (.ref a2711), .val (.ref a2758), .val (.int 2), .val (.int 0), .val (.int z2770.toInt8.toInt32), .val (.int z2770)] [(.int (own_hx (z2770 >>> ((4 : Int32) &&& 31)))), (.ref a2711)])
  obtain ⟨y2847, hy2847⟩ : ∃ y, y = (own_hx (z2770 >>> ((4 : Int32) &&& 31))) := ⟨_, rfl⟩
  rw [← hy2847]
  have hb2848 : ¬ y2847 < 0 ∧ ¬ (255 : Int32) < y2847 := by rw [hy2847]; exact own_hxB _
  have f2849 := (Exa.ext E2829 f2811)
  have f2850 := (Fld.ext E2829 f2812)
  have f2851 := (Fld.ext E2829 f2813)
  have f2852 := (Fld.ext E2829 f2821)
  have f2853 := (f2815.ext E2829)
  refine own_callV C S2846 (own_wd hw 129 rfl) (own_wd hw 130 rfl) (own_wd hw 132 rfl) (own_wd hw 132 rfl) rfl (own_wd hw 131 rfl) (by decide) (own_Met.pay (own_sbG1 l Z a0 hw G1 G3 a2711 _ _ (37 : Int32) y2847 h2824 n0 f2840 g2731 f2839 f2849 f2850 f2851 f2852 f2853 (Ne.symm n2809) O2 O4 P5 rG3 ((hb2848).2)) C 0 (own_wd hw 133 rfl) (own_wd hw 34 rfl) (by decide) (by decide)) (fun _ _ _ q => q.2) f2849 [(.int y2847)] [] rfl own_pd31 rfl rfl rfl (Nat.le_of_ble_eq_true rfl) (by decide) (by decide) (by decide +kernel) ?_
  rintro T2864 h2865 v2866 L2867 S2868 ⟨⟨a2854, k2855, rfl, g2856, K2857, f2858, f2859, f2860, f2861, f2862, f2863⟩, -⟩
  show own_Go p e below _ T2864 (mkF m 83 #[.val (.ref x), .val (.ref a2711), .val (.ref a2758), .val (.int 2), .val (.int 0), .val (.int z2770.toInt8.toInt32), .val (.int z2770)] [(.ref a2711)])
  have o2869 : h2824.size ≤ a2854 := Nat.le_trans (Nat.le_refl _) g2856
  have SW2870 := rb2838 _ _ _ _ [a2711] [a2854] S2868 ((Keep.refl _ _).trans K2857 (allS (Or.inl (List.mem_of_getElem? (i := 0) rfl)) all0)) (allS (List.mem_of_getElem? (i := 0) rfl) all0) (allS ⟨o2869, f2862.lt⟩ all0)
  refine own_ldcWE CW SW2870 (own_wd hw 152 rfl) (List.mem_of_getElem? (i := 0) rfl) (z := (16 : Int32)) (vs := own_lv1) ⟨by decide, by decide⟩ (by decide) rfl (by decide +kernel) 64 (by decide) (by decide) (by decide) (by decide) ?_
  intro T2871 h2872 a2873 b2874 k2875 SW2876 E2877 x2878 f2879 f2880 f2881 ne2882 x2883
  refine own_lift CW SW2876 ?_
  intro vm2884 C S2885 rb2886
  refine own_seg C S2885 [(85, .iload 6, 2), (87, .bipush 15, 2), (89, .iand, 1)] (by decide +kernel) 90 #[.val (.ref x), .val (.ref a2711), .val (.ref a2758), .val (.int 2), .val (.int 0), .val (.int z2770.toInt8.toInt32), .val (.int z2770)] [(.int (z2770 &&& (15 : Int32))), (.ref a2873), (.ref a2711)] rfl ?_
  have f2887 := ((f2839.keep K2857 (allS g2731 all0)).ext E2877)
  have f2888 : n0 ≤ h2872.size := (Nat.le_trans (Nat.le_trans f2840 K2857.1) E2877.1)
  refine own_callV C S2885 (own_wd hw 153 rfl) (own_wd hw 154 rfl) (own_wd hw 156 rfl) (own_wd hw 156 rfl) rfl (own_wd hw 155 rfl) (by decide) (own_Met.pay (own_sch l Z a0 hw G1 G3 a2873 _ _ _ _ (z2770 &&& (15 : Int32)) (own_hx (z2770 &&& (15 : Int32))) (own_hx (z2770 &&& (15 : Int32))) h2872 n0 f2888 f2887 x2878 f2880 f2879 f2881 O2 O4 P5 rG3 (own_j16 (own_d4 hb2771).2) (own_hxV _) (own_hcc _) (own_c16 (own_hxB _))) C 1 (own_wd hw 157 rfl) (own_wd hw 4 rfl) (by decide) (by decide)) (fun _ _ _ q => q.2) x2878 [(.int (z2770 &&& (15 : Int32)))] [(.ref a2711)] rfl own_pd32 rfl rfl rfl (Nat.le_of_ble_eq_true rfl) (by decide) (by decide) (by decide +kernel) ?_
  rintro T2890 h2891 v2892 L2893 S2894 ⟨⟨rfl, e2889⟩, -⟩
  rw [e2889] at S2894; clear e2889
  show own_Go p e below _ T2890 (mkF m 93 #[.val (.ref x), .val (.ref a2711), .val (.ref a2758), .val (.int 2), .val (.int 0), .val (.int z2770.toInt8.toInt32), .val (.int z2770)] [(.int (own_hx (z2770 &&& (15 : Int32)))), (.ref a2711)])
  obtain ⟨y2895, hy2895⟩ : ∃ y, y = (own_hx (z2770 &&& (15 : Int32))) := ⟨_, rfl⟩
  rw [← hy2895]
  have hb2896 : ¬ y2895 < 0 ∧ ¬ (255 : Int32) < y2895 := by rw [hy2895]; exact own_hxB _
  have f2897 := (Exa.ext E2877 f2858)
  have f2898 := (Fld.ext E2877 f2859)
  have f2899 := (Fld.ext E2877 f2860)
  have f2900 := (Fld.ext E2877 f2861)
  have f2901 := (f2862.ext E2877)
  have g2902 : n0 ≤ a2854 := Nat.le_trans f2840 g2856
  have f2903 : a2711 < h2824.size := (Nat.lt_of_lt_of_le (Nat.lt_of_lt_of_le (Nat.lt_of_lt_of_le f2789 K2776.1) K2810.1) E2829.1)
  have n2904 : a2711 ≠ a2854 := Nat.ne_of_lt (Nat.lt_of_lt_of_le f2903 g2856)
  refine own_callV C S2894 (own_wd hw 129 rfl) (own_wd hw 130 rfl) (own_wd hw 132 rfl) (own_wd hw 132 rfl) rfl (own_wd hw 131 rfl) (by decide) (own_Met.pay (own_sbC l Z a0 hw G1 G3 a2711 _ _ _ _ _ y2895 ([(.int 37), (.int y2847.toInt8.toInt32), (.int y2895.toInt8.toInt32), (.int 0)]) h2872 n0 f2888 g2731 g2902 f2887 f2897 f2898 f2899 f2900 f2901 (Ne.symm n2904) O2 O4 P5 rG3 hb2896.2 (by decide) (by decide) (Nat.le_of_ble_eq_true rfl) rfl) C 0 (own_wd hw 133 rfl) (own_wd hw 34 rfl) (by decide) (by decide)) (fun _ _ _ q => q.2) f2897 [(.int y2895)] [] rfl own_pd31 rfl rfl rfl (Nat.le_of_ble_eq_true rfl) (by decide) (by decide) (by decide +kernel) ?_
  rintro T2911 h2912 v2913 L2914 S2915 ⟨⟨rfl, K2905, f2906, f2907, f2908, f2909, f2910⟩, -⟩
  have f2916 : Fld Z h2912 a2711 "java/lang/AbstractStringBuilder" "count" "I" (.int 3) := f2909
  show own_Go p e below _ T2911 (mkF m 96 #[.val (.ref x), .val (.ref a2711), .val (.ref a2758), .val (.int 2), .val (.int 0), .val (.int z2770.toInt8.toInt32), .val (.int z2770)] [(.ref a2711)])
  refine own_seg C S2915 [(96, .pop, 1)] (by decide +kernel) 97 #[.val (.ref x), .val (.ref a2711), .val (.ref a2758), .val (.int 2), .val (.int 0), .val (.int z2770.toInt8.toInt32), .val (.int z2770)] [] rfl ?_
  refine own_seg C S2915 [(97, .iinc 4 1, 3), (100, .goto (-74), 3)] (by decide +kernel) 26 #[.val (.ref x), .val (.ref a2711), .val (.ref a2758), .val (.int 2), .val (.int ((0 : Int32) + (1 : Int32))), .val (.int z2770.toInt8.toInt32), .val (.int z2770)] [] rfl ?_
  show own_Go p e below _ T2911 (mkF m 26 #[.val (.ref x), .val (.ref a2711), .val (.ref a2758), .val (.int 2), .val (.int 1), .val (.int z2770.toInt8.toInt32), .val (.int z2770)] [])
  refine own_seg C S2915 [(26, .iload 4, 2), (28, .iload_n 3, 1)] (by decide +kernel) 29 #[.val (.ref x), .val (.ref a2711), .val (.ref a2758), .val (.int 2), .val (.int 1), .val (.int z2770.toInt8.toInt32), .val (.int z2770)] [(.int 2), (.int 1)] rfl ?_
  refine own_icmp C S2915 (q := .ge) (o := 74) (by decide +kernel) 103 (by decide) (by decide) (fun (hq : ¬ (1 : Int32) < (2 : Int32)) => False.elim (by revert hq; decide)) (fun (q2917 : (1 : Int32) < (2 : Int32)) => ?_)
  refine own_seg C S2915 [(32, .aload_n 2, 1), (33, .iload 4, 2)] (by decide +kernel) 35 #[.val (.ref x), .val (.ref a2711), .val (.ref a2758), .val (.int 2), .val (.int 1), .val (.int z2770.toInt8.toInt32), .val (.int z2770)] [(.int 1), (.ref a2758)] rfl ?_
  have n2918 : a2732 ≠ a2758 := Nat.ne_of_lt (Nat.lt_of_lt_of_le f2740.lt g2760)
  have f2919 : a2711 < h2743.size := (Nat.lt_of_lt_of_le f2716.lt K2735.1)
  have n2920 : a2711 ≠ a2758 := Nat.ne_of_lt (Nat.lt_of_lt_of_le f2919 g2760)
  have f2921 : a2758 < h2824.size := (Nat.lt_of_lt_of_le (Nat.lt_of_lt_of_le (Nat.lt_of_lt_of_le f2762.lt K2776.1) K2810.1) E2829.1)
  have n2922 : a2758 ≠ a2854 := Nat.ne_of_lt (Nat.lt_of_lt_of_le f2921 g2856)
  have f2923 := ((((((f2762.keep K2776 nin0).keep K2810 (ninS (Ne.symm n2920) (ninS (Ne.symm n2918) nin0))).ext E2829).keep K2857 (ninS (Ne.symm n2920) nin0)).ext E2877).keep K2905 (ninS (Ne.symm n2920) (ninS n2922 nin0)))
  refine own_baload C S2915 f2923 ⟨(by decide), (by decide)⟩ (.int (((128 : Int32) ||| (k &&& (63 : Int32))).toInt8.toInt32)) rfl (by decide +kernel) ?_
  refine own_seg C S2915 [(36, .istore 5, 2), (38, .iload 5, 2), (40, .sipush 255, 3), (43, .iand, 1), (44, .i2c, 1), (45, .istore 6, 2)] (by decide +kernel) 47 #[.val (.ref x), .val (.ref a2711), .val (.ref a2758), .val (.int 2), .val (.int 1), .val (.int (((128 : Int32) ||| (k &&& (63 : Int32))).toInt8.toInt32)), .val (.int ((((128 : Int32) ||| (k &&& (63 : Int32))).toInt8.toInt32 &&& (255 : Int32)).toUInt32.toUInt16.toUInt32.toInt32))] [] rfl ?_
  rw [show (((128 : Int32) ||| (k &&& (63 : Int32))).toInt8.toInt32 &&& (255 : Int32)).toUInt32.toUInt16.toUInt32.toInt32 = ((128 : Int32) ||| (k &&& (63 : Int32))) from own_by (own_xb k).1]
  obtain ⟨z2924, hz2924⟩ : ∃ y, y = ((128 : Int32) ||| (k &&& (63 : Int32))) := ⟨_, rfl⟩
  rw [← hz2924]
  have hb2925 : ¬ z2924 < 0 ∧ ¬ (255 : Int32) < z2924 := by rw [hz2924]; exact (own_xb k).1
  have hb2926 : ¬ z2924 < 128 := by rw [hz2924]; exact (own_xb k).2
  refine own_seg C S2915 [(47, .iload 6, 2)] (by decide +kernel) 49 #[.val (.ref x), .val (.ref a2711), .val (.ref a2758), .val (.int 2), .val (.int 1), .val (.int z2924.toInt8.toInt32), .val (.int z2924)] [(.int z2924)] rfl ?_
  have f2927 := (f2887.keep K2905 (allS g2731 (allS g2902 all0)))
  have f2928 : n0 ≤ h2912.size := (Nat.le_trans f2888 K2905.1)
  have SW2937 := rb2886 _ _ _ _ [a2711, a2854] [] S2915 ((Keep.refl _ _).trans K2905 (allS (Or.inl (List.mem_of_getElem? (i := 0) rfl)) (allS (Or.inl (List.mem_of_getElem? (i := 1) rfl)) all0))) (allS (List.mem_of_getElem? (i := 1) rfl) (allS (List.mem_of_getElem? (i := 0) rfl) all0)) all0
  refine own_callSW CW SW2937 (own_wd hw 91 rfl) (own_wd hw 92 rfl) (own_wd hw 30 rfl) (own_wd hw 93 rfl) (by decide) (own_ipc l Z a0 hw hEL wS G1 G3 U8 z2924 h2912 n0 f2928 f2927 O2 O4 P5 rG3 OU1 OU2 OA OH OL hb2925) all0 0 (by decide) (by decide) [(.int z2924)] [] rfl own_pd11 rfl rfl rfl (Nat.le_of_ble_eq_true rfl) (by decide) (by decide) (by decide +kernel) ?_
  rintro T2938 h2939 v2940 SW2941 hg2942 ⟨y2929, rfl, K2930, p2931⟩
  show own_Go p e below _ T2938 (mkF m 52 #[.val (.ref x), .val (.ref a2711), .val (.ref a2758), .val (.int 2), .val (.int 1), .val (.int z2924.toInt8.toInt32), .val (.int z2924)] [(.int y2929)])
  have hr2943 : y2929 = 0 := own_PC.zero p2931 (own_al.no hb2926)
  subst hr2943
  refine own_lift CW SW2941 ?_
  intro vm2944 C S2945 rb2946
  refine own_if C S2945 (q := .eq) (o := 13) (by decide +kernel) 65 (by decide) (by decide) (fun (q2947 : (0 : Int32) = (0 : Int32)) => ?_) (fun (hq : ¬ (0 : Int32) = (0 : Int32)) => False.elim (hq rfl))
  refine own_seg C S2945 [(65, .aload_n 1, 1), (66, .bipush 37, 2)] (by decide +kernel) 68 #[.val (.ref x), .val (.ref a2711), .val (.ref a2758), .val (.int 2), .val (.int 1), .val (.int z2924.toInt8.toInt32), .val (.int z2924)] [(.int 37), (.ref a2711)] rfl ?_
  have f2948 := (f2927.keep K2930 all0)
  have f2949 := (f2906.keep K2930)
  have f2950 := (f2907.keep K2930 nin0)
  have f2951 := (f2908.keep K2930 nin0)
  have f2952 := (f2916.keep K2930 nin0)
  have f2953 := (f2910.keep K2930 nin0)
  have f2954 : n0 ≤ h2939.size := (Nat.le_trans f2928 K2930.1)
  refine own_callV C S2945 (own_wd hw 129 rfl) (own_wd hw 130 rfl) (own_wd hw 132 rfl) (own_wd hw 132 rfl) rfl (own_wd hw 131 rfl) (by decide) (own_Met.pay (own_sbC l Z a0 hw G1 G3 a2711 _ _ _ _ _ (37 : Int32) ([(.int 37), (.int y2847.toInt8.toInt32), (.int y2895.toInt8.toInt32), (.int 37)]) h2939 n0 f2954 g2731 g2902 f2948 f2949 f2950 f2951 f2952 f2953 (Ne.symm n2904) O2 O4 P5 rG3 (by decide) (by decide) (by decide) (Nat.le_of_ble_eq_true rfl) rfl) C 0 (own_wd hw 133 rfl) (own_wd hw 34 rfl) (by decide) (by decide)) (fun _ _ _ q => q.2) f2949 [(.int 37)] [] rfl own_pd31 rfl rfl rfl (Nat.le_of_ble_eq_true rfl) (by decide) (by decide) (by decide +kernel) ?_
  rintro T2961 h2962 v2963 L2964 S2965 ⟨⟨rfl, K2955, f2956, f2957, f2958, f2959, f2960⟩, -⟩
  have f2966 : Fld Z h2962 a2711 "java/lang/AbstractStringBuilder" "count" "I" (.int 4) := f2959
  show own_Go p e below _ T2961 (mkF m 71 #[.val (.ref x), .val (.ref a2711), .val (.ref a2758), .val (.int 2), .val (.int 1), .val (.int z2924.toInt8.toInt32), .val (.int z2924)] [(.ref a2711)])
  have SW2967 := rb2946 _ _ _ _ [a2711, a2854] [] S2965 ((Keep.refl _ _).trans K2955 (allS (Or.inl (List.mem_of_getElem? (i := 0) rfl)) (allS (Or.inl (List.mem_of_getElem? (i := 1) rfl)) all0))) (allS (List.mem_of_getElem? (i := 1) rfl) (allS (List.mem_of_getElem? (i := 0) rfl) all0)) all0
  refine own_ldcWE CW SW2967 (own_wd hw 152 rfl) (List.mem_of_getElem? (i := 0) rfl) (z := (16 : Int32)) (vs := own_lv1) ⟨by decide, by decide⟩ (by decide) rfl (by decide +kernel) 64 (by decide) (by decide) (by decide) (by decide) ?_
  intro T2968 h2969 a2970 b2971 k2972 SW2973 E2974 x2975 f2976 f2977 f2978 ne2979 x2980
  refine own_lift CW SW2973 ?_
  intro vm2981 C S2982 rb2983
  refine own_seg C S2982 [(73, .iload 6, 2), (75, .iconst 4, 1), (76, .ishr, 1)] (by decide +kernel) 77 #[.val (.ref x), .val (.ref a2711), .val (.ref a2758), .val (.int 2), .val (.int 1), .val (.int z2924.toInt8.toInt32), .val (.int z2924)] [(.int (z2924 >>> ((4 : Int32) &&& 31))), (.ref a2970), (.ref a2711)] rfl ?_
  have f2984 := ((f2948.keep K2955 (allS g2731 (allS g2902 all0))).ext E2974)
  have f2985 : n0 ≤ h2969.size := (Nat.le_trans (Nat.le_trans f2954 K2955.1) E2974.1)
  refine own_callV C S2982 (own_wd hw 153 rfl) (own_wd hw 154 rfl) (own_wd hw 156 rfl) (own_wd hw 156 rfl) rfl (own_wd hw 155 rfl) (by decide) (own_Met.pay (own_sch l Z a0 hw G1 G3 a2970 _ _ _ _ (z2924 >>> ((4 : Int32) &&& 31)) (own_hx (z2924 >>> ((4 : Int32) &&& 31))) (own_hx (z2924 >>> ((4 : Int32) &&& 31))) h2969 n0 f2985 f2984 x2975 f2977 f2976 f2978 O2 O4 P5 rG3 (own_j16 (own_d4 hb2925).1) (own_hxV _) (own_hcc _) (own_c16 (own_hxB _))) C 1 (own_wd hw 157 rfl) (own_wd hw 4 rfl) (by decide) (by decide)) (fun _ _ _ q => q.2) x2975 [(.int (z2924 >>> ((4 : Int32) &&& 31)))] [(.ref a2711)] rfl own_pd32 rfl rfl rfl (Nat.le_of_ble_eq_true rfl) (by decide) (by decide) (by decide +kernel) ?_
  rintro T2987 h2988 v2989 L2990 S2991 ⟨⟨rfl, e2986⟩, -⟩
  rw [e2986] at S2991; clear e2986
  show own_Go p e below _ T2987 (mkF m 80 #[.val (.ref x), .val (.ref a2711), .val (.ref a2758), .val (.int 2), .val (.int 1), .val (.int z2924.toInt8.toInt32), .val (.int z2924)] [(.int (own_hx (z2924 >>> ((4 : Int32) &&& 31)))), (.ref a2711)])
  obtain ⟨y2992, hy2992⟩ : ∃ y, y = (own_hx (z2924 >>> ((4 : Int32) &&& 31))) := ⟨_, rfl⟩
  rw [← hy2992]
  have hb2993 : ¬ y2992 < 0 ∧ ¬ (255 : Int32) < y2992 := by rw [hy2992]; exact own_hxB _
  have f2994 := (Exa.ext E2974 f2956)
  have f2995 := (Fld.ext E2974 f2957)
  have f2996 := (Fld.ext E2974 f2958)
  have f2997 := (Fld.ext E2974 f2966)
  have f2998 := (f2960.ext E2974)
  refine own_callV C S2991 (own_wd hw 129 rfl) (own_wd hw 130 rfl) (own_wd hw 132 rfl) (own_wd hw 132 rfl) rfl (own_wd hw 131 rfl) (by decide) (own_Met.pay (own_sbG4 l Z a0 hw G1 G3 a2711 _ _ (37 : Int32) y2847.toInt8.toInt32 y2895.toInt8.toInt32 (37 : Int32) y2992 h2969 n0 f2985 g2731 f2984 f2994 f2995 f2996 f2997 f2998 (Ne.symm n2904) O2 O4 P5 rG3 ((hb2993).2)) C 0 (own_wd hw 133 rfl) (own_wd hw 34 rfl) (by decide) (by decide)) (fun _ _ _ q => q.2) f2994 [(.int y2992)] [] rfl own_pd31 rfl rfl rfl (Nat.le_of_ble_eq_true rfl) (by decide) (by decide) (by decide +kernel) ?_
  rintro T3009 h3010 v3011 L3012 S3013 ⟨⟨a2999, k3000, rfl, g3001, K3002, f3003, f3004, f3005, f3006, f3007, f3008⟩, -⟩
  show own_Go p e below _ T3009 (mkF m 83 #[.val (.ref x), .val (.ref a2711), .val (.ref a2758), .val (.int 2), .val (.int 1), .val (.int z2924.toInt8.toInt32), .val (.int z2924)] [(.ref a2711)])
  have o3014 : h2969.size ≤ a2999 := Nat.le_trans (Nat.le_refl _) g3001
  have SW3015 := rb2983 _ _ _ _ [a2711] [a2999] S3013 ((Keep.refl _ _).trans K3002 (allS (Or.inl (List.mem_of_getElem? (i := 0) rfl)) all0)) (allS (List.mem_of_getElem? (i := 1) rfl) all0) (allS ⟨o3014, f3007.lt⟩ all0)
  refine own_ldcWE CW SW3015 (own_wd hw 152 rfl) (List.mem_of_getElem? (i := 0) rfl) (z := (16 : Int32)) (vs := own_lv1) ⟨by decide, by decide⟩ (by decide) rfl (by decide +kernel) 64 (by decide) (by decide) (by decide) (by decide) ?_
  intro T3016 h3017 a3018 b3019 k3020 SW3021 E3022 x3023 f3024 f3025 f3026 ne3027 x3028
  refine own_lift CW SW3021 ?_
  intro vm3029 C S3030 rb3031
  refine own_seg C S3030 [(85, .iload 6, 2), (87, .bipush 15, 2), (89, .iand, 1)] (by decide +kernel) 90 #[.val (.ref x), .val (.ref a2711), .val (.ref a2758), .val (.int 2), .val (.int 1), .val (.int z2924.toInt8.toInt32), .val (.int z2924)] [(.int (z2924 &&& (15 : Int32))), (.ref a3018), (.ref a2711)] rfl ?_
  have f3032 := ((f2984.keep K3002 (allS g2731 all0)).ext E3022)
  have f3033 : n0 ≤ h3017.size := (Nat.le_trans (Nat.le_trans f2985 K3002.1) E3022.1)
  refine own_callV C S3030 (own_wd hw 153 rfl) (own_wd hw 154 rfl) (own_wd hw 156 rfl) (own_wd hw 156 rfl) rfl (own_wd hw 155 rfl) (by decide) (own_Met.pay (own_sch l Z a0 hw G1 G3 a3018 _ _ _ _ (z2924 &&& (15 : Int32)) (own_hx (z2924 &&& (15 : Int32))) (own_hx (z2924 &&& (15 : Int32))) h3017 n0 f3033 f3032 x3023 f3025 f3024 f3026 O2 O4 P5 rG3 (own_j16 (own_d4 hb2925).2) (own_hxV _) (own_hcc _) (own_c16 (own_hxB _))) C 1 (own_wd hw 157 rfl) (own_wd hw 4 rfl) (by decide) (by decide)) (fun _ _ _ q => q.2) x3023 [(.int (z2924 &&& (15 : Int32)))] [(.ref a2711)] rfl own_pd32 rfl rfl rfl (Nat.le_of_ble_eq_true rfl) (by decide) (by decide) (by decide +kernel) ?_
  rintro T3035 h3036 v3037 L3038 S3039 ⟨⟨rfl, e3034⟩, -⟩
  rw [e3034] at S3039; clear e3034
  show own_Go p e below _ T3035 (mkF m 93 #[.val (.ref x), .val (.ref a2711), .val (.ref a2758), .val (.int 2), .val (.int 1), .val (.int z2924.toInt8.toInt32), .val (.int z2924)] [(.int (own_hx (z2924 &&& (15 : Int32)))), (.ref a2711)])
  obtain ⟨y3040, hy3040⟩ : ∃ y, y = (own_hx (z2924 &&& (15 : Int32))) := ⟨_, rfl⟩
  rw [← hy3040]
  have hb3041 : ¬ y3040 < 0 ∧ ¬ (255 : Int32) < y3040 := by rw [hy3040]; exact own_hxB _
  have f3042 := (Exa.ext E3022 f3003)
  have f3043 := (Fld.ext E3022 f3004)
  have f3044 := (Fld.ext E3022 f3005)
  have f3045 := (Fld.ext E3022 f3006)
  have f3046 := (f3007.ext E3022)
  have g3047 : n0 ≤ a2999 := Nat.le_trans f2985 g3001
  have f3048 : a2711 < h2969.size := (Nat.lt_of_lt_of_le (Nat.lt_of_lt_of_le (Nat.lt_of_lt_of_le (Nat.lt_of_lt_of_le (Nat.lt_of_lt_of_le (Nat.lt_of_lt_of_le f2903 K2857.1) E2877.1) K2905.1) K2930.1) K2955.1) E2974.1)
  have n3049 : a2711 ≠ a2999 := Nat.ne_of_lt (Nat.lt_of_lt_of_le f3048 g3001)
  refine own_callV C S3039 (own_wd hw 129 rfl) (own_wd hw 130 rfl) (own_wd hw 132 rfl) (own_wd hw 132 rfl) rfl (own_wd hw 131 rfl) (by decide) (own_Met.pay (own_sbC l Z a0 hw G1 G3 a2711 _ _ _ _ _ y3040 ([(.int 37), (.int y2847.toInt8.toInt32), (.int y2895.toInt8.toInt32), (.int 37), (.int y2992.toInt8.toInt32), (.int y3040.toInt8.toInt32), (.int 0), (.int 0), (.int 0), (.int 0)]) h3017 n0 f3033 g2731 g3047 f3032 f3042 f3043 f3044 f3045 f3046 (Ne.symm n3049) O2 O4 P5 rG3 hb3041.2 (by decide) (by decide) (Nat.le_of_ble_eq_true rfl) rfl) C 0 (own_wd hw 133 rfl) (own_wd hw 34 rfl) (by decide) (by decide)) (fun _ _ _ q => q.2) f3042 [(.int y3040)] [] rfl own_pd31 rfl rfl rfl (Nat.le_of_ble_eq_true rfl) (by decide) (by decide) (by decide +kernel) ?_
  rintro T3056 h3057 v3058 L3059 S3060 ⟨⟨rfl, K3050, f3051, f3052, f3053, f3054, f3055⟩, -⟩
  have f3061 : Fld Z h3057 a2711 "java/lang/AbstractStringBuilder" "count" "I" (.int 6) := f3054
  show own_Go p e below _ T3056 (mkF m 96 #[.val (.ref x), .val (.ref a2711), .val (.ref a2758), .val (.int 2), .val (.int 1), .val (.int z2924.toInt8.toInt32), .val (.int z2924)] [(.ref a2711)])
  refine own_seg C S3060 [(96, .pop, 1)] (by decide +kernel) 97 #[.val (.ref x), .val (.ref a2711), .val (.ref a2758), .val (.int 2), .val (.int 1), .val (.int z2924.toInt8.toInt32), .val (.int z2924)] [] rfl ?_
  refine own_seg C S3060 [(97, .iinc 4 1, 3), (100, .goto (-74), 3)] (by decide +kernel) 26 #[.val (.ref x), .val (.ref a2711), .val (.ref a2758), .val (.int 2), .val (.int ((1 : Int32) + (1 : Int32))), .val (.int z2924.toInt8.toInt32), .val (.int z2924)] [] rfl ?_
  show own_Go p e below _ T3056 (mkF m 26 #[.val (.ref x), .val (.ref a2711), .val (.ref a2758), .val (.int 2), .val (.int 2), .val (.int z2924.toInt8.toInt32), .val (.int z2924)] [])
  refine own_seg C S3060 [(26, .iload 4, 2), (28, .iload_n 3, 1)] (by decide +kernel) 29 #[.val (.ref x), .val (.ref a2711), .val (.ref a2758), .val (.int 2), .val (.int 2), .val (.int z2924.toInt8.toInt32), .val (.int z2924)] [(.int 2), (.int 2)] rfl ?_
  refine own_icmp C S3060 (q := .ge) (o := 74) (by decide +kernel) 103 (by decide) (by decide) (fun (q3062 : ¬ (2 : Int32) < (2 : Int32)) => ?_) (fun (hq : (2 : Int32) < (2 : Int32)) => False.elim (by revert hq; decide))
  refine own_seg C S3060 [(103, .aload_n 1, 1)] (by decide +kernel) 104 #[.val (.ref x), .val (.ref a2711), .val (.ref a2758), .val (.int 2), .val (.int 2), .val (.int z2924.toInt8.toInt32), .val (.int z2924)] [(.ref a2711)] rfl ?_
  have f3063 := (f3032.keep K3050 (allS g2731 (allS g3047 all0)))
  have f3064 : n0 ≤ h3057.size := (Nat.le_trans f3033 K3050.1)
  refine own_callV C S3060 (own_wd hw 190 rfl) (own_wd hw 191 rfl) (own_wd hw 193 rfl) (own_wd hw 193 rfl) rfl (own_wd hw 192 rfl) (by decide) (own_Met.pay (own_ts l Z a0 hw G1 G3 a2711 _ _ _ _ _ ([(.int 37), (.int y2847.toInt8.toInt32), (.int y2895.toInt8.toInt32), (.int 37), (.int y2992.toInt8.toInt32), (.int y3040.toInt8.toInt32)]) h3057 n0 f3064 f3063 f3051 f3052 f3053 f3061 f3055 O2 O4 P5 rG3 (by decide) (by decide) (by decide) (by decide) rfl) C 0 (own_wd hw 194 rfl) (own_wd hw 34 rfl) (by decide) (by decide)) (fun _ _ _ q => q.2) f3051 [] [] rfl own_pd30 rfl rfl rfl (Nat.le_of_ble_eq_true rfl) (by decide) (by decide) (by decide +kernel) ?_
  rintro T3075 h3076 v3077 L3078 S3079 ⟨⟨a3065, a3066, k3067, rfl, g3068, g3069, K3070, f3071, f3072, f3073, f3074⟩, -⟩
  show own_Go p e below _ T3075 (mkF m 107 #[.val (.ref x), .val (.ref a2711), .val (.ref a2758), .val (.int 2), .val (.int 2), .val (.int z2924.toInt8.toInt32), .val (.int z2924)] [(.ref a3065)])
  have o3081 : h3017.size ≤ h3057.size := (Nat.le_trans (Nat.le_refl _) K3050.1)
  have o3080 : h3017.size ≤ a3066 := Nat.le_trans o3081 g3069
  have o3082 : h3017.size ≤ a3065 := Nat.le_trans o3081 g3068
  have SW3083 := rb3031 _ _ _ _ [a2711, a2999] [a3065, a3066] S3079 (((Keep.refl _ _).trans K3050 (allS (Or.inl (List.mem_of_getElem? (i := 0) rfl)) (allS (Or.inl (List.mem_of_getElem? (i := 1) rfl)) all0))).trans K3070 all0) (allS (List.mem_of_getElem? (i := 2) rfl) (allS (List.mem_of_getElem? (i := 0) rfl) all0)) (allS ⟨o3082, f3071.lt⟩ (allS ⟨o3080, f3074.lt⟩ all0))
  refine own_retAW CW SW3083 rfl rfl (by decide +kernel) (by decide) (by decide) ?_
  subst hy3040
  subst hy2992
  subst hz2924
  subst hy2895
  subst hy2847
  subst hz2770
  have o3085 : h0.size ≤ h3057.size := (Nat.le_trans (Nat.le_trans (Nat.le_trans (Nat.le_trans (Nat.le_trans (Nat.le_trans (Nat.le_trans (Nat.le_trans (Nat.le_trans (Nat.le_trans (Nat.le_trans (Nat.le_trans (Nat.le_trans o2785 K2761.1) K2776.1) K2810.1) E2829.1) K2857.1) E2877.1) K2905.1) K2930.1) K2955.1) E2974.1) K3002.1) E3022.1) K3050.1)
  have o3084 : h0.size ≤ a3065 := Nat.le_trans o3085 g3068
  have o3086 : h0.size ≤ a3066 := Nat.le_trans o3085 g3069
  have o3088 : h0.size ≤ h2824.size := (Nat.le_trans (Nat.le_trans (Nat.le_trans (Nat.le_trans o2785 K2761.1) K2776.1) K2810.1) E2829.1)
  have o3087 : h0.size ≤ a2854 := Nat.le_trans o3088 g2856
  have o3090 : h0.size ≤ h2969.size := (Nat.le_trans (Nat.le_trans (Nat.le_trans (Nat.le_trans (Nat.le_trans (Nat.le_trans o3088 K2857.1) E2877.1) K2905.1) K2930.1) K2955.1) E2974.1)
  have o3089 : h0.size ≤ a2999 := Nat.le_trans o3090 g3001
  exact ⟨a3065, a3066, k3067, rfl, o3084, o3086, (((((((((((((((((Keep.refl _ _).ext E2713).trans K2735 (allS (Or.inr o2783) all0)).trans K2761 all0).trans K2776 all0).trans K2810 (allS (Or.inr o2783) (allS (Or.inr o2786) all0))).ext E2829).trans K2857 (allS (Or.inr o2783) all0)).ext E2877).trans K2905 (allS (Or.inr o2783) (allS (Or.inr o3087) all0))).trans K2930 all0).trans K2955 (allS (Or.inr o2783) (allS (Or.inr o3087) all0))).ext E2974).trans K3002 (allS (Or.inr o2783) all0)).ext E3022).trans K3050 (allS (Or.inr o2783) (allS (Or.inr o3089) all0))).trans K3070 all0), f3071, f3072, f3073, f3074⟩
theorem own_enc4 (l : Launch) (Z : State) (a0 : Array Value) (hw : ∀ d ∈ tables_1, d.before a0 Z = true) (hEL : EW Z a0 own_EL) (wS : ∀ a ∈ Bundle.stringAtoms, a.before a0 Z = true) (G1 : Int32) (G3 : Value) (U8 : Addr) (x : Addr) (b : Addr) (bk : ClassId) (k : Int32) (h0 : Heap) (n0 : Nat) (z0 : n0 ≤ h0.size) (X00 : Old Z n0 h0) (xE : Exa Z h0 x "java/lang/String") (xV : Fld Z h0 x "java/lang/String" "value" "[B" (.ref b)) (xC : Fld Z h0 x "java/lang/String" "coder" "B" (.int 1)) (bK : Arv Z h0 b bk .byte (2 : Int32) ([(.int ((k >>> ((0 : Int32) &&& 31)).toInt8.toInt32)), (.int ((k >>> ((8 : Int32) &&& 31)).toInt8.toInt32))]) (.int 0)) (bE : Exa Z h0 b "[B") (O2 : Sta Z Z.heap "java/lang/String" "COMPACT_STRINGS" "Z" (.int G1)) (O4 : Sta Z Z.heap "jdk/internal/util/Preconditions" "SIOOBE_FORMATTER" "Ljava/util/function/BiFunction;" G3) (P5 : ¬ G1 = (0 : Int32)) (rG3 : G3.isRef = true) (OU1 : Sta Z Z.heap "java/nio/charset/StandardCharsets" "UTF_8" "Ljava/nio/charset/Charset;" (.ref U8)) (OU2 : Sta Z Z.heap "sun/nio/cs/UTF_8" "INSTANCE" "Lsun/nio/cs/UTF_8;" (.ref U8)) (OA : Sta Z Z.heap "java/lang/StringUTF16" "$assertionsDisabled" "Z" (.int 1)) (OH : Sta Z Z.heap "java/lang/StringUTF16" "HI_BYTE_SHIFT" "I" (.int 0)) (OL : Sta Z Z.heap "java/lang/StringUTF16" "LO_BYTE_SHIFT" "I" (.int 8)) (hk : 0 ≤ k.toInt ∧ k.toInt ≤ 65535) (h1 : ¬ k < (128 : Int32)) (h2 : ¬ k < (2048 : Int32)) (hs : k < (55296 : Int32) ∨ ¬ k < (57344 : Int32)) :
    own_MetW l Z own_EL (⟨"com/example/exact_rest/exactrest/PathSegments", "encode", "(Ljava/lang/String;)Ljava/lang/String;"⟩ : MethodName) prog_13_method_3_code 7 (some (.object "java/lang/String")) ({ frames := 6, cells := 25, slots := 714, locals := 91 } : Room) n0 #[(.ref x)] h0 [] (fun v h => ∃ x2 : Addr, ∃ r : Addr, ∃ rk : ClassId, v = some (.ref x2) ∧ h0.size ≤ x2 ∧ h0.size ≤ r ∧ Keep h0 h [] ∧ Exa Z h x2 "java/lang/String" ∧ Fld Z h x2 "java/lang/String" "coder" "B" (.int 0) ∧ Fld Z h x2 "java/lang/String" "value" "[B" (.ref r) ∧ Arv Z h r rk .byte (9 : Int32) ([(.int 37), (.int ((own_hx (((224 : Int32) ||| (k >>> ((12 : Int32) &&& 31))) >>> ((4 : Int32) &&& 31))).toInt8.toInt32)), (.int ((own_hx (((224 : Int32) ||| (k >>> ((12 : Int32) &&& 31))) &&& (15 : Int32))).toInt8.toInt32)), (.int 37), (.int ((own_hx (((128 : Int32) ||| ((k >>> ((6 : Int32) &&& 31)) &&& (63 : Int32))) >>> ((4 : Int32) &&& 31))).toInt8.toInt32)), (.int ((own_hx (((128 : Int32) ||| ((k >>> ((6 : Int32) &&& 31)) &&& (63 : Int32))) &&& (15 : Int32))).toInt8.toInt32)), (.int 37), (.int ((own_hx (((128 : Int32) ||| (k &&& (63 : Int32))) >>> ((4 : Int32) &&& 31))).toInt8.toInt32)), (.int ((own_hx (((128 : Int32) ||| (k &&& (63 : Int32))) &&& (15 : Int32))).toInt8.toInt32))]) (.int 0)) := by
  refine own_metW hEL wS (by decide +kernel) #[.val (.ref x), .unset, .unset, .unset, .unset, .unset, .unset] (fun m => by first | (simp [entryFrame, mkF, argsToLocals, Value.category]; done) | rfl) ?_
  intro p e s m below meth c T0 CW SW0
  refine own_lift CW SW0 ?_
  intro vm3091 C S3092 rb3093
  refine own_new C S3092 (own_wd hw 32 rfl) (own_wd hw 33 rfl) (own_wd hw 34 rfl) (by decide +kernel) (by decide) (by decide) ?_
  intro T3094 h3096 a3097 S3095 g3098 E3099 x3100 D3101
  have f3102 : Fld Z h3096 a3097 "java/lang/AbstractStringBuilder" "value" "[B" .null := D3101 (ty := (.array .byte)) (Or.inl (own_wd hw 57 rfl)) own_fd0
  have f3103 : Fld Z h3096 a3097 "java/lang/AbstractStringBuilder" "coder" "B" (.int 0) := D3101 (ty := .byte) (Or.inl (own_wd hw 59 rfl)) own_fd1
  have f3104 : Fld Z h3096 a3097 "java/lang/AbstractStringBuilder" "count" "I" (.int 0) := D3101 (ty := .int) (Or.inl (own_wd hw 140 rfl)) own_fd2
  refine own_seg C S3095 [(3, .dup, 1), (4, .aload_n 0, 1)] (by decide +kernel) 5 #[.val (.ref x), .unset, .unset, .unset, .unset, .unset, .unset] [(.ref x), (.ref a3097), (.ref a3097)] rfl ?_
  have f3105 := (X00.ext E3099)
  have f3106 := (Exa.ext E3099 xE)
  have f3107 := (Fld.ext E3099 xV)
  have f3108 := (Fld.ext E3099 xC)
  have f3109 := (bK.ext E3099)
  have f3110 : n0 ≤ h3096.size := (Nat.le_trans z0 E3099.1)
  refine own_callV C S3095 (own_wd hw 35 rfl) (own_wd hw 36 rfl) (own_wd hw 38 rfl) (own_wd hw 38 rfl) rfl (own_wd hw 37 rfl) (by decide) (own_Met.pay (own_len l Z a0 hw G1 G3 x _ _ _ _ _ h3096 n0 f3110 f3105 f3106 f3107 f3108 f3109 O2 O4 P5 rG3 (by decide)) C 2 (own_wd hw 39 rfl) (own_wd hw 4 rfl) (by decide) (by decide)) (fun _ _ _ q => q.2) f3106 [] [(.ref a3097), (.ref a3097)] rfl own_pd5 rfl rfl rfl (Nat.le_of_ble_eq_true rfl) (by decide) (by decide) (by decide +kernel) ?_
  rintro T3112 h3113 v3114 L3115 S3116 ⟨⟨rfl, e3111⟩, -⟩
  rw [e3111] at S3116; clear e3111
  show own_Go p e below _ T3112 (mkF m 8 #[.val (.ref x), .unset, .unset, .unset, .unset, .unset, .unset] [(.int ((2 : Int32) >>> ((1 : Int32) &&& 31))), (.ref a3097), (.ref a3097)])
  show own_Go p e below _ T3112 (mkF m 8 #[.val (.ref x), .unset, .unset, .unset, .unset, .unset, .unset] [(.int 1), (.ref a3097), (.ref a3097)])
  have g3117 : n0 ≤ a3097 := by rw [g3098]; exact z0
  refine own_callI C S3116 rfl (own_wd hw 45 rfl) (own_wd hw 46 rfl) (own_wd hw 47 rfl) (by decide) (own_Met.pay (own_sbI1 l Z a0 hw G1 G3 a3097 h3096 n0 f3110 g3117 f3105 x3100 f3102 f3103 f3104 O2 O4 P5 rG3) C 1 (own_wd hw 47 rfl) (own_wd hw 34 rfl) (by decide) (by decide)) (fun _ _ _ q => q.2) [(.int 1)] [(.ref a3097)] rfl own_pd22 rfl rfl rfl (Nat.le_of_ble_eq_true rfl) (by decide) (by decide) (by decide +kernel) ?_
  rintro T3128 h3129 v3130 L3131 S3132 ⟨⟨a3118, k3119, rfl, g3120, K3121, f3122, f3123, f3124, f3125, f3126, f3127⟩, -⟩
  show own_Go p e below _ T3128 (mkF m 11 #[.val (.ref x), .unset, .unset, .unset, .unset, .unset, .unset] [(.ref a3097)])
  refine own_seg C S3132 [(11, .astore_n 1, 1), (12, .aload_n 0, 1)] (by decide +kernel) 13 #[.val (.ref x), .val (.ref a3097), .unset, .unset, .unset, .unset, .unset] [(.ref x)] rfl ?_
  have f3133 := (f3105.keep K3121 (allS g3117 all0))
  refine own_getS C S3132 (own_wd hw 60 rfl) Via.refl (OU1.ext f3133.2) (by decide +kernel) ?_
  intro T3134 S3135
  have f3136 := (f3106.keep K3121)
  have n3137 : x ≠ a3097 := by rw [g3098]; exact Nat.ne_of_lt xE.lt
  have f3138 := (f3107.keep K3121 (ninS n3137 nin0))
  have f3139 := (f3108.keep K3121 (ninS n3137 nin0))
  have n3140 : b ≠ a3097 := by rw [g3098]; exact Nat.ne_of_lt bK.lt
  have f3141 := (f3109.keep K3121 (ninS n3140 nin0))
  have f3142 := ((Exa.ext E3099 bE).keep K3121)
  have f3143 : n0 ≤ h3129.size := (Nat.le_trans f3110 K3121.1)
  refine own_callV C S3135 (own_wd hw 62 rfl) (own_wd hw 63 rfl) (own_wd hw 65 rfl) (own_wd hw 65 rfl) rfl (own_wd hw 64 rfl) (by decide) (own_Met.pay (own_gb4 l Z a0 hw G1 G3 U8 x _ _ k h3129 n0 f3143 f3133 f3136 f3138 f3139 f3141 f3142 O2 O4 P5 rG3 OU1 OU2 OA OH OL hk h1 h2 hs) C 0 (own_wd hw 66 rfl) (own_wd hw 4 rfl) (by decide) (by decide)) (fun _ _ _ q => q.2) f3136 [(.ref U8)] [] rfl own_pd29 rfl rfl rfl (Nat.le_of_ble_eq_true rfl) (by decide) (by decide) (by decide +kernel) ?_
  rintro T3150 h3151 v3152 L3153 S3154 ⟨⟨a3144, k3145, rfl, g3146, K3147, f3148, f3149⟩, -⟩
  show own_Go p e below _ T3150 (mkF m 19 #[.val (.ref x), .val (.ref a3097), .unset, .unset, .unset, .unset, .unset] [(.ref a3144)])
  refine own_seg C S3154 [(19, .astore_n 2, 1), (20, .aload_n 2, 1)] (by decide +kernel) 21 #[.val (.ref x), .val (.ref a3097), .val (.ref a3144), .unset, .unset, .unset, .unset] [(.ref a3144)] rfl ?_
  refine own_alen C S3154 f3148 (by decide +kernel) ?_
  refine own_seg C S3154 [(22, .istore_n 3, 1), (23, .iconst 0, 1), (24, .istore 4, 2)] (by decide +kernel) 26 #[.val (.ref x), .val (.ref a3097), .val (.ref a3144), .val (.int 3), .val (.int 0), .unset, .unset] [] rfl ?_
  refine own_seg C S3154 [(26, .iload 4, 2), (28, .iload_n 3, 1)] (by decide +kernel) 29 #[.val (.ref x), .val (.ref a3097), .val (.ref a3144), .val (.int 3), .val (.int 0), .unset, .unset] [(.int 3), (.int 0)] rfl ?_
  refine own_icmp C S3154 (q := .ge) (o := 74) (by decide +kernel) 103 (by decide) (by decide) (fun (hq : ¬ (0 : Int32) < (3 : Int32)) => False.elim (by revert hq; decide)) (fun (q3155 : (0 : Int32) < (3 : Int32)) => ?_)
  refine own_seg C S3154 [(32, .aload_n 2, 1), (33, .iload 4, 2)] (by decide +kernel) 35 #[.val (.ref x), .val (.ref a3097), .val (.ref a3144), .val (.int 3), .val (.int 0), .unset, .unset] [(.int 0), (.ref a3144)] rfl ?_
  refine own_baload C S3154 f3148 ⟨(by decide), (by decide)⟩ (.int (((224 : Int32) ||| (k >>> ((12 : Int32) &&& 31))).toInt8.toInt32)) rfl (by decide +kernel) ?_
  refine own_seg C S3154 [(36, .istore 5, 2), (38, .iload 5, 2), (40, .sipush 255, 3), (43, .iand, 1), (44, .i2c, 1), (45, .istore 6, 2)] (by decide +kernel) 47 #[.val (.ref x), .val (.ref a3097), .val (.ref a3144), .val (.int 3), .val (.int 0), .val (.int (((224 : Int32) ||| (k >>> ((12 : Int32) &&& 31))).toInt8.toInt32)), .val (.int ((((224 : Int32) ||| (k >>> ((12 : Int32) &&& 31))).toInt8.toInt32 &&& (255 : Int32)).toUInt32.toUInt16.toUInt32.toInt32))] [] rfl ?_
  rw [show (((224 : Int32) ||| (k >>> ((12 : Int32) &&& 31))).toInt8.toInt32 &&& (255 : Int32)).toUInt32.toUInt16.toUInt32.toInt32 = ((224 : Int32) ||| (k >>> ((12 : Int32) &&& 31))) from own_by (own_x3a hk.1 hk.2).1]
  obtain ⟨z3156, hz3156⟩ : ∃ y, y = ((224 : Int32) ||| (k >>> ((12 : Int32) &&& 31))) := ⟨_, rfl⟩
  rw [← hz3156]
  have hb3157 : ¬ z3156 < 0 ∧ ¬ (255 : Int32) < z3156 := by rw [hz3156]; exact (own_x3a hk.1 hk.2).1
  have hb3158 : ¬ z3156 < 128 := by rw [hz3156]; exact (own_x3a hk.1 hk.2).2
  refine own_seg C S3154 [(47, .iload 6, 2)] (by decide +kernel) 49 #[.val (.ref x), .val (.ref a3097), .val (.ref a3144), .val (.int 3), .val (.int 0), .val (.int z3156.toInt8.toInt32), .val (.int z3156)] [(.int z3156)] rfl ?_
  have f3159 := (f3133.keep K3147 all0)
  have f3160 : n0 ≤ h3151.size := (Nat.le_trans f3143 K3147.1)
  have o3169 : h0.size ≤ a3097 := by rw [g3098]; exact (Nat.le_refl _)
  have o3171 : h0.size ≤ h3129.size := (Nat.le_trans (Nat.le_trans (Nat.le_refl _) E3099.1) K3121.1)
  have o3170 : h0.size ≤ a3144 := Nat.le_trans o3171 g3146
  have o3173 : h0.size ≤ h3096.size := (Nat.le_trans (Nat.le_refl _) E3099.1)
  have o3172 : h0.size ≤ a3118 := Nat.le_trans o3173 g3120
  have f3174 : a3118 < h3151.size := (Nat.lt_of_lt_of_le f3126.lt K3147.1)
  have f3175 : a3097 < h3151.size := (Nat.lt_of_lt_of_le (Nat.lt_of_lt_of_le f3102.lt K3121.1) K3147.1)
  have SW3176 := rb3093 _ _ _ _ [] [a3097, a3118, a3144] S3154 ((((Keep.refl _ _).ext E3099).trans K3121 (allS (Or.inr o3169) all0)).trans K3147 all0) all0 (allS ⟨o3169, f3175⟩ (allS ⟨o3172, f3174⟩ (allS ⟨o3170, f3148.lt⟩ all0)))
  refine own_callSW CW SW3176 (own_wd hw 91 rfl) (own_wd hw 92 rfl) (own_wd hw 30 rfl) (own_wd hw 93 rfl) (by decide) (own_ipc l Z a0 hw hEL wS G1 G3 U8 z3156 h3151 n0 f3160 f3159 O2 O4 P5 rG3 OU1 OU2 OA OH OL hb3157) all0 0 (by decide) (by decide) [(.int z3156)] [] rfl own_pd11 rfl rfl rfl (Nat.le_of_ble_eq_true rfl) (by decide) (by decide) (by decide +kernel) ?_
  rintro T3177 h3178 v3179 SW3180 hg3181 ⟨y3161, rfl, K3162, p3163⟩
  show own_Go p e below _ T3177 (mkF m 52 #[.val (.ref x), .val (.ref a3097), .val (.ref a3144), .val (.int 3), .val (.int 0), .val (.int z3156.toInt8.toInt32), .val (.int z3156)] [(.int y3161)])
  have hr3182 : y3161 = 0 := own_PC.zero p3163 (own_al.no hb3158)
  subst hr3182
  refine own_lift CW SW3180 ?_
  intro vm3183 C S3184 rb3185
  refine own_if C S3184 (q := .eq) (o := 13) (by decide +kernel) 65 (by decide) (by decide) (fun (q3186 : (0 : Int32) = (0 : Int32)) => ?_) (fun (hq : ¬ (0 : Int32) = (0 : Int32)) => False.elim (hq rfl))
  refine own_seg C S3184 [(65, .aload_n 1, 1), (66, .bipush 37, 2)] (by decide +kernel) 68 #[.val (.ref x), .val (.ref a3097), .val (.ref a3144), .val (.int 3), .val (.int 0), .val (.int z3156.toInt8.toInt32), .val (.int z3156)] [(.int 37), (.ref a3097)] rfl ?_
  have f3187 := (f3159.keep K3162 all0)
  have f3188 := ((f3122.keep K3147).keep K3162)
  have f3189 := ((f3123.keep K3147 nin0).keep K3162 nin0)
  have f3190 := ((f3124.keep K3147 nin0).keep K3162 nin0)
  have f3191 := ((f3125.keep K3147 nin0).keep K3162 nin0)
  have f3192 := ((f3126.keep K3147 nin0).keep K3162 nin0)
  have f3193 : n0 ≤ h3178.size := (Nat.le_trans f3160 K3162.1)
  have g3194 : n0 ≤ a3118 := Nat.le_trans f3110 g3120
  have n3195 : a3097 ≠ a3118 := Nat.ne_of_lt (Nat.lt_of_lt_of_le f3102.lt g3120)
  refine own_callV C S3184 (own_wd hw 129 rfl) (own_wd hw 130 rfl) (own_wd hw 132 rfl) (own_wd hw 132 rfl) rfl (own_wd hw 131 rfl) (by decide) (own_Met.pay (own_sbC l Z a0 hw G1 G3 a3097 _ _ _ _ _ (37 : Int32) ([(.int 37)]) h3178 n0 f3193 g3117 g3194 f3187 f3188 f3189 f3190 f3191 f3192 (Ne.symm n3195) O2 O4 P5 rG3 (by decide) (by decide) (by decide) (Nat.le_of_ble_eq_true rfl) rfl) C 0 (own_wd hw 133 rfl) (own_wd hw 34 rfl) (by decide) (by decide)) (fun _ _ _ q => q.2) f3188 [(.int 37)] [] rfl own_pd31 rfl rfl rfl (Nat.le_of_ble_eq_true rfl) (by decide) (by decide) (by decide +kernel) ?_
  rintro T3202 h3203 v3204 L3205 S3206 ⟨⟨rfl, K3196, f3197, f3198, f3199, f3200, f3201⟩, -⟩
  have f3207 : Fld Z h3203 a3097 "java/lang/AbstractStringBuilder" "count" "I" (.int 1) := f3200
  show own_Go p e below _ T3202 (mkF m 71 #[.val (.ref x), .val (.ref a3097), .val (.ref a3144), .val (.int 3), .val (.int 0), .val (.int z3156.toInt8.toInt32), .val (.int z3156)] [(.ref a3097)])
  have SW3208 := rb3185 _ _ _ _ [a3097, a3118] [] S3206 ((Keep.refl _ _).trans K3196 (allS (Or.inl (List.mem_of_getElem? (i := 0) rfl)) (allS (Or.inl (List.mem_of_getElem? (i := 1) rfl)) all0))) (allS (List.mem_of_getElem? (i := 0) rfl) (allS (List.mem_of_getElem? (i := 1) rfl) all0)) all0
  refine own_ldcWE CW SW3208 (own_wd hw 152 rfl) (List.mem_of_getElem? (i := 0) rfl) (z := (16 : Int32)) (vs := own_lv1) ⟨by decide, by decide⟩ (by decide) rfl (by decide +kernel) 64 (by decide) (by decide) (by decide) (by decide) ?_
  intro T3209 h3210 a3211 b3212 k3213 SW3214 E3215 x3216 f3217 f3218 f3219 ne3220 x3221
  refine own_lift CW SW3214 ?_
  intro vm3222 C S3223 rb3224
  refine own_seg C S3223 [(73, .iload 6, 2), (75, .iconst 4, 1), (76, .ishr, 1)] (by decide +kernel) 77 #[.val (.ref x), .val (.ref a3097), .val (.ref a3144), .val (.int 3), .val (.int 0), .val (.int z3156.toInt8.toInt32), .val (.int z3156)] [(.int (z3156 >>> ((4 : Int32) &&& 31))), (.ref a3211), (.ref a3097)] rfl ?_
  have f3225 := ((f3187.keep K3196 (allS g3117 (allS g3194 all0))).ext E3215)
  have f3226 : n0 ≤ h3210.size := (Nat.le_trans (Nat.le_trans f3193 K3196.1) E3215.1)
  refine own_callV C S3223 (own_wd hw 153 rfl) (own_wd hw 154 rfl) (own_wd hw 156 rfl) (own_wd hw 156 rfl) rfl (own_wd hw 155 rfl) (by decide) (own_Met.pay (own_sch l Z a0 hw G1 G3 a3211 _ _ _ _ (z3156 >>> ((4 : Int32) &&& 31)) (own_hx (z3156 >>> ((4 : Int32) &&& 31))) (own_hx (z3156 >>> ((4 : Int32) &&& 31))) h3210 n0 f3226 f3225 x3216 f3218 f3217 f3219 O2 O4 P5 rG3 (own_j16 (own_d4 hb3157).1) (own_hxV _) (own_hcc _) (own_c16 (own_hxB _))) C 1 (own_wd hw 157 rfl) (own_wd hw 4 rfl) (by decide) (by decide)) (fun _ _ _ q => q.2) x3216 [(.int (z3156 >>> ((4 : Int32) &&& 31)))] [(.ref a3097)] rfl own_pd32 rfl rfl rfl (Nat.le_of_ble_eq_true rfl) (by decide) (by decide) (by decide +kernel) ?_
  rintro T3228 h3229 v3230 L3231 S3232 ⟨⟨rfl, e3227⟩, -⟩
  rw [e3227] at S3232; clear e3227
  show own_Go p e below _ T3228 (mkF m 80 #[.val (.ref x), .val (.ref a3097), .val (.ref a3144), .val (.int 3), .val (.int 0), .val (.int z3156.toInt8.toInt32), .val (.int z3156)] [(.int (own_hx (z3156 >>> ((4 : Int32) &&& 31)))), (.ref a3097)])
  obtain ⟨y3233, hy3233⟩ : ∃ y, y = (own_hx (z3156 >>> ((4 : Int32) &&& 31))) := ⟨_, rfl⟩
  rw [← hy3233]
  have hb3234 : ¬ y3233 < 0 ∧ ¬ (255 : Int32) < y3233 := by rw [hy3233]; exact own_hxB _
  have f3235 := (Exa.ext E3215 f3197)
  have f3236 := (Fld.ext E3215 f3198)
  have f3237 := (Fld.ext E3215 f3199)
  have f3238 := (Fld.ext E3215 f3207)
  have f3239 := (f3201.ext E3215)
  refine own_callV C S3232 (own_wd hw 129 rfl) (own_wd hw 130 rfl) (own_wd hw 132 rfl) (own_wd hw 132 rfl) rfl (own_wd hw 131 rfl) (by decide) (own_Met.pay (own_sbG1 l Z a0 hw G1 G3 a3097 _ _ (37 : Int32) y3233 h3210 n0 f3226 g3117 f3225 f3235 f3236 f3237 f3238 f3239 (Ne.symm n3195) O2 O4 P5 rG3 ((hb3234).2)) C 0 (own_wd hw 133 rfl) (own_wd hw 34 rfl) (by decide) (by decide)) (fun _ _ _ q => q.2) f3235 [(.int y3233)] [] rfl own_pd31 rfl rfl rfl (Nat.le_of_ble_eq_true rfl) (by decide) (by decide) (by decide +kernel) ?_
  rintro T3250 h3251 v3252 L3253 S3254 ⟨⟨a3240, k3241, rfl, g3242, K3243, f3244, f3245, f3246, f3247, f3248, f3249⟩, -⟩
  show own_Go p e below _ T3250 (mkF m 83 #[.val (.ref x), .val (.ref a3097), .val (.ref a3144), .val (.int 3), .val (.int 0), .val (.int z3156.toInt8.toInt32), .val (.int z3156)] [(.ref a3097)])
  have o3255 : h3210.size ≤ a3240 := Nat.le_trans (Nat.le_refl _) g3242
  have SW3256 := rb3224 _ _ _ _ [a3097] [a3240] S3254 ((Keep.refl _ _).trans K3243 (allS (Or.inl (List.mem_of_getElem? (i := 0) rfl)) all0)) (allS (List.mem_of_getElem? (i := 0) rfl) all0) (allS ⟨o3255, f3248.lt⟩ all0)
  refine own_ldcWE CW SW3256 (own_wd hw 152 rfl) (List.mem_of_getElem? (i := 0) rfl) (z := (16 : Int32)) (vs := own_lv1) ⟨by decide, by decide⟩ (by decide) rfl (by decide +kernel) 64 (by decide) (by decide) (by decide) (by decide) ?_
  intro T3257 h3258 a3259 b3260 k3261 SW3262 E3263 x3264 f3265 f3266 f3267 ne3268 x3269
  refine own_lift CW SW3262 ?_
  intro vm3270 C S3271 rb3272
  refine own_seg C S3271 [(85, .iload 6, 2), (87, .bipush 15, 2), (89, .iand, 1)] (by decide +kernel) 90 #[.val (.ref x), .val (.ref a3097), .val (.ref a3144), .val (.int 3), .val (.int 0), .val (.int z3156.toInt8.toInt32), .val (.int z3156)] [(.int (z3156 &&& (15 : Int32))), (.ref a3259), (.ref a3097)] rfl ?_
  have f3273 := ((f3225.keep K3243 (allS g3117 all0)).ext E3263)
  have f3274 : n0 ≤ h3258.size := (Nat.le_trans (Nat.le_trans f3226 K3243.1) E3263.1)
  refine own_callV C S3271 (own_wd hw 153 rfl) (own_wd hw 154 rfl) (own_wd hw 156 rfl) (own_wd hw 156 rfl) rfl (own_wd hw 155 rfl) (by decide) (own_Met.pay (own_sch l Z a0 hw G1 G3 a3259 _ _ _ _ (z3156 &&& (15 : Int32)) (own_hx (z3156 &&& (15 : Int32))) (own_hx (z3156 &&& (15 : Int32))) h3258 n0 f3274 f3273 x3264 f3266 f3265 f3267 O2 O4 P5 rG3 (own_j16 (own_d4 hb3157).2) (own_hxV _) (own_hcc _) (own_c16 (own_hxB _))) C 1 (own_wd hw 157 rfl) (own_wd hw 4 rfl) (by decide) (by decide)) (fun _ _ _ q => q.2) x3264 [(.int (z3156 &&& (15 : Int32)))] [(.ref a3097)] rfl own_pd32 rfl rfl rfl (Nat.le_of_ble_eq_true rfl) (by decide) (by decide) (by decide +kernel) ?_
  rintro T3276 h3277 v3278 L3279 S3280 ⟨⟨rfl, e3275⟩, -⟩
  rw [e3275] at S3280; clear e3275
  show own_Go p e below _ T3276 (mkF m 93 #[.val (.ref x), .val (.ref a3097), .val (.ref a3144), .val (.int 3), .val (.int 0), .val (.int z3156.toInt8.toInt32), .val (.int z3156)] [(.int (own_hx (z3156 &&& (15 : Int32)))), (.ref a3097)])
  obtain ⟨y3281, hy3281⟩ : ∃ y, y = (own_hx (z3156 &&& (15 : Int32))) := ⟨_, rfl⟩
  rw [← hy3281]
  have hb3282 : ¬ y3281 < 0 ∧ ¬ (255 : Int32) < y3281 := by rw [hy3281]; exact own_hxB _
  have f3283 := (Exa.ext E3263 f3244)
  have f3284 := (Fld.ext E3263 f3245)
  have f3285 := (Fld.ext E3263 f3246)
  have f3286 := (Fld.ext E3263 f3247)
  have f3287 := (f3248.ext E3263)
  have g3288 : n0 ≤ a3240 := Nat.le_trans f3226 g3242
  have f3289 : a3097 < h3210.size := (Nat.lt_of_lt_of_le (Nat.lt_of_lt_of_le (Nat.lt_of_lt_of_le f3175 K3162.1) K3196.1) E3215.1)
  have n3290 : a3097 ≠ a3240 := Nat.ne_of_lt (Nat.lt_of_lt_of_le f3289 g3242)
  refine own_callV C S3280 (own_wd hw 129 rfl) (own_wd hw 130 rfl) (own_wd hw 132 rfl) (own_wd hw 132 rfl) rfl (own_wd hw 131 rfl) (by decide) (own_Met.pay (own_sbC l Z a0 hw G1 G3 a3097 _ _ _ _ _ y3281 ([(.int 37), (.int y3233.toInt8.toInt32), (.int y3281.toInt8.toInt32), (.int 0)]) h3258 n0 f3274 g3117 g3288 f3273 f3283 f3284 f3285 f3286 f3287 (Ne.symm n3290) O2 O4 P5 rG3 hb3282.2 (by decide) (by decide) (Nat.le_of_ble_eq_true rfl) rfl) C 0 (own_wd hw 133 rfl) (own_wd hw 34 rfl) (by decide) (by decide)) (fun _ _ _ q => q.2) f3283 [(.int y3281)] [] rfl own_pd31 rfl rfl rfl (Nat.le_of_ble_eq_true rfl) (by decide) (by decide) (by decide +kernel) ?_
  rintro T3297 h3298 v3299 L3300 S3301 ⟨⟨rfl, K3291, f3292, f3293, f3294, f3295, f3296⟩, -⟩
  have f3302 : Fld Z h3298 a3097 "java/lang/AbstractStringBuilder" "count" "I" (.int 3) := f3295
  show own_Go p e below _ T3297 (mkF m 96 #[.val (.ref x), .val (.ref a3097), .val (.ref a3144), .val (.int 3), .val (.int 0), .val (.int z3156.toInt8.toInt32), .val (.int z3156)] [(.ref a3097)])
  refine own_seg C S3301 [(96, .pop, 1)] (by decide +kernel) 97 #[.val (.ref x), .val (.ref a3097), .val (.ref a3144), .val (.int 3), .val (.int 0), .val (.int z3156.toInt8.toInt32), .val (.int z3156)] [] rfl ?_
  refine own_seg C S3301 [(97, .iinc 4 1, 3), (100, .goto (-74), 3)] (by decide +kernel) 26 #[.val (.ref x), .val (.ref a3097), .val (.ref a3144), .val (.int 3), .val (.int ((0 : Int32) + (1 : Int32))), .val (.int z3156.toInt8.toInt32), .val (.int z3156)] [] rfl ?_
  show own_Go p e below _ T3297 (mkF m 26 #[.val (.ref x), .val (.ref a3097), .val (.ref a3144), .val (.int 3), .val (.int 1), .val (.int z3156.toInt8.toInt32), .val (.int z3156)] [])
  refine own_seg C S3301 [(26, .iload 4, 2), (28, .iload_n 3, 1)] (by decide +kernel) 29 #[.val (.ref x), .val (.ref a3097), .val (.ref a3144), .val (.int 3), .val (.int 1), .val (.int z3156.toInt8.toInt32), .val (.int z3156)] [(.int 3), (.int 1)] rfl ?_
  refine own_icmp C S3301 (q := .ge) (o := 74) (by decide +kernel) 103 (by decide) (by decide) (fun (hq : ¬ (1 : Int32) < (3 : Int32)) => False.elim (by revert hq; decide)) (fun (q3303 : (1 : Int32) < (3 : Int32)) => ?_)
  refine own_seg C S3301 [(32, .aload_n 2, 1), (33, .iload 4, 2)] (by decide +kernel) 35 #[.val (.ref x), .val (.ref a3097), .val (.ref a3144), .val (.int 3), .val (.int 1), .val (.int z3156.toInt8.toInt32), .val (.int z3156)] [(.int 1), (.ref a3144)] rfl ?_
  have n3304 : a3118 ≠ a3144 := Nat.ne_of_lt (Nat.lt_of_lt_of_le f3126.lt g3146)
  have f3305 : a3097 < h3129.size := (Nat.lt_of_lt_of_le f3102.lt K3121.1)
  have n3306 : a3097 ≠ a3144 := Nat.ne_of_lt (Nat.lt_of_lt_of_le f3305 g3146)
  have f3307 : a3144 < h3210.size := (Nat.lt_of_lt_of_le (Nat.lt_of_lt_of_le (Nat.lt_of_lt_of_le f3148.lt K3162.1) K3196.1) E3215.1)
  have n3308 : a3144 ≠ a3240 := Nat.ne_of_lt (Nat.lt_of_lt_of_le f3307 g3242)
  have f3309 := ((((((f3148.keep K3162 nin0).keep K3196 (ninS (Ne.symm n3306) (ninS (Ne.symm n3304) nin0))).ext E3215).keep K3243 (ninS (Ne.symm n3306) nin0)).ext E3263).keep K3291 (ninS (Ne.symm n3306) (ninS n3308 nin0)))
  refine own_baload C S3301 f3309 ⟨(by decide), (by decide)⟩ (.int (((128 : Int32) ||| ((k >>> ((6 : Int32) &&& 31)) &&& (63 : Int32))).toInt8.toInt32)) rfl (by decide +kernel) ?_
  refine own_seg C S3301 [(36, .istore 5, 2), (38, .iload 5, 2), (40, .sipush 255, 3), (43, .iand, 1), (44, .i2c, 1), (45, .istore 6, 2)] (by decide +kernel) 47 #[.val (.ref x), .val (.ref a3097), .val (.ref a3144), .val (.int 3), .val (.int 1), .val (.int (((128 : Int32) ||| ((k >>> ((6 : Int32) &&& 31)) &&& (63 : Int32))).toInt8.toInt32)), .val (.int ((((128 : Int32) ||| ((k >>> ((6 : Int32) &&& 31)) &&& (63 : Int32))).toInt8.toInt32 &&& (255 : Int32)).toUInt32.toUInt16.toUInt32.toInt32))] [] rfl ?_
  rw [show (((128 : Int32) ||| ((k >>> ((6 : Int32) &&& 31)) &&& (63 : Int32))).toInt8.toInt32 &&& (255 : Int32)).toUInt32.toUInt16.toUInt32.toInt32 = ((128 : Int32) ||| ((k >>> ((6 : Int32) &&& 31)) &&& (63 : Int32))) from own_by (own_xb (k >>> ((6 : Int32) &&& 31))).1]
  obtain ⟨z3310, hz3310⟩ : ∃ y, y = ((128 : Int32) ||| ((k >>> ((6 : Int32) &&& 31)) &&& (63 : Int32))) := ⟨_, rfl⟩
  rw [← hz3310]
  have hb3311 : ¬ z3310 < 0 ∧ ¬ (255 : Int32) < z3310 := by rw [hz3310]; exact (own_xb (k >>> ((6 : Int32) &&& 31))).1
  have hb3312 : ¬ z3310 < 128 := by rw [hz3310]; exact (own_xb (k >>> ((6 : Int32) &&& 31))).2
  refine own_seg C S3301 [(47, .iload 6, 2)] (by decide +kernel) 49 #[.val (.ref x), .val (.ref a3097), .val (.ref a3144), .val (.int 3), .val (.int 1), .val (.int z3310.toInt8.toInt32), .val (.int z3310)] [(.int z3310)] rfl ?_
  have f3313 := (f3273.keep K3291 (allS g3117 (allS g3288 all0)))
  have f3314 : n0 ≤ h3298.size := (Nat.le_trans f3274 K3291.1)
  have SW3323 := rb3272 _ _ _ _ [a3097, a3240] [] S3301 ((Keep.refl _ _).trans K3291 (allS (Or.inl (List.mem_of_getElem? (i := 0) rfl)) (allS (Or.inl (List.mem_of_getElem? (i := 1) rfl)) all0))) (allS (List.mem_of_getElem? (i := 1) rfl) (allS (List.mem_of_getElem? (i := 0) rfl) all0)) all0
  refine own_callSW CW SW3323 (own_wd hw 91 rfl) (own_wd hw 92 rfl) (own_wd hw 30 rfl) (own_wd hw 93 rfl) (by decide) (own_ipc l Z a0 hw hEL wS G1 G3 U8 z3310 h3298 n0 f3314 f3313 O2 O4 P5 rG3 OU1 OU2 OA OH OL hb3311) all0 0 (by decide) (by decide) [(.int z3310)] [] rfl own_pd11 rfl rfl rfl (Nat.le_of_ble_eq_true rfl) (by decide) (by decide) (by decide +kernel) ?_
  rintro T3324 h3325 v3326 SW3327 hg3328 ⟨y3315, rfl, K3316, p3317⟩
  show own_Go p e below _ T3324 (mkF m 52 #[.val (.ref x), .val (.ref a3097), .val (.ref a3144), .val (.int 3), .val (.int 1), .val (.int z3310.toInt8.toInt32), .val (.int z3310)] [(.int y3315)])
  have hr3329 : y3315 = 0 := own_PC.zero p3317 (own_al.no hb3312)
  subst hr3329
  refine own_lift CW SW3327 ?_
  intro vm3330 C S3331 rb3332
  refine own_if C S3331 (q := .eq) (o := 13) (by decide +kernel) 65 (by decide) (by decide) (fun (q3333 : (0 : Int32) = (0 : Int32)) => ?_) (fun (hq : ¬ (0 : Int32) = (0 : Int32)) => False.elim (hq rfl))
  refine own_seg C S3331 [(65, .aload_n 1, 1), (66, .bipush 37, 2)] (by decide +kernel) 68 #[.val (.ref x), .val (.ref a3097), .val (.ref a3144), .val (.int 3), .val (.int 1), .val (.int z3310.toInt8.toInt32), .val (.int z3310)] [(.int 37), (.ref a3097)] rfl ?_
  have f3334 := (f3313.keep K3316 all0)
  have f3335 := (f3292.keep K3316)
  have f3336 := (f3293.keep K3316 nin0)
  have f3337 := (f3294.keep K3316 nin0)
  have f3338 := (f3302.keep K3316 nin0)
  have f3339 := (f3296.keep K3316 nin0)
  have f3340 : n0 ≤ h3325.size := (Nat.le_trans f3314 K3316.1)
  refine own_callV C S3331 (own_wd hw 129 rfl) (own_wd hw 130 rfl) (own_wd hw 132 rfl) (own_wd hw 132 rfl) rfl (own_wd hw 131 rfl) (by decide) (own_Met.pay (own_sbC l Z a0 hw G1 G3 a3097 _ _ _ _ _ (37 : Int32) ([(.int 37), (.int y3233.toInt8.toInt32), (.int y3281.toInt8.toInt32), (.int 37)]) h3325 n0 f3340 g3117 g3288 f3334 f3335 f3336 f3337 f3338 f3339 (Ne.symm n3290) O2 O4 P5 rG3 (by decide) (by decide) (by decide) (Nat.le_of_ble_eq_true rfl) rfl) C 0 (own_wd hw 133 rfl) (own_wd hw 34 rfl) (by decide) (by decide)) (fun _ _ _ q => q.2) f3335 [(.int 37)] [] rfl own_pd31 rfl rfl rfl (Nat.le_of_ble_eq_true rfl) (by decide) (by decide) (by decide +kernel) ?_
  rintro T3347 h3348 v3349 L3350 S3351 ⟨⟨rfl, K3341, f3342, f3343, f3344, f3345, f3346⟩, -⟩
  have f3352 : Fld Z h3348 a3097 "java/lang/AbstractStringBuilder" "count" "I" (.int 4) := f3345
  show own_Go p e below _ T3347 (mkF m 71 #[.val (.ref x), .val (.ref a3097), .val (.ref a3144), .val (.int 3), .val (.int 1), .val (.int z3310.toInt8.toInt32), .val (.int z3310)] [(.ref a3097)])
  have SW3353 := rb3332 _ _ _ _ [a3097, a3240] [] S3351 ((Keep.refl _ _).trans K3341 (allS (Or.inl (List.mem_of_getElem? (i := 0) rfl)) (allS (Or.inl (List.mem_of_getElem? (i := 1) rfl)) all0))) (allS (List.mem_of_getElem? (i := 1) rfl) (allS (List.mem_of_getElem? (i := 0) rfl) all0)) all0
  refine own_ldcWE CW SW3353 (own_wd hw 152 rfl) (List.mem_of_getElem? (i := 0) rfl) (z := (16 : Int32)) (vs := own_lv1) ⟨by decide, by decide⟩ (by decide) rfl (by decide +kernel) 64 (by decide) (by decide) (by decide) (by decide) ?_
  intro T3354 h3355 a3356 b3357 k3358 SW3359 E3360 x3361 f3362 f3363 f3364 ne3365 x3366
  refine own_lift CW SW3359 ?_
  intro vm3367 C S3368 rb3369
  refine own_seg C S3368 [(73, .iload 6, 2), (75, .iconst 4, 1), (76, .ishr, 1)] (by decide +kernel) 77 #[.val (.ref x), .val (.ref a3097), .val (.ref a3144), .val (.int 3), .val (.int 1), .val (.int z3310.toInt8.toInt32), .val (.int z3310)] [(.int (z3310 >>> ((4 : Int32) &&& 31))), (.ref a3356), (.ref a3097)] rfl ?_
  have f3370 := ((f3334.keep K3341 (allS g3117 (allS g3288 all0))).ext E3360)
  have f3371 : n0 ≤ h3355.size := (Nat.le_trans (Nat.le_trans f3340 K3341.1) E3360.1)
  refine own_callV C S3368 (own_wd hw 153 rfl) (own_wd hw 154 rfl) (own_wd hw 156 rfl) (own_wd hw 156 rfl) rfl (own_wd hw 155 rfl) (by decide) (own_Met.pay (own_sch l Z a0 hw G1 G3 a3356 _ _ _ _ (z3310 >>> ((4 : Int32) &&& 31)) (own_hx (z3310 >>> ((4 : Int32) &&& 31))) (own_hx (z3310 >>> ((4 : Int32) &&& 31))) h3355 n0 f3371 f3370 x3361 f3363 f3362 f3364 O2 O4 P5 rG3 (own_j16 (own_d4 hb3311).1) (own_hxV _) (own_hcc _) (own_c16 (own_hxB _))) C 1 (own_wd hw 157 rfl) (own_wd hw 4 rfl) (by decide) (by decide)) (fun _ _ _ q => q.2) x3361 [(.int (z3310 >>> ((4 : Int32) &&& 31)))] [(.ref a3097)] rfl own_pd32 rfl rfl rfl (Nat.le_of_ble_eq_true rfl) (by decide) (by decide) (by decide +kernel) ?_
  rintro T3373 h3374 v3375 L3376 S3377 ⟨⟨rfl, e3372⟩, -⟩
  rw [e3372] at S3377; clear e3372
  show own_Go p e below _ T3373 (mkF m 80 #[.val (.ref x), .val (.ref a3097), .val (.ref a3144), .val (.int 3), .val (.int 1), .val (.int z3310.toInt8.toInt32), .val (.int z3310)] [(.int (own_hx (z3310 >>> ((4 : Int32) &&& 31)))), (.ref a3097)])
  obtain ⟨y3378, hy3378⟩ : ∃ y, y = (own_hx (z3310 >>> ((4 : Int32) &&& 31))) := ⟨_, rfl⟩
  rw [← hy3378]
  have hb3379 : ¬ y3378 < 0 ∧ ¬ (255 : Int32) < y3378 := by rw [hy3378]; exact own_hxB _
  have f3380 := (Exa.ext E3360 f3342)
  have f3381 := (Fld.ext E3360 f3343)
  have f3382 := (Fld.ext E3360 f3344)
  have f3383 := (Fld.ext E3360 f3352)
  have f3384 := (f3346.ext E3360)
  refine own_callV C S3377 (own_wd hw 129 rfl) (own_wd hw 130 rfl) (own_wd hw 132 rfl) (own_wd hw 132 rfl) rfl (own_wd hw 131 rfl) (by decide) (own_Met.pay (own_sbG4 l Z a0 hw G1 G3 a3097 _ _ (37 : Int32) y3233.toInt8.toInt32 y3281.toInt8.toInt32 (37 : Int32) y3378 h3355 n0 f3371 g3117 f3370 f3380 f3381 f3382 f3383 f3384 (Ne.symm n3290) O2 O4 P5 rG3 ((hb3379).2)) C 0 (own_wd hw 133 rfl) (own_wd hw 34 rfl) (by decide) (by decide)) (fun _ _ _ q => q.2) f3380 [(.int y3378)] [] rfl own_pd31 rfl rfl rfl (Nat.le_of_ble_eq_true rfl) (by decide) (by decide) (by decide +kernel) ?_
  rintro T3395 h3396 v3397 L3398 S3399 ⟨⟨a3385, k3386, rfl, g3387, K3388, f3389, f3390, f3391, f3392, f3393, f3394⟩, -⟩
  show own_Go p e below _ T3395 (mkF m 83 #[.val (.ref x), .val (.ref a3097), .val (.ref a3144), .val (.int 3), .val (.int 1), .val (.int z3310.toInt8.toInt32), .val (.int z3310)] [(.ref a3097)])
  have o3400 : h3355.size ≤ a3385 := Nat.le_trans (Nat.le_refl _) g3387
  have SW3401 := rb3369 _ _ _ _ [a3097] [a3385] S3399 ((Keep.refl _ _).trans K3388 (allS (Or.inl (List.mem_of_getElem? (i := 0) rfl)) all0)) (allS (List.mem_of_getElem? (i := 1) rfl) all0) (allS ⟨o3400, f3393.lt⟩ all0)
  refine own_ldcWE CW SW3401 (own_wd hw 152 rfl) (List.mem_of_getElem? (i := 0) rfl) (z := (16 : Int32)) (vs := own_lv1) ⟨by decide, by decide⟩ (by decide) rfl (by decide +kernel) 64 (by decide) (by decide) (by decide) (by decide) ?_
  intro T3402 h3403 a3404 b3405 k3406 SW3407 E3408 x3409 f3410 f3411 f3412 ne3413 x3414
  refine own_lift CW SW3407 ?_
  intro vm3415 C S3416 rb3417
  refine own_seg C S3416 [(85, .iload 6, 2), (87, .bipush 15, 2), (89, .iand, 1)] (by decide +kernel) 90 #[.val (.ref x), .val (.ref a3097), .val (.ref a3144), .val (.int 3), .val (.int 1), .val (.int z3310.toInt8.toInt32), .val (.int z3310)] [(.int (z3310 &&& (15 : Int32))), (.ref a3404), (.ref a3097)] rfl ?_
  have f3418 := ((f3370.keep K3388 (allS g3117 all0)).ext E3408)
  have f3419 : n0 ≤ h3403.size := (Nat.le_trans (Nat.le_trans f3371 K3388.1) E3408.1)
  refine own_callV C S3416 (own_wd hw 153 rfl) (own_wd hw 154 rfl) (own_wd hw 156 rfl) (own_wd hw 156 rfl) rfl (own_wd hw 155 rfl) (by decide) (own_Met.pay (own_sch l Z a0 hw G1 G3 a3404 _ _ _ _ (z3310 &&& (15 : Int32)) (own_hx (z3310 &&& (15 : Int32))) (own_hx (z3310 &&& (15 : Int32))) h3403 n0 f3419 f3418 x3409 f3411 f3410 f3412 O2 O4 P5 rG3 (own_j16 (own_d4 hb3311).2) (own_hxV _) (own_hcc _) (own_c16 (own_hxB _))) C 1 (own_wd hw 157 rfl) (own_wd hw 4 rfl) (by decide) (by decide)) (fun _ _ _ q => q.2) x3409 [(.int (z3310 &&& (15 : Int32)))] [(.ref a3097)] rfl own_pd32 rfl rfl rfl (Nat.le_of_ble_eq_true rfl) (by decide) (by decide) (by decide +kernel) ?_
  rintro T3421 h3422 v3423 L3424 S3425 ⟨⟨rfl, e3420⟩, -⟩
  rw [e3420] at S3425; clear e3420
  show own_Go p e below _ T3421 (mkF m 93 #[.val (.ref x), .val (.ref a3097), .val (.ref a3144), .val (.int 3), .val (.int 1), .val (.int z3310.toInt8.toInt32), .val (.int z3310)] [(.int (own_hx (z3310 &&& (15 : Int32)))), (.ref a3097)])
  obtain ⟨y3426, hy3426⟩ : ∃ y, y = (own_hx (z3310 &&& (15 : Int32))) := ⟨_, rfl⟩
  rw [← hy3426]
  have hb3427 : ¬ y3426 < 0 ∧ ¬ (255 : Int32) < y3426 := by rw [hy3426]; exact own_hxB _
  have f3428 := (Exa.ext E3408 f3389)
  have f3429 := (Fld.ext E3408 f3390)
  have f3430 := (Fld.ext E3408 f3391)
  have f3431 := (Fld.ext E3408 f3392)
  have f3432 := (f3393.ext E3408)
  have g3433 : n0 ≤ a3385 := Nat.le_trans f3371 g3387
  have f3434 : a3097 < h3355.size := (Nat.lt_of_lt_of_le (Nat.lt_of_lt_of_le (Nat.lt_of_lt_of_le (Nat.lt_of_lt_of_le (Nat.lt_of_lt_of_le (Nat.lt_of_lt_of_le f3289 K3243.1) E3263.1) K3291.1) K3316.1) K3341.1) E3360.1)
  have n3435 : a3097 ≠ a3385 := Nat.ne_of_lt (Nat.lt_of_lt_of_le f3434 g3387)
  refine own_callV C S3425 (own_wd hw 129 rfl) (own_wd hw 130 rfl) (own_wd hw 132 rfl) (own_wd hw 132 rfl) rfl (own_wd hw 131 rfl) (by decide) (own_Met.pay (own_sbC l Z a0 hw G1 G3 a3097 _ _ _ _ _ y3426 ([(.int 37), (.int y3233.toInt8.toInt32), (.int y3281.toInt8.toInt32), (.int 37), (.int y3378.toInt8.toInt32), (.int y3426.toInt8.toInt32), (.int 0), (.int 0), (.int 0), (.int 0)]) h3403 n0 f3419 g3117 g3433 f3418 f3428 f3429 f3430 f3431 f3432 (Ne.symm n3435) O2 O4 P5 rG3 hb3427.2 (by decide) (by decide) (Nat.le_of_ble_eq_true rfl) rfl) C 0 (own_wd hw 133 rfl) (own_wd hw 34 rfl) (by decide) (by decide)) (fun _ _ _ q => q.2) f3428 [(.int y3426)] [] rfl own_pd31 rfl rfl rfl (Nat.le_of_ble_eq_true rfl) (by decide) (by decide) (by decide +kernel) ?_
  rintro T3442 h3443 v3444 L3445 S3446 ⟨⟨rfl, K3436, f3437, f3438, f3439, f3440, f3441⟩, -⟩
  have f3447 : Fld Z h3443 a3097 "java/lang/AbstractStringBuilder" "count" "I" (.int 6) := f3440
  show own_Go p e below _ T3442 (mkF m 96 #[.val (.ref x), .val (.ref a3097), .val (.ref a3144), .val (.int 3), .val (.int 1), .val (.int z3310.toInt8.toInt32), .val (.int z3310)] [(.ref a3097)])
  refine own_seg C S3446 [(96, .pop, 1)] (by decide +kernel) 97 #[.val (.ref x), .val (.ref a3097), .val (.ref a3144), .val (.int 3), .val (.int 1), .val (.int z3310.toInt8.toInt32), .val (.int z3310)] [] rfl ?_
  refine own_seg C S3446 [(97, .iinc 4 1, 3), (100, .goto (-74), 3)] (by decide +kernel) 26 #[.val (.ref x), .val (.ref a3097), .val (.ref a3144), .val (.int 3), .val (.int ((1 : Int32) + (1 : Int32))), .val (.int z3310.toInt8.toInt32), .val (.int z3310)] [] rfl ?_
  show own_Go p e below _ T3442 (mkF m 26 #[.val (.ref x), .val (.ref a3097), .val (.ref a3144), .val (.int 3), .val (.int 2), .val (.int z3310.toInt8.toInt32), .val (.int z3310)] [])
  refine own_seg C S3446 [(26, .iload 4, 2), (28, .iload_n 3, 1)] (by decide +kernel) 29 #[.val (.ref x), .val (.ref a3097), .val (.ref a3144), .val (.int 3), .val (.int 2), .val (.int z3310.toInt8.toInt32), .val (.int z3310)] [(.int 3), (.int 2)] rfl ?_
  refine own_icmp C S3446 (q := .ge) (o := 74) (by decide +kernel) 103 (by decide) (by decide) (fun (hq : ¬ (2 : Int32) < (3 : Int32)) => False.elim (by revert hq; decide)) (fun (q3448 : (2 : Int32) < (3 : Int32)) => ?_)
  refine own_seg C S3446 [(32, .aload_n 2, 1), (33, .iload 4, 2)] (by decide +kernel) 35 #[.val (.ref x), .val (.ref a3097), .val (.ref a3144), .val (.int 3), .val (.int 2), .val (.int z3310.toInt8.toInt32), .val (.int z3310)] [(.int 2), (.ref a3144)] rfl ?_
  have f3449 : a3144 < h3355.size := (Nat.lt_of_lt_of_le (Nat.lt_of_lt_of_le (Nat.lt_of_lt_of_le (Nat.lt_of_lt_of_le (Nat.lt_of_lt_of_le (Nat.lt_of_lt_of_le f3307 K3243.1) E3263.1) K3291.1) K3316.1) K3341.1) E3360.1)
  have n3450 : a3144 ≠ a3385 := Nat.ne_of_lt (Nat.lt_of_lt_of_le f3449 g3387)
  have f3451 := ((((((f3309.keep K3316 nin0).keep K3341 (ninS (Ne.symm n3306) (ninS n3308 nin0))).ext E3360).keep K3388 (ninS (Ne.symm n3306) nin0)).ext E3408).keep K3436 (ninS (Ne.symm n3306) (ninS n3450 nin0)))
  refine own_baload C S3446 f3451 ⟨(by decide), (by decide)⟩ (.int (((128 : Int32) ||| (k &&& (63 : Int32))).toInt8.toInt32)) rfl (by decide +kernel) ?_
  refine own_seg C S3446 [(36, .istore 5, 2), (38, .iload 5, 2), (40, .sipush 255, 3), (43, .iand, 1), (44, .i2c, 1), (45, .istore 6, 2)] (by decide +kernel) 47 #[.val (.ref x), .val (.ref a3097), .val (.ref a3144), .val (.int 3), .val (.int 2), .val (.int (((128 : Int32) ||| (k &&& (63 : Int32))).toInt8.toInt32)), .val (.int ((((128 : Int32) ||| (k &&& (63 : Int32))).toInt8.toInt32 &&& (255 : Int32)).toUInt32.toUInt16.toUInt32.toInt32))] [] rfl ?_
  rw [show (((128 : Int32) ||| (k &&& (63 : Int32))).toInt8.toInt32 &&& (255 : Int32)).toUInt32.toUInt16.toUInt32.toInt32 = ((128 : Int32) ||| (k &&& (63 : Int32))) from own_by (own_xb k).1]
  obtain ⟨z3452, hz3452⟩ : ∃ y, y = ((128 : Int32) ||| (k &&& (63 : Int32))) := ⟨_, rfl⟩
  rw [← hz3452]
  have hb3453 : ¬ z3452 < 0 ∧ ¬ (255 : Int32) < z3452 := by rw [hz3452]; exact (own_xb k).1
  have hb3454 : ¬ z3452 < 128 := by rw [hz3452]; exact (own_xb k).2
  refine own_seg C S3446 [(47, .iload 6, 2)] (by decide +kernel) 49 #[.val (.ref x), .val (.ref a3097), .val (.ref a3144), .val (.int 3), .val (.int 2), .val (.int z3452.toInt8.toInt32), .val (.int z3452)] [(.int z3452)] rfl ?_
  have f3455 := (f3418.keep K3436 (allS g3117 (allS g3433 all0)))
  have f3456 : n0 ≤ h3443.size := (Nat.le_trans f3419 K3436.1)
  have SW3465 := rb3417 _ _ _ _ [a3097, a3385] [] S3446 ((Keep.refl _ _).trans K3436 (allS (Or.inl (List.mem_of_getElem? (i := 0) rfl)) (allS (Or.inl (List.mem_of_getElem? (i := 1) rfl)) all0))) (allS (List.mem_of_getElem? (i := 2) rfl) (allS (List.mem_of_getElem? (i := 0) rfl) all0)) all0
  refine own_callSW CW SW3465 (own_wd hw 91 rfl) (own_wd hw 92 rfl) (own_wd hw 30 rfl) (own_wd hw 93 rfl) (by decide) (own_ipc l Z a0 hw hEL wS G1 G3 U8 z3452 h3443 n0 f3456 f3455 O2 O4 P5 rG3 OU1 OU2 OA OH OL hb3453) all0 0 (by decide) (by decide) [(.int z3452)] [] rfl own_pd11 rfl rfl rfl (Nat.le_of_ble_eq_true rfl) (by decide) (by decide) (by decide +kernel) ?_
  rintro T3466 h3467 v3468 SW3469 hg3470 ⟨y3457, rfl, K3458, p3459⟩
  show own_Go p e below _ T3466 (mkF m 52 #[.val (.ref x), .val (.ref a3097), .val (.ref a3144), .val (.int 3), .val (.int 2), .val (.int z3452.toInt8.toInt32), .val (.int z3452)] [(.int y3457)])
  have hr3471 : y3457 = 0 := own_PC.zero p3459 (own_al.no hb3454)
  subst hr3471
  refine own_lift CW SW3469 ?_
  intro vm3472 C S3473 rb3474
  refine own_if C S3473 (q := .eq) (o := 13) (by decide +kernel) 65 (by decide) (by decide) (fun (q3475 : (0 : Int32) = (0 : Int32)) => ?_) (fun (hq : ¬ (0 : Int32) = (0 : Int32)) => False.elim (hq rfl))
  refine own_seg C S3473 [(65, .aload_n 1, 1), (66, .bipush 37, 2)] (by decide +kernel) 68 #[.val (.ref x), .val (.ref a3097), .val (.ref a3144), .val (.int 3), .val (.int 2), .val (.int z3452.toInt8.toInt32), .val (.int z3452)] [(.int 37), (.ref a3097)] rfl ?_
  have f3476 := (f3455.keep K3458 all0)
  have f3477 := (f3437.keep K3458)
  have f3478 := (f3438.keep K3458 nin0)
  have f3479 := (f3439.keep K3458 nin0)
  have f3480 := (f3447.keep K3458 nin0)
  have f3481 := (f3441.keep K3458 nin0)
  have f3482 : n0 ≤ h3467.size := (Nat.le_trans f3456 K3458.1)
  refine own_callV C S3473 (own_wd hw 129 rfl) (own_wd hw 130 rfl) (own_wd hw 132 rfl) (own_wd hw 132 rfl) rfl (own_wd hw 131 rfl) (by decide) (own_Met.pay (own_sbC l Z a0 hw G1 G3 a3097 _ _ _ _ _ (37 : Int32) ([(.int 37), (.int y3233.toInt8.toInt32), (.int y3281.toInt8.toInt32), (.int 37), (.int y3378.toInt8.toInt32), (.int y3426.toInt8.toInt32), (.int 37), (.int 0), (.int 0), (.int 0)]) h3467 n0 f3482 g3117 g3433 f3476 f3477 f3478 f3479 f3480 f3481 (Ne.symm n3435) O2 O4 P5 rG3 (by decide) (by decide) (by decide) (Nat.le_of_ble_eq_true rfl) rfl) C 0 (own_wd hw 133 rfl) (own_wd hw 34 rfl) (by decide) (by decide)) (fun _ _ _ q => q.2) f3477 [(.int 37)] [] rfl own_pd31 rfl rfl rfl (Nat.le_of_ble_eq_true rfl) (by decide) (by decide) (by decide +kernel) ?_
  rintro T3489 h3490 v3491 L3492 S3493 ⟨⟨rfl, K3483, f3484, f3485, f3486, f3487, f3488⟩, -⟩
  have f3494 : Fld Z h3490 a3097 "java/lang/AbstractStringBuilder" "count" "I" (.int 7) := f3487
  show own_Go p e below _ T3489 (mkF m 71 #[.val (.ref x), .val (.ref a3097), .val (.ref a3144), .val (.int 3), .val (.int 2), .val (.int z3452.toInt8.toInt32), .val (.int z3452)] [(.ref a3097)])
  have SW3495 := rb3474 _ _ _ _ [a3097, a3385] [] S3493 ((Keep.refl _ _).trans K3483 (allS (Or.inl (List.mem_of_getElem? (i := 0) rfl)) (allS (Or.inl (List.mem_of_getElem? (i := 1) rfl)) all0))) (allS (List.mem_of_getElem? (i := 2) rfl) (allS (List.mem_of_getElem? (i := 0) rfl) all0)) all0
  refine own_ldcWE CW SW3495 (own_wd hw 152 rfl) (List.mem_of_getElem? (i := 0) rfl) (z := (16 : Int32)) (vs := own_lv1) ⟨by decide, by decide⟩ (by decide) rfl (by decide +kernel) 64 (by decide) (by decide) (by decide) (by decide) ?_
  intro T3496 h3497 a3498 b3499 k3500 SW3501 E3502 x3503 f3504 f3505 f3506 ne3507 x3508
  refine own_lift CW SW3501 ?_
  intro vm3509 C S3510 rb3511
  refine own_seg C S3510 [(73, .iload 6, 2), (75, .iconst 4, 1), (76, .ishr, 1)] (by decide +kernel) 77 #[.val (.ref x), .val (.ref a3097), .val (.ref a3144), .val (.int 3), .val (.int 2), .val (.int z3452.toInt8.toInt32), .val (.int z3452)] [(.int (z3452 >>> ((4 : Int32) &&& 31))), (.ref a3498), (.ref a3097)] rfl ?_
  have f3512 := ((f3476.keep K3483 (allS g3117 (allS g3433 all0))).ext E3502)
  have f3513 : n0 ≤ h3497.size := (Nat.le_trans (Nat.le_trans f3482 K3483.1) E3502.1)
  refine own_callV C S3510 (own_wd hw 153 rfl) (own_wd hw 154 rfl) (own_wd hw 156 rfl) (own_wd hw 156 rfl) rfl (own_wd hw 155 rfl) (by decide) (own_Met.pay (own_sch l Z a0 hw G1 G3 a3498 _ _ _ _ (z3452 >>> ((4 : Int32) &&& 31)) (own_hx (z3452 >>> ((4 : Int32) &&& 31))) (own_hx (z3452 >>> ((4 : Int32) &&& 31))) h3497 n0 f3513 f3512 x3503 f3505 f3504 f3506 O2 O4 P5 rG3 (own_j16 (own_d4 hb3453).1) (own_hxV _) (own_hcc _) (own_c16 (own_hxB _))) C 1 (own_wd hw 157 rfl) (own_wd hw 4 rfl) (by decide) (by decide)) (fun _ _ _ q => q.2) x3503 [(.int (z3452 >>> ((4 : Int32) &&& 31)))] [(.ref a3097)] rfl own_pd32 rfl rfl rfl (Nat.le_of_ble_eq_true rfl) (by decide) (by decide) (by decide +kernel) ?_
  rintro T3515 h3516 v3517 L3518 S3519 ⟨⟨rfl, e3514⟩, -⟩
  rw [e3514] at S3519; clear e3514
  show own_Go p e below _ T3515 (mkF m 80 #[.val (.ref x), .val (.ref a3097), .val (.ref a3144), .val (.int 3), .val (.int 2), .val (.int z3452.toInt8.toInt32), .val (.int z3452)] [(.int (own_hx (z3452 >>> ((4 : Int32) &&& 31)))), (.ref a3097)])
  obtain ⟨y3520, hy3520⟩ : ∃ y, y = (own_hx (z3452 >>> ((4 : Int32) &&& 31))) := ⟨_, rfl⟩
  rw [← hy3520]
  have hb3521 : ¬ y3520 < 0 ∧ ¬ (255 : Int32) < y3520 := by rw [hy3520]; exact own_hxB _
  have f3522 := (Exa.ext E3502 f3484)
  have f3523 := (Fld.ext E3502 f3485)
  have f3524 := (Fld.ext E3502 f3486)
  have f3525 := (Fld.ext E3502 f3494)
  have f3526 := (f3488.ext E3502)
  refine own_callV C S3519 (own_wd hw 129 rfl) (own_wd hw 130 rfl) (own_wd hw 132 rfl) (own_wd hw 132 rfl) rfl (own_wd hw 131 rfl) (by decide) (own_Met.pay (own_sbC l Z a0 hw G1 G3 a3097 _ _ _ _ _ y3520 ([(.int 37), (.int y3233.toInt8.toInt32), (.int y3281.toInt8.toInt32), (.int 37), (.int y3378.toInt8.toInt32), (.int y3426.toInt8.toInt32), (.int 37), (.int y3520.toInt8.toInt32), (.int 0), (.int 0)]) h3497 n0 f3513 g3117 g3433 f3512 f3522 f3523 f3524 f3525 f3526 (Ne.symm n3435) O2 O4 P5 rG3 hb3521.2 (by decide) (by decide) (Nat.le_of_ble_eq_true rfl) rfl) C 0 (own_wd hw 133 rfl) (own_wd hw 34 rfl) (by decide) (by decide)) (fun _ _ _ q => q.2) f3522 [(.int y3520)] [] rfl own_pd31 rfl rfl rfl (Nat.le_of_ble_eq_true rfl) (by decide) (by decide) (by decide +kernel) ?_
  rintro T3533 h3534 v3535 L3536 S3537 ⟨⟨rfl, K3527, f3528, f3529, f3530, f3531, f3532⟩, -⟩
  have f3538 : Fld Z h3534 a3097 "java/lang/AbstractStringBuilder" "count" "I" (.int 8) := f3531
  show own_Go p e below _ T3533 (mkF m 83 #[.val (.ref x), .val (.ref a3097), .val (.ref a3144), .val (.int 3), .val (.int 2), .val (.int z3452.toInt8.toInt32), .val (.int z3452)] [(.ref a3097)])
  have SW3539 := rb3511 _ _ _ _ [a3097, a3385] [] S3537 ((Keep.refl _ _).trans K3527 (allS (Or.inl (List.mem_of_getElem? (i := 0) rfl)) (allS (Or.inl (List.mem_of_getElem? (i := 1) rfl)) all0))) (allS (List.mem_of_getElem? (i := 2) rfl) (allS (List.mem_of_getElem? (i := 0) rfl) all0)) all0
  refine own_ldcWE CW SW3539 (own_wd hw 152 rfl) (List.mem_of_getElem? (i := 0) rfl) (z := (16 : Int32)) (vs := own_lv1) ⟨by decide, by decide⟩ (by decide) rfl (by decide +kernel) 64 (by decide) (by decide) (by decide) (by decide) ?_
  intro T3540 h3541 a3542 b3543 k3544 SW3545 E3546 x3547 f3548 f3549 f3550 ne3551 x3552
  refine own_lift CW SW3545 ?_
  intro vm3553 C S3554 rb3555
  refine own_seg C S3554 [(85, .iload 6, 2), (87, .bipush 15, 2), (89, .iand, 1)] (by decide +kernel) 90 #[.val (.ref x), .val (.ref a3097), .val (.ref a3144), .val (.int 3), .val (.int 2), .val (.int z3452.toInt8.toInt32), .val (.int z3452)] [(.int (z3452 &&& (15 : Int32))), (.ref a3542), (.ref a3097)] rfl ?_
  have f3556 := ((f3512.keep K3527 (allS g3117 (allS g3433 all0))).ext E3546)
  have f3557 : n0 ≤ h3541.size := (Nat.le_trans (Nat.le_trans f3513 K3527.1) E3546.1)
  refine own_callV C S3554 (own_wd hw 153 rfl) (own_wd hw 154 rfl) (own_wd hw 156 rfl) (own_wd hw 156 rfl) rfl (own_wd hw 155 rfl) (by decide) (own_Met.pay (own_sch l Z a0 hw G1 G3 a3542 _ _ _ _ (z3452 &&& (15 : Int32)) (own_hx (z3452 &&& (15 : Int32))) (own_hx (z3452 &&& (15 : Int32))) h3541 n0 f3557 f3556 x3547 f3549 f3548 f3550 O2 O4 P5 rG3 (own_j16 (own_d4 hb3453).2) (own_hxV _) (own_hcc _) (own_c16 (own_hxB _))) C 1 (own_wd hw 157 rfl) (own_wd hw 4 rfl) (by decide) (by decide)) (fun _ _ _ q => q.2) x3547 [(.int (z3452 &&& (15 : Int32)))] [(.ref a3097)] rfl own_pd32 rfl rfl rfl (Nat.le_of_ble_eq_true rfl) (by decide) (by decide) (by decide +kernel) ?_
  rintro T3559 h3560 v3561 L3562 S3563 ⟨⟨rfl, e3558⟩, -⟩
  rw [e3558] at S3563; clear e3558
  show own_Go p e below _ T3559 (mkF m 93 #[.val (.ref x), .val (.ref a3097), .val (.ref a3144), .val (.int 3), .val (.int 2), .val (.int z3452.toInt8.toInt32), .val (.int z3452)] [(.int (own_hx (z3452 &&& (15 : Int32)))), (.ref a3097)])
  obtain ⟨y3564, hy3564⟩ : ∃ y, y = (own_hx (z3452 &&& (15 : Int32))) := ⟨_, rfl⟩
  rw [← hy3564]
  have hb3565 : ¬ y3564 < 0 ∧ ¬ (255 : Int32) < y3564 := by rw [hy3564]; exact own_hxB _
  have f3566 := (Exa.ext E3546 f3528)
  have f3567 := (Fld.ext E3546 f3529)
  have f3568 := (Fld.ext E3546 f3530)
  have f3569 := (Fld.ext E3546 f3538)
  have f3570 := (f3532.ext E3546)
  refine own_callV C S3563 (own_wd hw 129 rfl) (own_wd hw 130 rfl) (own_wd hw 132 rfl) (own_wd hw 132 rfl) rfl (own_wd hw 131 rfl) (by decide) (own_Met.pay (own_sbC l Z a0 hw G1 G3 a3097 _ _ _ _ _ y3564 ([(.int 37), (.int y3233.toInt8.toInt32), (.int y3281.toInt8.toInt32), (.int 37), (.int y3378.toInt8.toInt32), (.int y3426.toInt8.toInt32), (.int 37), (.int y3520.toInt8.toInt32), (.int y3564.toInt8.toInt32), (.int 0)]) h3541 n0 f3557 g3117 g3433 f3556 f3566 f3567 f3568 f3569 f3570 (Ne.symm n3435) O2 O4 P5 rG3 hb3565.2 (by decide) (by decide) (Nat.le_of_ble_eq_true rfl) rfl) C 0 (own_wd hw 133 rfl) (own_wd hw 34 rfl) (by decide) (by decide)) (fun _ _ _ q => q.2) f3566 [(.int y3564)] [] rfl own_pd31 rfl rfl rfl (Nat.le_of_ble_eq_true rfl) (by decide) (by decide) (by decide +kernel) ?_
  rintro T3577 h3578 v3579 L3580 S3581 ⟨⟨rfl, K3571, f3572, f3573, f3574, f3575, f3576⟩, -⟩
  have f3582 : Fld Z h3578 a3097 "java/lang/AbstractStringBuilder" "count" "I" (.int 9) := f3575
  show own_Go p e below _ T3577 (mkF m 96 #[.val (.ref x), .val (.ref a3097), .val (.ref a3144), .val (.int 3), .val (.int 2), .val (.int z3452.toInt8.toInt32), .val (.int z3452)] [(.ref a3097)])
  refine own_seg C S3581 [(96, .pop, 1)] (by decide +kernel) 97 #[.val (.ref x), .val (.ref a3097), .val (.ref a3144), .val (.int 3), .val (.int 2), .val (.int z3452.toInt8.toInt32), .val (.int z3452)] [] rfl ?_
  refine own_seg C S3581 [(97, .iinc 4 1, 3), (100, .goto (-74), 3)] (by decide +kernel) 26 #[.val (.ref x), .val (.ref a3097), .val (.ref a3144), .val (.int 3), .val (.int ((2 : Int32) + (1 : Int32))), .val (.int z3452.toInt8.toInt32), .val (.int z3452)] [] rfl ?_
  show own_Go p e below _ T3577 (mkF m 26 #[.val (.ref x), .val (.ref a3097), .val (.ref a3144), .val (.int 3), .val (.int 3), .val (.int z3452.toInt8.toInt32), .val (.int z3452)] [])
  refine own_seg C S3581 [(26, .iload 4, 2), (28, .iload_n 3, 1)] (by decide +kernel) 29 #[.val (.ref x), .val (.ref a3097), .val (.ref a3144), .val (.int 3), .val (.int 3), .val (.int z3452.toInt8.toInt32), .val (.int z3452)] [(.int 3), (.int 3)] rfl ?_
  refine own_icmp C S3581 (q := .ge) (o := 74) (by decide +kernel) 103 (by decide) (by decide) (fun (q3583 : ¬ (3 : Int32) < (3 : Int32)) => ?_) (fun (hq : (3 : Int32) < (3 : Int32)) => False.elim (by revert hq; decide))
  refine own_seg C S3581 [(103, .aload_n 1, 1)] (by decide +kernel) 104 #[.val (.ref x), .val (.ref a3097), .val (.ref a3144), .val (.int 3), .val (.int 3), .val (.int z3452.toInt8.toInt32), .val (.int z3452)] [(.ref a3097)] rfl ?_
  have f3584 := (f3556.keep K3571 (allS g3117 (allS g3433 all0)))
  have f3585 : n0 ≤ h3578.size := (Nat.le_trans f3557 K3571.1)
  refine own_callV C S3581 (own_wd hw 190 rfl) (own_wd hw 191 rfl) (own_wd hw 193 rfl) (own_wd hw 193 rfl) rfl (own_wd hw 192 rfl) (by decide) (own_Met.pay (own_ts l Z a0 hw G1 G3 a3097 _ _ _ _ _ ([(.int 37), (.int y3233.toInt8.toInt32), (.int y3281.toInt8.toInt32), (.int 37), (.int y3378.toInt8.toInt32), (.int y3426.toInt8.toInt32), (.int 37), (.int y3520.toInt8.toInt32), (.int y3564.toInt8.toInt32)]) h3578 n0 f3585 f3584 f3572 f3573 f3574 f3582 f3576 O2 O4 P5 rG3 (by decide) (by decide) (by decide) (by decide) rfl) C 0 (own_wd hw 194 rfl) (own_wd hw 34 rfl) (by decide) (by decide)) (fun _ _ _ q => q.2) f3572 [] [] rfl own_pd30 rfl rfl rfl (Nat.le_of_ble_eq_true rfl) (by decide) (by decide) (by decide +kernel) ?_
  rintro T3596 h3597 v3598 L3599 S3600 ⟨⟨a3586, a3587, k3588, rfl, g3589, g3590, K3591, f3592, f3593, f3594, f3595⟩, -⟩
  show own_Go p e below _ T3596 (mkF m 107 #[.val (.ref x), .val (.ref a3097), .val (.ref a3144), .val (.int 3), .val (.int 3), .val (.int z3452.toInt8.toInt32), .val (.int z3452)] [(.ref a3586)])
  have o3602 : h3541.size ≤ h3578.size := (Nat.le_trans (Nat.le_refl _) K3571.1)
  have o3601 : h3541.size ≤ a3587 := Nat.le_trans o3602 g3590
  have o3603 : h3541.size ≤ a3586 := Nat.le_trans o3602 g3589
  have SW3604 := rb3555 _ _ _ _ [a3097, a3385] [a3586, a3587] S3600 (((Keep.refl _ _).trans K3571 (allS (Or.inl (List.mem_of_getElem? (i := 0) rfl)) (allS (Or.inl (List.mem_of_getElem? (i := 1) rfl)) all0))).trans K3591 all0) (allS (List.mem_of_getElem? (i := 2) rfl) (allS (List.mem_of_getElem? (i := 0) rfl) all0)) (allS ⟨o3603, f3592.lt⟩ (allS ⟨o3601, f3595.lt⟩ all0))
  refine own_retAW CW SW3604 rfl rfl (by decide +kernel) (by decide) (by decide) ?_
  subst hy3564
  subst hy3520
  subst hz3452
  subst hy3426
  subst hy3378
  subst hz3310
  subst hy3281
  subst hy3233
  subst hz3156
  have o3606 : h0.size ≤ h3578.size := (Nat.le_trans (Nat.le_trans (Nat.le_trans (Nat.le_trans (Nat.le_trans (Nat.le_trans (Nat.le_trans (Nat.le_trans (Nat.le_trans (Nat.le_trans (Nat.le_trans (Nat.le_trans (Nat.le_trans (Nat.le_trans (Nat.le_trans (Nat.le_trans (Nat.le_trans (Nat.le_trans (Nat.le_trans o3171 K3147.1) K3162.1) K3196.1) E3215.1) K3243.1) E3263.1) K3291.1) K3316.1) K3341.1) E3360.1) K3388.1) E3408.1) K3436.1) K3458.1) K3483.1) E3502.1) K3527.1) E3546.1) K3571.1)
  have o3605 : h0.size ≤ a3586 := Nat.le_trans o3606 g3589
  have o3607 : h0.size ≤ a3587 := Nat.le_trans o3606 g3590
  have o3609 : h0.size ≤ h3210.size := (Nat.le_trans (Nat.le_trans (Nat.le_trans (Nat.le_trans o3171 K3147.1) K3162.1) K3196.1) E3215.1)
  have o3608 : h0.size ≤ a3240 := Nat.le_trans o3609 g3242
  have o3611 : h0.size ≤ h3355.size := (Nat.le_trans (Nat.le_trans (Nat.le_trans (Nat.le_trans (Nat.le_trans (Nat.le_trans o3609 K3243.1) E3263.1) K3291.1) K3316.1) K3341.1) E3360.1)
  have o3610 : h0.size ≤ a3385 := Nat.le_trans o3611 g3387
  exact ⟨a3586, a3587, k3588, rfl, o3605, o3607, (((((((((((((((((((((((Keep.refl _ _).ext E3099).trans K3121 (allS (Or.inr o3169) all0)).trans K3147 all0).trans K3162 all0).trans K3196 (allS (Or.inr o3169) (allS (Or.inr o3172) all0))).ext E3215).trans K3243 (allS (Or.inr o3169) all0)).ext E3263).trans K3291 (allS (Or.inr o3169) (allS (Or.inr o3608) all0))).trans K3316 all0).trans K3341 (allS (Or.inr o3169) (allS (Or.inr o3608) all0))).ext E3360).trans K3388 (allS (Or.inr o3169) all0)).ext E3408).trans K3436 (allS (Or.inr o3169) (allS (Or.inr o3610) all0))).trans K3458 all0).trans K3483 (allS (Or.inr o3169) (allS (Or.inr o3610) all0))).ext E3502).trans K3527 (allS (Or.inr o3169) (allS (Or.inr o3610) all0))).ext E3546).trans K3571 (allS (Or.inr o3169) (allS (Or.inr o3610) all0))).trans K3591 all0), f3592, f3593, f3594, f3595⟩
theorem own_pd33 : parseMethodDescriptor "(C)Ljava/lang/String;" = some ⟨[.char], (some (.object "java/lang/String"))⟩ := by decide +kernel
theorem own_pd34 : parseMethodDescriptor "(Ljava/lang/String;)Ljava/lang/String;" = some ⟨[(.object "java/lang/String")], (some (.object "java/lang/String"))⟩ := by decide +kernel
theorem own_pd35 : parseMethodDescriptor "(Ljava/lang/Object;)Z" = some ⟨[(.object "java/lang/Object")], (some .boolean)⟩ := by decide +kernel
theorem own_hws : ∀ d ∈ StrChars.Road.words, d ∈ tables_1 := by decide +kernel
theorem own_pd36 : parseMethodDescriptor "([C)V" = some ⟨[(.array .char)], none⟩ := by decide +kernel
theorem own_law (l : Launch) (Z : State) (a0 : Array Value) (hw : ∀ d ∈ tables_1, d.before a0 Z = true) (hEL : EW Z a0 own_EL) (wS : ∀ a ∈ Bundle.stringAtoms, a.before a0 Z = true) (G1 : Int32) (G3 : Value) (U8 : Addr) (i0 : Int32) (i1 : Int32) (h0 : Heap) (n0 : Nat) (z0 : n0 ≤ h0.size) (X00 : Old Z n0 h0) (O2 : Sta Z Z.heap "java/lang/String" "COMPACT_STRINGS" "Z" (.int G1)) (O4 : Sta Z Z.heap "jdk/internal/util/Preconditions" "SIOOBE_FORMATTER" "Ljava/util/function/BiFunction;" G3) (P5 : ¬ G1 = (0 : Int32)) (rG3 : G3.isRef = true) (OU1 : Sta Z Z.heap "java/nio/charset/StandardCharsets" "UTF_8" "Ljava/nio/charset/Charset;" (.ref U8)) (OU2 : Sta Z Z.heap "sun/nio/cs/UTF_8" "INSTANCE" "Lsun/nio/cs/UTF_8;" (.ref U8)) (OA : Sta Z Z.heap "java/lang/StringUTF16" "$assertionsDisabled" "Z" (.int 1)) (OH : Sta Z Z.heap "java/lang/StringUTF16" "HI_BYTE_SHIFT" "I" (.int 0)) (OL : Sta Z Z.heap "java/lang/StringUTF16" "LO_BYTE_SHIFT" "I" (.int 8)) :
    own_MetW l Z own_EL x code maxLocals ret room_1 n0 #[(.int i0), (.int i1)] h0 [] (fun v h => v = some (.int 1)) := by
  refine own_metW hEL wS (by decide +kernel) #[.val (.int i0), .val (.int i1), .unset, .unset, .unset, .unset, .unset, .unset] (fun m => by first | (simp [entryFrame, mkF, argsToLocals, Value.category, maxLocals]; done) | rfl) ?_
  intro p e s m below meth c T0 CW SW0
  refine own_lift CW SW0 ?_
  intro vm3612 C S3613 rb3614
  have J30 : ∀ (T3615 : State) (cv : Int32), own_S p l e room_1 (s.setVm vm3612) m #[(.int i0), (.int i1)] below meth c n0 T3615 h0 0 0 → ¬ cv < 0 ∧ ¬ (65535 : Int32) < cv → cv < (55296 : Int32) ∨ ¬ cv < (57344 : Int32) → own_Go p e below (own_EnW s n0 Z own_EL (fun v h => v = some (.int 1)) room_1.cells room_1.slots) T3615 (mkF m 30 #[.val (.int i0), .val (.int i1), .val (.int cv), .unset, .unset, .unset, .unset, .unset] []) := by
    intro T3615 cv S3616 hc hs
    have hi0 : 0 ≤ cv.toInt := (own_iv hc).1
    have hi1 : cv.toInt ≤ 65535 := (own_iv hc).2
    refine own_seg C S3616 [(30, .iload_n 2, 1), (31, .i2c, 1)] (by decide +kernel) 32 #[.val (.int i0), .val (.int i1), .val (.int cv), .unset, .unset, .unset, .unset, .unset] [(.int cv.toUInt32.toUInt16.toUInt32.toInt32)] rfl ?_
    rw [show cv.toUInt32.toUInt16.toUInt32.toInt32 = cv from own_c65 hi0 hi1]
    rcases own_c4 cv with q | q | q | q
    · by_cases hal : own_al cv
      · have kr : ¬ cv < 0 ∧ ¬ (255 : Int32) < cv := ⟨hc.1, ((own_b7 hc.1).1 q).2⟩
        refine own_callS C S3616 (own_wd hw 2 rfl) (own_wd hw 3 rfl) (own_wd hw 4 rfl) (own_wd hw 5 rfl) (by decide) (own_Met.pay (own_voL l Z a0 hw G1 G3 U8 cv h0 n0 z0 X00 O2 O4 P5 rG3 OU1 OU2 OA OH OL kr.2) C 0 (own_wd hw 5 rfl) (own_wd hw 4 rfl) (by decide) (by decide)) (fun _ _ _ q => q.2) [(.int cv)] [] rfl own_pd33 rfl rfl rfl (Nat.le_of_ble_eq_true rfl) (by decide) (by decide) (by decide +kernel) ?_
        rintro T3628 h3629 v3630 L3631 S3632 ⟨⟨a3617, a3618, k3619, rfl, g3620, g3621, K3622, f3623, f3624, f3625, f3626, f3627⟩, -⟩
        show own_Go p e below _ T3628 (mkF m 35 #[.val (.int i0), .val (.int i1), .val (.int cv), .unset, .unset, .unset, .unset, .unset] [(.ref a3617)])
        have f3633 := (X00.keep K3622 all0)
        have f3634 : n0 ≤ h3629.size := (Nat.le_trans z0 K3622.1)
        have o3650 : h0.size ≤ a3618 := Nat.le_trans (Nat.le_refl _) g3621
        have o3651 : h0.size ≤ a3617 := Nat.le_trans (Nat.le_refl _) g3620
        have SW3652 := rb3614 _ _ _ _ [] [a3617, a3618] S3632 ((Keep.refl _ _).trans K3622 all0) all0 (allS ⟨o3651, f3623.lt⟩ (allS ⟨o3650, f3626.lt⟩ all0))
        refine own_callSW CW SW3652 (own_wd hw 28 rfl) (own_wd hw 29 rfl) (own_wd hw 30 rfl) (own_wd hw 31 rfl) (by decide) (own_enc1a l Z a0 hw hEL wS G1 G3 U8 a3617 _ _ cv h3629 n0 f3634 f3633 f3623 f3624 f3625 f3626 f3627 O2 O4 P5 rG3 OU1 OU2 OA OH OL (((own_b7 hc.1).1 q).1) kr hal) all0 0 (by decide) (by decide) [(.ref a3617)] [] rfl own_pd34 rfl rfl rfl (Nat.le_of_ble_eq_true rfl) (by decide) (by decide) (by decide +kernel) ?_
        rintro T3653 h3654 v3655 SW3656 hg3657 ⟨a3635, a3636, k3637, rfl, g3638, g3639, K3640, f3641, f3642, f3643, f3644⟩
        show own_Go p e below _ T3653 (mkF m 38 #[.val (.int i0), .val (.int i1), .val (.int cv), .unset, .unset, .unset, .unset, .unset] [(.ref a3635)])
        refine own_lift CW SW3656 ?_
        intro vm3658 C S3659 rb3660
        refine own_seg C S3659 [(38, .astore_n 3, 1), (39, .iload_n 2, 1), (40, .sipush 128, 3)] (by decide +kernel) 43 #[.val (.int i0), .val (.int i1), .val (.int cv), .val (.ref a3635), .unset, .unset, .unset, .unset] [(.int 128), (.int cv)] rfl ?_
        refine own_icmp C S3659 (q := .ge) (o := 59) (by decide +kernel) 102 (by decide) (by decide) (fun (hq : ¬ cv < (128 : Int32)) => False.elim (hq q)) (fun (q3661 : cv < (128 : Int32)) => ?_)
        refine own_seg C S3659 [(46, .iload_n 2, 1)] (by decide +kernel) 47 #[.val (.int i0), .val (.int i1), .val (.int cv), .val (.ref a3635), .unset, .unset, .unset, .unset] [(.int cv)] rfl ?_
        have f3662 : n0 ≤ h3654.size := (Nat.le_trans f3634 K3640.1)
        refine own_callS C S3659 (own_wd hw 225 rfl) (own_wd hw 226 rfl) (own_wd hw 227 rfl) (own_wd hw 228 rfl) (by decide) (own_Met.pay (own_alw l Z a0 hw cv h3654 n0 f3662) C 0 (own_wd hw 228 rfl) (own_wd hw 227 rfl) (by decide) (by decide)) (fun _ _ _ q => q.2) [(.int cv)] [] rfl own_pd1 rfl rfl rfl (Nat.le_of_ble_eq_true rfl) (by decide) (by decide) (by decide +kernel) ?_
        rintro T3666 h3667 v3668 L3669 S3670 ⟨⟨y3663, rfl, e3664, p3665⟩, -⟩
        rw [e3664] at S3670; clear e3664
        show own_Go p e below _ T3666 (mkF m 50 #[.val (.int i0), .val (.int i1), .val (.int cv), .val (.ref a3635), .unset, .unset, .unset, .unset] [(.int y3663)])
        have hr3671 : y3663 = 1 := own_PC.one p3665 hal
        subst hr3671
        show own_Go p e below _ T3666 (mkF m 50 #[.val (.int i0), .val (.int i1), .val (.int cv), .val (.ref a3635), .unset, .unset, .unset, .unset] [(.int 1)])
        refine own_if C S3670 (q := .eq) (o := 13) (by decide +kernel) 63 (by decide) (by decide) (fun (hq : (1 : Int32) = (0 : Int32)) => False.elim (absurd hq (by decide))) (fun (q3672 : ¬ (1 : Int32) = (0 : Int32)) => ?_)
        refine own_seg C S3670 [(53, .iload_n 2, 1), (54, .i2c, 1)] (by decide +kernel) 55 #[.val (.int i0), .val (.int i1), .val (.int cv), .val (.ref a3635), .unset, .unset, .unset, .unset] [(.int cv.toUInt32.toUInt16.toUInt32.toInt32)] rfl ?_
        rw [show cv.toUInt32.toUInt16.toUInt32.toInt32 = cv from own_c65 hi0 hi1]
        have f3673 := (f3633.keep K3640 all0)
        refine own_callS C S3670 (own_wd hw 2 rfl) (own_wd hw 3 rfl) (own_wd hw 4 rfl) (own_wd hw 5 rfl) (by decide) (own_Met.pay (own_voL l Z a0 hw G1 G3 U8 cv h3654 n0 f3662 f3673 O2 O4 P5 rG3 OU1 OU2 OA OH OL kr.2) C 0 (own_wd hw 5 rfl) (own_wd hw 4 rfl) (by decide) (by decide)) (fun _ _ _ q => q.2) [(.int cv)] [] rfl own_pd33 rfl rfl rfl (Nat.le_of_ble_eq_true rfl) (by decide) (by decide) (by decide +kernel) ?_
        rintro T3685 h3686 v3687 L3688 S3689 ⟨⟨a3674, a3675, k3676, rfl, g3677, g3678, K3679, f3680, f3681, f3682, f3683, f3684⟩, -⟩
        show own_Go p e below _ T3685 (mkF m 58 #[.val (.int i0), .val (.int i1), .val (.int cv), .val (.ref a3635), .unset, .unset, .unset, .unset] [(.ref a3674)])
        refine own_seg C S3689 [(58, .astore 4, 2), (60, .goto 264, 3)] (by decide +kernel) 324 #[.val (.int i0), .val (.int i1), .val (.int cv), .val (.ref a3635), .val (.ref a3674), .unset, .unset, .unset] [] rfl ?_
        refine own_seg C S3689 [(324, .aload_n 3, 1), (325, .aload 4, 2)] (by decide +kernel) 327 #[.val (.int i0), .val (.int i1), .val (.int cv), .val (.ref a3635), .val (.ref a3674), .unset, .unset, .unset] [(.ref a3674), (.ref a3635)] rfl ?_
        have f3690 := (f3673.keep K3679 all0)
        have f3691 := (f3641.keep K3679)
        have f3692 := (f3643.keep K3679 nin0)
        have f3693 := (f3642.keep K3679 nin0)
        have f3694 := (f3644.keep K3679 nin0)
        have f3695 : n0 ≤ h3686.size := (Nat.le_trans f3662 K3679.1)
        refine own_callV C S3689 (own_wd hw 250 rfl) (own_wd hw 251 rfl) (own_wd hw 253 rfl) (own_wd hw 253 rfl) rfl (own_wd hw 252 rfl) (by decide) (own_Met.pay (own_seq l Z a0 hw G1 G3 a3635 a3674 _ _ _ _ ([cv.toInt8.toInt32] : List Int32) h3686 n0 f3695 f3690 f3691 f3692 f3693 f3680 f3681 f3682 f3694 f3683 O2 O4 P5 rG3 (Nat.le_of_ble_eq_true rfl)) C 0 (own_wd hw 254 rfl) (own_wd hw 4 rfl) (by decide) (by decide)) (fun _ _ _ q => q.2) f3691 [(.ref a3674)] [] rfl own_pd35 rfl rfl rfl (Nat.le_of_ble_eq_true rfl) (by decide) (by decide) (by decide +kernel) ?_
        rintro T3697 h3698 v3699 L3700 S3701 ⟨⟨rfl, e3696⟩, -⟩
        rw [e3696] at S3701; clear e3696
        show own_Go p e below _ T3697 (mkF m 330 #[.val (.int i0), .val (.int i1), .val (.int cv), .val (.ref a3635), .val (.ref a3674), .unset, .unset, .unset] [(.int 1)])
        refine own_if C S3701 (q := .eq) (o := 18) (by decide +kernel) 348 (by decide) (by decide) (fun (hq : (1 : Int32) = (0 : Int32)) => False.elim (absurd hq (by decide))) (fun (q3702 : ¬ (1 : Int32) = (0 : Int32)) => ?_)
        have o3703 : h3654.size ≤ a3675 := Nat.le_trans (Nat.le_refl _) g3678
        have o3704 : h3654.size ≤ a3674 := Nat.le_trans (Nat.le_refl _) g3677
        have SW3705 := rb3660 _ _ _ _ [] [a3674, a3675] S3701 ((Keep.refl _ _).trans K3679 all0) all0 (allS ⟨o3704, f3680.lt⟩ (allS ⟨o3703, f3683.lt⟩ all0))
        refine own_ldcWE CW SW3705 (own_wd hw 258 rfl) (List.mem_of_getElem? (i := 2) rfl) (z := (0 : Int32)) (vs := []) ⟨by decide, by decide⟩ (by decide) rfl (by decide +kernel) 0 (by decide) (by decide) (by decide) (by decide) ?_
        intro T3706 h3707 a3708 b3709 k3710 SW3711 E3712 x3713 f3714 f3715 f3716 ne3717 x3718
        have f3719 := (f3690.ext E3712)
        have f3720 : n0 ≤ h3707.size := (Nat.le_trans f3695 E3712.1)
        refine own_callSW CW SW3711 (own_wd hw 28 rfl) (own_wd hw 29 rfl) (own_wd hw 30 rfl) (own_wd hw 31 rfl) (by decide) (own_enc0 l Z a0 hw hEL wS G1 G3 U8 a3708 _ _ h3707 n0 f3720 f3719 x3713 f3715 f3714 f3716 x3718 O2 O4 P5 rG3 OU1 OU2 OA OH OL) all0 0 (by decide) (by decide) [(.ref a3708)] [] rfl own_pd34 rfl rfl rfl (Nat.le_of_ble_eq_true rfl) (by decide) (by decide) (by decide +kernel) ?_
        rintro T3736 h3737 v3738 SW3739 hg3740 ⟨a3721, a3722, k3723, rfl, g3724, g3725, K3726, f3727, f3728, f3729, f3730⟩
        show own_Go p e below _ T3736 (mkF m 338 #[.val (.int i0), .val (.int i1), .val (.int cv), .val (.ref a3635), .val (.ref a3674), .unset, .unset, .unset] [(.ref a3721)])
        have f3741 : n0 ≤ h3737.size := (Nat.le_trans f3720 K3726.1)
        refine own_lift CW SW3739 ?_
        intro vm3748 C S3749 rb3750
        refine own_callV C S3749 (own_wd hw 261 rfl) (own_wd hw 262 rfl) (own_wd hw 264 rfl) (own_wd hw 264 rfl) rfl (own_wd hw 263 rfl) (by decide) (own_Met.pay (own_emp l Z a0 hw a3721 _ _ _ h3737 n0 f3741 f3727 f3729 f3730) C 0 (own_wd hw 265 rfl) (own_wd hw 4 rfl) (by decide) (by decide)) (fun _ _ _ q => q.2) f3727 [] [] rfl own_pd4 rfl rfl rfl (Nat.le_of_ble_eq_true rfl) (by decide) (by decide) (by decide +kernel) ?_
        rintro T3743 h3744 v3745 L3746 S3747 ⟨⟨rfl, e3742⟩, -⟩
        rw [e3742] at S3747; clear e3742
        show own_Go p e below _ T3743 (mkF m 341 #[.val (.int i0), .val (.int i1), .val (.int cv), .val (.ref a3635), .val (.ref a3674), .unset, .unset, .unset] [(.int 1)])
        refine own_if C S3747 (q := .eq) (o := 7) (by decide +kernel) 348 (by decide) (by decide) (fun (hq : (1 : Int32) = (0 : Int32)) => False.elim (absurd hq (by decide))) (fun (q3751 : ¬ (1 : Int32) = (0 : Int32)) => ?_)
        refine own_seg C S3747 [(344, .iconst 1, 1), (345, .goto 4, 3)] (by decide +kernel) 349 #[.val (.int i0), .val (.int i1), .val (.int cv), .val (.ref a3635), .val (.ref a3674), .unset, .unset, .unset] [(.int 1)] rfl ?_
        have SW3752 := rb3750 _ _ _ _ [] [] S3747 (Keep.refl _ _) all0 all0
        refine own_retZW CW SW3752 (by decide +kernel) (by decide) (by decide) (by decide) ?_
        rfl
      · have kr : ¬ cv < 0 ∧ ¬ (255 : Int32) < cv := ⟨hc.1, ((own_b7 hc.1).1 q).2⟩
        obtain ⟨y3753, hy3753⟩ : ∃ y, y = (own_hx (cv >>> ((4 : Int32) &&& 31))) := ⟨_, rfl⟩
        have hb3754 : ¬ y3753 < 0 ∧ ¬ (255 : Int32) < y3753 := by rw [hy3753]; exact own_hxB _
        obtain ⟨y3755, hy3755⟩ : ∃ y, y = (own_hx (cv &&& (15 : Int32))) := ⟨_, rfl⟩
        have hb3756 : ¬ y3755 < 0 ∧ ¬ (255 : Int32) < y3755 := by rw [hy3755]; exact own_hxB _
        refine own_callS C S3616 (own_wd hw 2 rfl) (own_wd hw 3 rfl) (own_wd hw 4 rfl) (own_wd hw 5 rfl) (by decide) (own_Met.pay (own_voL l Z a0 hw G1 G3 U8 cv h0 n0 z0 X00 O2 O4 P5 rG3 OU1 OU2 OA OH OL kr.2) C 0 (own_wd hw 5 rfl) (own_wd hw 4 rfl) (by decide) (by decide)) (fun _ _ _ q => q.2) [(.int cv)] [] rfl own_pd33 rfl rfl rfl (Nat.le_of_ble_eq_true rfl) (by decide) (by decide) (by decide +kernel) ?_
        rintro T3768 h3769 v3770 L3771 S3772 ⟨⟨a3757, a3758, k3759, rfl, g3760, g3761, K3762, f3763, f3764, f3765, f3766, f3767⟩, -⟩
        show own_Go p e below _ T3768 (mkF m 35 #[.val (.int i0), .val (.int i1), .val (.int cv), .unset, .unset, .unset, .unset, .unset] [(.ref a3757)])
        have f3773 := (X00.keep K3762 all0)
        have f3774 : n0 ≤ h3769.size := (Nat.le_trans z0 K3762.1)
        have o3790 : h0.size ≤ a3758 := Nat.le_trans (Nat.le_refl _) g3761
        have o3791 : h0.size ≤ a3757 := Nat.le_trans (Nat.le_refl _) g3760
        have SW3792 := rb3614 _ _ _ _ [] [a3757, a3758] S3772 ((Keep.refl _ _).trans K3762 all0) all0 (allS ⟨o3791, f3763.lt⟩ (allS ⟨o3790, f3766.lt⟩ all0))
        refine own_callSW CW SW3792 (own_wd hw 28 rfl) (own_wd hw 29 rfl) (own_wd hw 30 rfl) (own_wd hw 31 rfl) (by decide) (own_enc1b l Z a0 hw hEL wS G1 G3 U8 a3757 _ _ cv h3769 n0 f3774 f3773 f3763 f3764 f3765 f3766 f3767 O2 O4 P5 rG3 OU1 OU2 OA OH OL (((own_b7 hc.1).1 q).1) kr hal) all0 0 (by decide) (by decide) [(.ref a3757)] [] rfl own_pd34 rfl rfl rfl (Nat.le_of_ble_eq_true rfl) (by decide) (by decide) (by decide +kernel) ?_
        rintro T3793 h3794 v3795 SW3796 hg3797 ⟨a3775, a3776, k3777, rfl, g3778, g3779, K3780, f3781, f3782, f3783, f3784⟩
        show own_Go p e below _ T3793 (mkF m 38 #[.val (.int i0), .val (.int i1), .val (.int cv), .unset, .unset, .unset, .unset, .unset] [(.ref a3775)])
        rw [← hy3753, ← hy3755] at f3784
        refine own_lift CW SW3796 ?_
        intro vm3798 C S3799 rb3800
        refine own_seg C S3799 [(38, .astore_n 3, 1), (39, .iload_n 2, 1), (40, .sipush 128, 3)] (by decide +kernel) 43 #[.val (.int i0), .val (.int i1), .val (.int cv), .val (.ref a3775), .unset, .unset, .unset, .unset] [(.int 128), (.int cv)] rfl ?_
        refine own_icmp C S3799 (q := .ge) (o := 59) (by decide +kernel) 102 (by decide) (by decide) (fun (hq : ¬ cv < (128 : Int32)) => False.elim (hq q)) (fun (q3801 : cv < (128 : Int32)) => ?_)
        refine own_seg C S3799 [(46, .iload_n 2, 1)] (by decide +kernel) 47 #[.val (.int i0), .val (.int i1), .val (.int cv), .val (.ref a3775), .unset, .unset, .unset, .unset] [(.int cv)] rfl ?_
        have f3802 : n0 ≤ h3794.size := (Nat.le_trans f3774 K3780.1)
        refine own_callS C S3799 (own_wd hw 225 rfl) (own_wd hw 226 rfl) (own_wd hw 227 rfl) (own_wd hw 228 rfl) (by decide) (own_Met.pay (own_alw l Z a0 hw cv h3794 n0 f3802) C 0 (own_wd hw 228 rfl) (own_wd hw 227 rfl) (by decide) (by decide)) (fun _ _ _ q => q.2) [(.int cv)] [] rfl own_pd1 rfl rfl rfl (Nat.le_of_ble_eq_true rfl) (by decide) (by decide) (by decide +kernel) ?_
        rintro T3806 h3807 v3808 L3809 S3810 ⟨⟨y3803, rfl, e3804, p3805⟩, -⟩
        rw [e3804] at S3810; clear e3804
        show own_Go p e below _ T3806 (mkF m 50 #[.val (.int i0), .val (.int i1), .val (.int cv), .val (.ref a3775), .unset, .unset, .unset, .unset] [(.int y3803)])
        have hr3811 : y3803 = 0 := own_PC.zero p3805 hal
        subst hr3811
        show own_Go p e below _ T3806 (mkF m 50 #[.val (.int i0), .val (.int i1), .val (.int cv), .val (.ref a3775), .unset, .unset, .unset, .unset] [(.int 0)])
        refine own_if C S3810 (q := .eq) (o := 13) (by decide +kernel) 63 (by decide) (by decide) (fun (q3812 : (0 : Int32) = (0 : Int32)) => ?_) (fun (hq : ¬ (0 : Int32) = (0 : Int32)) => False.elim (hq rfl))
        refine own_new C S3810 (own_wd hw 229 rfl) (own_wd hw 12 rfl) (own_wd hw 4 rfl) (by decide +kernel) (by decide) (by decide) ?_
        intro T3813 h3815 a3816 S3814 g3817 E3818 x3819 D3820
        have f3821 : Fld Z h3815 a3816 "java/lang/String" "value" "[B" .null := D3820 (ty := (.array .byte)) (Or.inr (own_wd hw 25 rfl)) own_fd0
        have f3822 : Fld Z h3815 a3816 "java/lang/String" "coder" "B" (.int 0) := D3820 (ty := .byte) (Or.inr (own_wd hw 27 rfl)) own_fd1
        refine own_seg C S3814 [(66, .dup, 1), (67, .iconst 3, 1)] (by decide +kernel) 68 #[.val (.int i0), .val (.int i1), .val (.int cv), .val (.ref a3775), .unset, .unset, .unset, .unset] [(.int 3), (.ref a3816), (.ref a3816)] rfl ?_
        refine own_newP C S3814 (aty := .char) (own_wd hw 230 rfl) (by decide +kernel) (by decide) 3 (by decide) (by decide) (by decide) (by decide) ?_
        intro T3823 h3825 a3826 k3827 S3824 g3828 E3829 f3830 
        have f3831 : Arv Z h3825 a3826 k3827 .char (3 : Int32) ([(.int 0), (.int 0), (.int 0)]) (.int 0) := Arv.pad f3830 (pad_rep [] (.int 0) 3)
        refine own_seg C S3824 [(70, .dup, 1), (71, .iconst 0, 1), (72, .bipush 37, 2)] (by decide +kernel) 74 #[.val (.int i0), .val (.int i1), .val (.int cv), .val (.ref a3775), .unset, .unset, .unset, .unset] [(.int 37), (.int 0), (.ref a3826), (.ref a3826), (.ref a3816), (.ref a3816)] rfl ?_
        have f3832 : n0 ≤ h3815.size := (Nat.le_trans f3802 E3818.1)
        have g3833 : n0 ≤ a3826 := by rw [g3828]; exact f3832
        refine own_castore C S3824 f3831 ⟨(by decide), (by decide)⟩ 0 rfl (Nat.le_of_ble_eq_true rfl) (37 : Int32) (by decide) g3833 (by decide +kernel) ?_
        intro T3834 h3836 S3835 W3837 f3838
        have f3839 : Arv Z h3836 a3826 k3827 .char (3 : Int32) ([(.int 37), (.int 0), (.int 0)]) (.int 0) := f3838
        refine own_seg C S3835 [(75, .dup, 1), (76, .iconst 1, 1), (77, .iload_n 2, 1), (78, .iconst 4, 1), (79, .ishr, 1)] (by decide +kernel) 80 #[.val (.int i0), .val (.int i1), .val (.int cv), .val (.ref a3775), .unset, .unset, .unset, .unset] [(.int (cv >>> ((4 : Int32) &&& 31))), (.int 1), (.ref a3826), (.ref a3826), (.ref a3816), (.ref a3816)] rfl ?_
        have f3840 : n0 ≤ h3836.size := (by rw [W3837.size]; exact (Nat.le_trans f3832 E3829.1))
        refine own_callS C S3835 (own_wd hw 231 rfl) (own_wd hw 232 rfl) (own_wd hw 227 rfl) (own_wd hw 233 rfl) (by decide) (own_Met.pay (own_hex l Z a0 hw (cv >>> ((4 : Int32) &&& 31)) h3836 n0 f3840 ((own_d4 kr).1)) C 5 (own_wd hw 233 rfl) (own_wd hw 227 rfl) (by decide) (by decide)) (fun _ _ _ q => q.2) [(.int (cv >>> ((4 : Int32) &&& 31)))] [(.int 1), (.ref a3826), (.ref a3826), (.ref a3816), (.ref a3816)] rfl own_pd32 rfl rfl rfl (Nat.le_of_ble_eq_true rfl) (by decide) (by decide) (by decide +kernel) ?_
        rintro T3842 h3843 v3844 L3845 S3846 ⟨⟨rfl, e3841⟩, -⟩
        rw [e3841] at S3846; clear e3841
        show own_Go p e below _ T3842 (mkF m 83 #[.val (.int i0), .val (.int i1), .val (.int cv), .val (.ref a3775), .unset, .unset, .unset, .unset] [(.int (own_hx (cv >>> ((4 : Int32) &&& 31)))), (.int 1), (.ref a3826), (.ref a3826), (.ref a3816), (.ref a3816)])
        rw [← hy3753]
        refine own_castore C S3846 f3839 ⟨(by decide), (by decide)⟩ 1 rfl (Nat.le_of_ble_eq_true rfl) y3753 (own_c16 hb3754) g3833 (by decide +kernel) ?_
        intro T3847 h3849 S3848 W3850 f3851
        have f3852 : Arv Z h3849 a3826 k3827 .char (3 : Int32) ([(.int 37), (.int y3753), (.int 0)]) (.int 0) := f3851
        refine own_seg C S3848 [(84, .dup, 1), (85, .iconst 2, 1), (86, .iload_n 2, 1), (87, .bipush 15, 2), (89, .iand, 1)] (by decide +kernel) 90 #[.val (.int i0), .val (.int i1), .val (.int cv), .val (.ref a3775), .unset, .unset, .unset, .unset] [(.int (cv &&& (15 : Int32))), (.int 2), (.ref a3826), (.ref a3826), (.ref a3816), (.ref a3816)] rfl ?_
        have f3853 : n0 ≤ h3849.size := (by rw [W3850.size]; exact f3840)
        refine own_callS C S3848 (own_wd hw 231 rfl) (own_wd hw 232 rfl) (own_wd hw 227 rfl) (own_wd hw 233 rfl) (by decide) (own_Met.pay (own_hex l Z a0 hw (cv &&& (15 : Int32)) h3849 n0 f3853 ((own_d4 kr).2)) C 5 (own_wd hw 233 rfl) (own_wd hw 227 rfl) (by decide) (by decide)) (fun _ _ _ q => q.2) [(.int (cv &&& (15 : Int32)))] [(.int 2), (.ref a3826), (.ref a3826), (.ref a3816), (.ref a3816)] rfl own_pd32 rfl rfl rfl (Nat.le_of_ble_eq_true rfl) (by decide) (by decide) (by decide +kernel) ?_
        rintro T3855 h3856 v3857 L3858 S3859 ⟨⟨rfl, e3854⟩, -⟩
        rw [e3854] at S3859; clear e3854
        show own_Go p e below _ T3855 (mkF m 93 #[.val (.int i0), .val (.int i1), .val (.int cv), .val (.ref a3775), .unset, .unset, .unset, .unset] [(.int (own_hx (cv &&& (15 : Int32)))), (.int 2), (.ref a3826), (.ref a3826), (.ref a3816), (.ref a3816)])
        rw [← hy3755]
        refine own_castore C S3859 f3852 ⟨(by decide), (by decide)⟩ 2 rfl (Nat.le_of_ble_eq_true rfl) y3755 (own_c16 hb3756) g3833 (by decide +kernel) ?_
        intro T3860 h3862 S3861 W3863 f3864
        have f3865 : Arv Z h3862 a3826 k3827 .char (3 : Int32) ([(.int 37), (.int y3753), (.int y3755)]) (.int 0) := f3864
        have hp3866 : ∀ c ∈ ([(37 : Int32), y3753, y3755] : List Int32), ¬ c < 0 ∧ ¬ (255 : Int32) < c := by
          intro c hc; simp only [List.mem_cons, List.not_mem_nil, or_false] at hc
          rcases hc with rfl | rfl | rfl
          · exact (by decide)
          · exact hb3754
          · exact hb3756
        have f3867 : n0 ≤ h3862.size := (by rw [W3863.size]; exact f3853)
        have g3868 : n0 ≤ a3816 := by rw [g3817]; exact f3802
        have f3869 := (Exa.wr W3863 (Exa.wr W3850 (Exa.wr W3837 (Exa.ext E3829 x3819))))
        have n3870 : a3816 ≠ a3826 := by rw [g3828]; exact Nat.ne_of_lt x3819.lt
        have f3871 := (Fld.other W3863 (Fld.other W3850 (Fld.other W3837 (Fld.ext E3829 f3821) (Or.inl n3870)) (Or.inl n3870)) (Or.inl n3870))
        have f3872 := (Fld.other W3863 (Fld.other W3850 (Fld.other W3837 (Fld.ext E3829 f3822) (Or.inl n3870)) (Or.inl n3870)) (Or.inl n3870))
        have f3873 := ((((((f3773.keep K3780 all0).ext E3818).ext E3829).wr W3837 g3833).wr W3850 g3833).wr W3863 g3833)
        refine own_callI C S3861 rfl (own_wd hw 234 rfl) (own_wd hw 235 rfl) (own_wd hw 236 rfl) (by decide) (StrChars.Road.backV (W := 1) C.2.2.2.2.2.2.2 (fun d hd => hw d (own_hws d hd)) (kI := 4) (own_wd hw 12 rfl) (cs := ([(37 : Int32), y3753, y3755] : List Int32)) (bs := (([(37 : Int32), y3753, y3755] : List Int32)).map (fun c => c.toInt8.toInt32)) (n := 3) g3868 f3867 f3869 f3871 f3872 f3865 (O2.ext f3873.2) P5 rfl rfl (by decide) (by decide) hp3866 rfl (by decide) (by decide)) (fun _ _ _ q => q.2.1) [(.ref a3826)] [(.ref a3816)] rfl own_pd36 rfl rfl rfl (Nat.le_of_ble_eq_true rfl) (by decide) (by decide) (by decide +kernel) ?_
        rintro T3884 h3885 v3886 L3887 S3888 ⟨rfl, -, K3874, x3875, f3876, t3877, k3878, g3879, g3880, g3881, f3882, f3883⟩
        have f3889 : Arv Z h3885 t3877 k3878 .byte (3 : Int32) ([(.int ((37 : Int32).toInt8.toInt32)), (.int y3753.toInt8.toInt32), (.int y3755.toInt8.toInt32)]) (.int 0) := f3883
        show own_Go p e below _ T3884 (mkF m 97 #[.val (.int i0), .val (.int i1), .val (.int cv), .val (.ref a3775), .unset, .unset, .unset, .unset] [(.ref a3816)])
        refine own_seg C S3888 [(97, .astore 4, 2), (99, .goto 225, 3)] (by decide +kernel) 324 #[.val (.int i0), .val (.int i1), .val (.int cv), .val (.ref a3775), .val (.ref a3816), .unset, .unset, .unset] [] rfl ?_
        refine own_seg C S3888 [(324, .aload_n 3, 1), (325, .aload 4, 2)] (by decide +kernel) 327 #[.val (.int i0), .val (.int i1), .val (.int cv), .val (.ref a3775), .val (.ref a3816), .unset, .unset, .unset] [(.ref a3816), (.ref a3775)] rfl ?_
        have f3890 := (f3873.keep K3874 (allS g3868 all0))
        have f3891 := ((Exa.wr W3863 (Exa.wr W3850 (Exa.wr W3837 (Exa.ext E3829 (Exa.ext E3818 f3781))))).keep K3874)
        have f3892 : a3775 < h3815.size := (Nat.lt_of_lt_of_le f3781.lt E3818.1)
        have n3893 : a3775 ≠ a3826 := by rw [g3828]; exact Nat.ne_of_lt f3892
        have n3894 : a3775 ≠ a3816 := by rw [g3817]; exact Nat.ne_of_lt f3781.lt
        have f3895 := ((Fld.other W3863 (Fld.other W3850 (Fld.other W3837 (Fld.ext E3829 (Fld.ext E3818 f3783)) (Or.inl n3893)) (Or.inl n3893)) (Or.inl n3893)).keep K3874 (ninS n3894 nin0))
        have f3896 := ((Fld.other W3863 (Fld.other W3850 (Fld.other W3837 (Fld.ext E3829 (Fld.ext E3818 f3782)) (Or.inl n3893)) (Or.inl n3893)) (Or.inl n3893)).keep K3874 (ninS n3894 nin0))
        have f3897 : a3776 < h3815.size := (Nat.lt_of_lt_of_le f3784.lt E3818.1)
        have n3898 : a3776 ≠ a3826 := by rw [g3828]; exact Nat.ne_of_lt f3897
        have n3899 : a3776 ≠ a3816 := by rw [g3817]; exact Nat.ne_of_lt f3784.lt
        have f3900 := ((((((f3784.ext E3818).ext E3829).other W3837 n3898).other W3850 n3898).other W3863 n3898).keep K3874 (ninS n3899 nin0))
        have f3901 : n0 ≤ h3885.size := (Nat.le_trans f3867 K3874.1)
        refine own_callV C S3888 (own_wd hw 250 rfl) (own_wd hw 251 rfl) (own_wd hw 253 rfl) (own_wd hw 253 rfl) rfl (own_wd hw 252 rfl) (by decide) (own_Met.pay (own_seq l Z a0 hw G1 G3 a3775 a3816 _ _ _ _ ([(37 : Int32), y3753.toInt8.toInt32, y3755.toInt8.toInt32] : List Int32) h3885 n0 f3901 f3890 f3891 f3895 f3896 x3875 f3882 f3876 f3900 f3889 O2 O4 P5 rG3 (Nat.le_of_ble_eq_true rfl)) C 0 (own_wd hw 254 rfl) (own_wd hw 4 rfl) (by decide) (by decide)) (fun _ _ _ q => q.2) f3891 [(.ref a3816)] [] rfl own_pd35 rfl rfl rfl (Nat.le_of_ble_eq_true rfl) (by decide) (by decide) (by decide +kernel) ?_
        rintro T3903 h3904 v3905 L3906 S3907 ⟨⟨rfl, e3902⟩, -⟩
        rw [e3902] at S3907; clear e3902
        show own_Go p e below _ T3903 (mkF m 330 #[.val (.int i0), .val (.int i1), .val (.int cv), .val (.ref a3775), .val (.ref a3816), .unset, .unset, .unset] [(.int 1)])
        refine own_if C S3907 (q := .eq) (o := 18) (by decide +kernel) 348 (by decide) (by decide) (fun (hq : (1 : Int32) = (0 : Int32)) => False.elim (absurd hq (by decide))) (fun (q3908 : ¬ (1 : Int32) = (0 : Int32)) => ?_)
        have o3910 : h3794.size ≤ h3815.size := (Nat.le_trans (Nat.le_refl _) E3818.1)
        have o3909 : h3794.size ≤ a3826 := by rw [g3828]; exact o3910
        have o3911 : h3794.size ≤ a3816 := by rw [g3817]; exact (Nat.le_refl _)
        have o3913 : h3794.size ≤ h3862.size := (by rw [W3863.size]; exact (by rw [W3850.size]; exact (by rw [W3837.size]; exact (Nat.le_trans o3910 E3829.1))))
        have o3912 : h3794.size ≤ t3877 := Nat.le_trans o3913 g3880
        have f3914 : a3826 < h3885.size := (Nat.lt_of_lt_of_le (by rw [W3863.size]; exact (by rw [W3850.size]; exact (by rw [W3837.size]; exact f3831.lt))) K3874.1)
        have f3915 : a3816 < h3885.size := (Nat.lt_of_lt_of_le (by rw [W3863.size]; exact (by rw [W3850.size]; exact (by rw [W3837.size]; exact (Nat.lt_of_lt_of_le x3819.lt E3829.1)))) K3874.1)
        have SW3916 := rb3800 _ _ _ _ [] [a3816, a3826, t3877] S3907 (((((((Keep.refl _ _).ext E3818).ext E3829).wr W3837 (Or.inr o3909)).wr W3850 (Or.inr o3909)).wr W3863 (Or.inr o3909)).trans K3874 (allS (Or.inr o3911) all0)) all0 (allS ⟨o3911, f3915⟩ (allS ⟨o3909, f3914⟩ (allS ⟨o3912, f3889.lt⟩ all0)))
        refine own_ldcWE CW SW3916 (own_wd hw 258 rfl) (List.mem_of_getElem? (i := 2) rfl) (z := (0 : Int32)) (vs := []) ⟨by decide, by decide⟩ (by decide) rfl (by decide +kernel) 0 (by decide) (by decide) (by decide) (by decide) ?_
        intro T3917 h3918 a3919 b3920 k3921 SW3922 E3923 x3924 f3925 f3926 f3927 ne3928 x3929
        have f3930 := (f3890.ext E3923)
        have f3931 : n0 ≤ h3918.size := (Nat.le_trans f3901 E3923.1)
        refine own_callSW CW SW3922 (own_wd hw 28 rfl) (own_wd hw 29 rfl) (own_wd hw 30 rfl) (own_wd hw 31 rfl) (by decide) (own_enc0 l Z a0 hw hEL wS G1 G3 U8 a3919 _ _ h3918 n0 f3931 f3930 x3924 f3926 f3925 f3927 x3929 O2 O4 P5 rG3 OU1 OU2 OA OH OL) all0 0 (by decide) (by decide) [(.ref a3919)] [] rfl own_pd34 rfl rfl rfl (Nat.le_of_ble_eq_true rfl) (by decide) (by decide) (by decide +kernel) ?_
        rintro T3947 h3948 v3949 SW3950 hg3951 ⟨a3932, a3933, k3934, rfl, g3935, g3936, K3937, f3938, f3939, f3940, f3941⟩
        show own_Go p e below _ T3947 (mkF m 338 #[.val (.int i0), .val (.int i1), .val (.int cv), .val (.ref a3775), .val (.ref a3816), .unset, .unset, .unset] [(.ref a3932)])
        have f3952 : n0 ≤ h3948.size := (Nat.le_trans f3931 K3937.1)
        refine own_lift CW SW3950 ?_
        intro vm3959 C S3960 rb3961
        refine own_callV C S3960 (own_wd hw 261 rfl) (own_wd hw 262 rfl) (own_wd hw 264 rfl) (own_wd hw 264 rfl) rfl (own_wd hw 263 rfl) (by decide) (own_Met.pay (own_emp l Z a0 hw a3932 _ _ _ h3948 n0 f3952 f3938 f3940 f3941) C 0 (own_wd hw 265 rfl) (own_wd hw 4 rfl) (by decide) (by decide)) (fun _ _ _ q => q.2) f3938 [] [] rfl own_pd4 rfl rfl rfl (Nat.le_of_ble_eq_true rfl) (by decide) (by decide) (by decide +kernel) ?_
        rintro T3954 h3955 v3956 L3957 S3958 ⟨⟨rfl, e3953⟩, -⟩
        rw [e3953] at S3958; clear e3953
        show own_Go p e below _ T3954 (mkF m 341 #[.val (.int i0), .val (.int i1), .val (.int cv), .val (.ref a3775), .val (.ref a3816), .unset, .unset, .unset] [(.int 1)])
        refine own_if C S3958 (q := .eq) (o := 7) (by decide +kernel) 348 (by decide) (by decide) (fun (hq : (1 : Int32) = (0 : Int32)) => False.elim (absurd hq (by decide))) (fun (q3962 : ¬ (1 : Int32) = (0 : Int32)) => ?_)
        refine own_seg C S3958 [(344, .iconst 1, 1), (345, .goto 4, 3)] (by decide +kernel) 349 #[.val (.int i0), .val (.int i1), .val (.int cv), .val (.ref a3775), .val (.ref a3816), .unset, .unset, .unset] [(.int 1)] rfl ?_
        have SW3963 := rb3961 _ _ _ _ [] [] S3958 (Keep.refl _ _) all0 all0
        refine own_retZW CW SW3963 (by decide +kernel) (by decide) (by decide) (by decide) ?_
        rfl
    · have kr : ¬ cv < 0 ∧ ¬ (255 : Int32) < cv := ⟨hc.1, q.2⟩
      have hk1 : cv.toInt < 2048 := by have e : (255 : Int32).toInt = 255 := rfl; have := (own_iv kr).2; omega
      obtain ⟨z3964, hz3964⟩ : ∃ y, y = ((192 : Int32) ||| (cv >>> ((6 : Int32) &&& 31))) := ⟨_, rfl⟩
      have hb3965 : ¬ z3964 < 0 ∧ ¬ (255 : Int32) < z3964 := by rw [hz3964]; exact (own_x2a hi0 hk1).1
      obtain ⟨y3966, hy3966⟩ : ∃ y, y = (own_hx (z3964 >>> ((4 : Int32) &&& 31))) := ⟨_, rfl⟩
      have hb3967 : ¬ y3966 < 0 ∧ ¬ (255 : Int32) < y3966 := by rw [hy3966]; exact own_hxB _
      obtain ⟨y3968, hy3968⟩ : ∃ y, y = (own_hx (z3964 &&& (15 : Int32))) := ⟨_, rfl⟩
      have hb3969 : ¬ y3968 < 0 ∧ ¬ (255 : Int32) < y3968 := by rw [hy3968]; exact own_hxB _
      obtain ⟨z3970, hz3970⟩ : ∃ y, y = ((128 : Int32) ||| (cv &&& (63 : Int32))) := ⟨_, rfl⟩
      have hb3971 : ¬ z3970 < 0 ∧ ¬ (255 : Int32) < z3970 := by rw [hz3970]; exact (own_xb cv).1
      obtain ⟨y3972, hy3972⟩ : ∃ y, y = (own_hx (z3970 >>> ((4 : Int32) &&& 31))) := ⟨_, rfl⟩
      have hb3973 : ¬ y3972 < 0 ∧ ¬ (255 : Int32) < y3972 := by rw [hy3972]; exact own_hxB _
      obtain ⟨y3974, hy3974⟩ : ∃ y, y = (own_hx (z3970 &&& (15 : Int32))) := ⟨_, rfl⟩
      have hb3975 : ¬ y3974 < 0 ∧ ¬ (255 : Int32) < y3974 := by rw [hy3974]; exact own_hxB _
      refine own_callS C S3616 (own_wd hw 2 rfl) (own_wd hw 3 rfl) (own_wd hw 4 rfl) (own_wd hw 5 rfl) (by decide) (own_Met.pay (own_voL l Z a0 hw G1 G3 U8 cv h0 n0 z0 X00 O2 O4 P5 rG3 OU1 OU2 OA OH OL kr.2) C 0 (own_wd hw 5 rfl) (own_wd hw 4 rfl) (by decide) (by decide)) (fun _ _ _ q => q.2) [(.int cv)] [] rfl own_pd33 rfl rfl rfl (Nat.le_of_ble_eq_true rfl) (by decide) (by decide) (by decide +kernel) ?_
      rintro T3987 h3988 v3989 L3990 S3991 ⟨⟨a3976, a3977, k3978, rfl, g3979, g3980, K3981, f3982, f3983, f3984, f3985, f3986⟩, -⟩
      show own_Go p e below _ T3987 (mkF m 35 #[.val (.int i0), .val (.int i1), .val (.int cv), .unset, .unset, .unset, .unset, .unset] [(.ref a3976)])
      have f3992 := (X00.keep K3981 all0)
      have f3993 : n0 ≤ h3988.size := (Nat.le_trans z0 K3981.1)
      have o4009 : h0.size ≤ a3977 := Nat.le_trans (Nat.le_refl _) g3980
      have o4010 : h0.size ≤ a3976 := Nat.le_trans (Nat.le_refl _) g3979
      have SW4011 := rb3614 _ _ _ _ [] [a3976, a3977] S3991 ((Keep.refl _ _).trans K3981 all0) all0 (allS ⟨o4010, f3982.lt⟩ (allS ⟨o4009, f3985.lt⟩ all0))
      refine own_callSW CW SW4011 (own_wd hw 28 rfl) (own_wd hw 29 rfl) (own_wd hw 30 rfl) (own_wd hw 31 rfl) (by decide) (own_enc2 l Z a0 hw hEL wS G1 G3 U8 a3976 _ _ cv h3988 n0 f3993 f3992 f3982 f3983 f3984 f3985 f3986 O2 O4 P5 rG3 OU1 OU2 OA OH OL ((own_b7 hc.1).2.1 q.1 q.2) kr) all0 0 (by decide) (by decide) [(.ref a3976)] [] rfl own_pd34 rfl rfl rfl (Nat.le_of_ble_eq_true rfl) (by decide) (by decide) (by decide +kernel) ?_
      rintro T4012 h4013 v4014 SW4015 hg4016 ⟨a3994, a3995, k3996, rfl, g3997, g3998, K3999, f4000, f4001, f4002, f4003⟩
      show own_Go p e below _ T4012 (mkF m 38 #[.val (.int i0), .val (.int i1), .val (.int cv), .unset, .unset, .unset, .unset, .unset] [(.ref a3994)])
      rw [← hz3964, ← hz3970, ← hy3966, ← hy3968, ← hy3972, ← hy3974] at f4003
      refine own_lift CW SW4015 ?_
      intro vm4017 C S4018 rb4019
      refine own_seg C S4018 [(38, .astore_n 3, 1), (39, .iload_n 2, 1), (40, .sipush 128, 3)] (by decide +kernel) 43 #[.val (.int i0), .val (.int i1), .val (.int cv), .val (.ref a3994), .unset, .unset, .unset, .unset] [(.int 128), (.int cv)] rfl ?_
      refine own_icmp C S4018 (q := .ge) (o := 59) (by decide +kernel) 102 (by decide) (by decide) (fun (q4020 : ¬ cv < (128 : Int32)) => ?_) (fun (hq : cv < (128 : Int32)) => False.elim (q.1 hq))
      refine own_seg C S4018 [(102, .iload_n 2, 1), (103, .sipush 2048, 3)] (by decide +kernel) 106 #[.val (.int i0), .val (.int i1), .val (.int cv), .val (.ref a3994), .unset, .unset, .unset, .unset] [(.int 2048), (.int cv)] rfl ?_
      refine own_icmp C S4018 (q := .ge) (o := 91) (by decide +kernel) 197 (by decide) (by decide) (fun (hq : ¬ cv < (2048 : Int32)) => False.elim (hq (by rw [Int32.lt_iff_toInt_lt]; exact hk1))) (fun (q4021 : cv < (2048 : Int32)) => ?_)
      refine own_seg C S4018 [(109, .sipush 192, 3), (112, .iload_n 2, 1), (113, .bipush 6, 2), (115, .ishr, 1), (116, .ior, 1), (117, .istore 5, 2), (119, .sipush 128, 3), (122, .iload_n 2, 1), (123, .bipush 63, 2), (125, .iand, 1), (126, .ior, 1), (127, .istore 6, 2)] (by decide +kernel) 129 #[.val (.int i0), .val (.int i1), .val (.int cv), .val (.ref a3994), .unset, .val (.int ((192 : Int32) ||| (cv >>> ((6 : Int32) &&& 31)))), .val (.int ((128 : Int32) ||| (cv &&& (63 : Int32)))), .unset] [] rfl ?_
      rw [← hz3964]
      rw [← hz3970]
      refine own_new C S4018 (own_wd hw 229 rfl) (own_wd hw 12 rfl) (own_wd hw 4 rfl) (by decide +kernel) (by decide) (by decide) ?_
      intro T4022 h4024 a4025 S4023 g4026 E4027 x4028 D4029
      have f4030 : Fld Z h4024 a4025 "java/lang/String" "value" "[B" .null := D4029 (ty := (.array .byte)) (Or.inr (own_wd hw 25 rfl)) own_fd0
      have f4031 : Fld Z h4024 a4025 "java/lang/String" "coder" "B" (.int 0) := D4029 (ty := .byte) (Or.inr (own_wd hw 27 rfl)) own_fd1
      refine own_seg C S4023 [(132, .dup, 1), (133, .bipush 6, 2)] (by decide +kernel) 135 #[.val (.int i0), .val (.int i1), .val (.int cv), .val (.ref a3994), .unset, .val (.int z3964), .val (.int z3970), .unset] [(.int 6), (.ref a4025), (.ref a4025)] rfl ?_
      refine own_newP C S4023 (aty := .char) (own_wd hw 230 rfl) (by decide +kernel) (by decide) 6 (by decide) (by decide) (by decide) (by decide) ?_
      intro T4032 h4034 a4035 k4036 S4033 g4037 E4038 f4039 
      have f4040 : Arv Z h4034 a4035 k4036 .char (6 : Int32) ([(.int 0), (.int 0), (.int 0), (.int 0), (.int 0), (.int 0)]) (.int 0) := Arv.pad f4039 (pad_rep [] (.int 0) 6)
      refine own_seg C S4033 [(137, .dup, 1), (138, .iconst 0, 1), (139, .bipush 37, 2)] (by decide +kernel) 141 #[.val (.int i0), .val (.int i1), .val (.int cv), .val (.ref a3994), .unset, .val (.int z3964), .val (.int z3970), .unset] [(.int 37), (.int 0), (.ref a4035), (.ref a4035), (.ref a4025), (.ref a4025)] rfl ?_
      have f4041 : n0 ≤ h4024.size := (Nat.le_trans (Nat.le_trans f3993 K3999.1) E4027.1)
      have g4042 : n0 ≤ a4035 := by rw [g4037]; exact f4041
      refine own_castore C S4033 f4040 ⟨(by decide), (by decide)⟩ 0 rfl (Nat.le_of_ble_eq_true rfl) (37 : Int32) (by decide) g4042 (by decide +kernel) ?_
      intro T4043 h4045 S4044 W4046 f4047
      have f4048 : Arv Z h4045 a4035 k4036 .char (6 : Int32) ([(.int 37), (.int 0), (.int 0), (.int 0), (.int 0), (.int 0)]) (.int 0) := f4047
      refine own_seg C S4044 [(142, .dup, 1), (143, .iconst 1, 1), (144, .iload 5, 2), (146, .iconst 4, 1), (147, .ishr, 1)] (by decide +kernel) 148 #[.val (.int i0), .val (.int i1), .val (.int cv), .val (.ref a3994), .unset, .val (.int z3964), .val (.int z3970), .unset] [(.int (z3964 >>> ((4 : Int32) &&& 31))), (.int 1), (.ref a4035), (.ref a4035), (.ref a4025), (.ref a4025)] rfl ?_
      have f4049 : n0 ≤ h4045.size := (by rw [W4046.size]; exact (Nat.le_trans f4041 E4038.1))
      refine own_callS C S4044 (own_wd hw 231 rfl) (own_wd hw 232 rfl) (own_wd hw 227 rfl) (own_wd hw 233 rfl) (by decide) (own_Met.pay (own_hex l Z a0 hw (z3964 >>> ((4 : Int32) &&& 31)) h4045 n0 f4049 ((own_d4 hb3965).1)) C 5 (own_wd hw 233 rfl) (own_wd hw 227 rfl) (by decide) (by decide)) (fun _ _ _ q => q.2) [(.int (z3964 >>> ((4 : Int32) &&& 31)))] [(.int 1), (.ref a4035), (.ref a4035), (.ref a4025), (.ref a4025)] rfl own_pd32 rfl rfl rfl (Nat.le_of_ble_eq_true rfl) (by decide) (by decide) (by decide +kernel) ?_
      rintro T4051 h4052 v4053 L4054 S4055 ⟨⟨rfl, e4050⟩, -⟩
      rw [e4050] at S4055; clear e4050
      show own_Go p e below _ T4051 (mkF m 151 #[.val (.int i0), .val (.int i1), .val (.int cv), .val (.ref a3994), .unset, .val (.int z3964), .val (.int z3970), .unset] [(.int (own_hx (z3964 >>> ((4 : Int32) &&& 31)))), (.int 1), (.ref a4035), (.ref a4035), (.ref a4025), (.ref a4025)])
      rw [← hy3966]
      refine own_castore C S4055 f4048 ⟨(by decide), (by decide)⟩ 1 rfl (Nat.le_of_ble_eq_true rfl) y3966 (own_c16 hb3967) g4042 (by decide +kernel) ?_
      intro T4056 h4058 S4057 W4059 f4060
      have f4061 : Arv Z h4058 a4035 k4036 .char (6 : Int32) ([(.int 37), (.int y3966), (.int 0), (.int 0), (.int 0), (.int 0)]) (.int 0) := f4060
      refine own_seg C S4057 [(152, .dup, 1), (153, .iconst 2, 1), (154, .iload 5, 2), (156, .bipush 15, 2), (158, .iand, 1)] (by decide +kernel) 159 #[.val (.int i0), .val (.int i1), .val (.int cv), .val (.ref a3994), .unset, .val (.int z3964), .val (.int z3970), .unset] [(.int (z3964 &&& (15 : Int32))), (.int 2), (.ref a4035), (.ref a4035), (.ref a4025), (.ref a4025)] rfl ?_
      have f4062 : n0 ≤ h4058.size := (by rw [W4059.size]; exact f4049)
      refine own_callS C S4057 (own_wd hw 231 rfl) (own_wd hw 232 rfl) (own_wd hw 227 rfl) (own_wd hw 233 rfl) (by decide) (own_Met.pay (own_hex l Z a0 hw (z3964 &&& (15 : Int32)) h4058 n0 f4062 ((own_d4 hb3965).2)) C 5 (own_wd hw 233 rfl) (own_wd hw 227 rfl) (by decide) (by decide)) (fun _ _ _ q => q.2) [(.int (z3964 &&& (15 : Int32)))] [(.int 2), (.ref a4035), (.ref a4035), (.ref a4025), (.ref a4025)] rfl own_pd32 rfl rfl rfl (Nat.le_of_ble_eq_true rfl) (by decide) (by decide) (by decide +kernel) ?_
      rintro T4064 h4065 v4066 L4067 S4068 ⟨⟨rfl, e4063⟩, -⟩
      rw [e4063] at S4068; clear e4063
      show own_Go p e below _ T4064 (mkF m 162 #[.val (.int i0), .val (.int i1), .val (.int cv), .val (.ref a3994), .unset, .val (.int z3964), .val (.int z3970), .unset] [(.int (own_hx (z3964 &&& (15 : Int32)))), (.int 2), (.ref a4035), (.ref a4035), (.ref a4025), (.ref a4025)])
      rw [← hy3968]
      refine own_castore C S4068 f4061 ⟨(by decide), (by decide)⟩ 2 rfl (Nat.le_of_ble_eq_true rfl) y3968 (own_c16 hb3969) g4042 (by decide +kernel) ?_
      intro T4069 h4071 S4070 W4072 f4073
      have f4074 : Arv Z h4071 a4035 k4036 .char (6 : Int32) ([(.int 37), (.int y3966), (.int y3968), (.int 0), (.int 0), (.int 0)]) (.int 0) := f4073
      refine own_seg C S4070 [(163, .dup, 1), (164, .iconst 3, 1), (165, .bipush 37, 2)] (by decide +kernel) 167 #[.val (.int i0), .val (.int i1), .val (.int cv), .val (.ref a3994), .unset, .val (.int z3964), .val (.int z3970), .unset] [(.int 37), (.int 3), (.ref a4035), (.ref a4035), (.ref a4025), (.ref a4025)] rfl ?_
      refine own_castore C S4070 f4074 ⟨(by decide), (by decide)⟩ 3 rfl (Nat.le_of_ble_eq_true rfl) (37 : Int32) (by decide) g4042 (by decide +kernel) ?_
      intro T4075 h4077 S4076 W4078 f4079
      have f4080 : Arv Z h4077 a4035 k4036 .char (6 : Int32) ([(.int 37), (.int y3966), (.int y3968), (.int 37), (.int 0), (.int 0)]) (.int 0) := f4079
      refine own_seg C S4076 [(168, .dup, 1), (169, .iconst 4, 1), (170, .iload 6, 2), (172, .iconst 4, 1), (173, .ishr, 1)] (by decide +kernel) 174 #[.val (.int i0), .val (.int i1), .val (.int cv), .val (.ref a3994), .unset, .val (.int z3964), .val (.int z3970), .unset] [(.int (z3970 >>> ((4 : Int32) &&& 31))), (.int 4), (.ref a4035), (.ref a4035), (.ref a4025), (.ref a4025)] rfl ?_
      have f4081 : n0 ≤ h4077.size := (by rw [W4078.size]; exact (by rw [W4072.size]; exact f4062))
      refine own_callS C S4076 (own_wd hw 231 rfl) (own_wd hw 232 rfl) (own_wd hw 227 rfl) (own_wd hw 233 rfl) (by decide) (own_Met.pay (own_hex l Z a0 hw (z3970 >>> ((4 : Int32) &&& 31)) h4077 n0 f4081 ((own_d4 hb3971).1)) C 5 (own_wd hw 233 rfl) (own_wd hw 227 rfl) (by decide) (by decide)) (fun _ _ _ q => q.2) [(.int (z3970 >>> ((4 : Int32) &&& 31)))] [(.int 4), (.ref a4035), (.ref a4035), (.ref a4025), (.ref a4025)] rfl own_pd32 rfl rfl rfl (Nat.le_of_ble_eq_true rfl) (by decide) (by decide) (by decide +kernel) ?_
      rintro T4083 h4084 v4085 L4086 S4087 ⟨⟨rfl, e4082⟩, -⟩
      rw [e4082] at S4087; clear e4082
      show own_Go p e below _ T4083 (mkF m 177 #[.val (.int i0), .val (.int i1), .val (.int cv), .val (.ref a3994), .unset, .val (.int z3964), .val (.int z3970), .unset] [(.int (own_hx (z3970 >>> ((4 : Int32) &&& 31)))), (.int 4), (.ref a4035), (.ref a4035), (.ref a4025), (.ref a4025)])
      rw [← hy3972]
      refine own_castore C S4087 f4080 ⟨(by decide), (by decide)⟩ 4 rfl (Nat.le_of_ble_eq_true rfl) y3972 (own_c16 hb3973) g4042 (by decide +kernel) ?_
      intro T4088 h4090 S4089 W4091 f4092
      have f4093 : Arv Z h4090 a4035 k4036 .char (6 : Int32) ([(.int 37), (.int y3966), (.int y3968), (.int 37), (.int y3972), (.int 0)]) (.int 0) := f4092
      refine own_seg C S4089 [(178, .dup, 1), (179, .iconst 5, 1), (180, .iload 6, 2), (182, .bipush 15, 2), (184, .iand, 1)] (by decide +kernel) 185 #[.val (.int i0), .val (.int i1), .val (.int cv), .val (.ref a3994), .unset, .val (.int z3964), .val (.int z3970), .unset] [(.int (z3970 &&& (15 : Int32))), (.int 5), (.ref a4035), (.ref a4035), (.ref a4025), (.ref a4025)] rfl ?_
      have f4094 : n0 ≤ h4090.size := (by rw [W4091.size]; exact f4081)
      refine own_callS C S4089 (own_wd hw 231 rfl) (own_wd hw 232 rfl) (own_wd hw 227 rfl) (own_wd hw 233 rfl) (by decide) (own_Met.pay (own_hex l Z a0 hw (z3970 &&& (15 : Int32)) h4090 n0 f4094 ((own_d4 hb3971).2)) C 5 (own_wd hw 233 rfl) (own_wd hw 227 rfl) (by decide) (by decide)) (fun _ _ _ q => q.2) [(.int (z3970 &&& (15 : Int32)))] [(.int 5), (.ref a4035), (.ref a4035), (.ref a4025), (.ref a4025)] rfl own_pd32 rfl rfl rfl (Nat.le_of_ble_eq_true rfl) (by decide) (by decide) (by decide +kernel) ?_
      rintro T4096 h4097 v4098 L4099 S4100 ⟨⟨rfl, e4095⟩, -⟩
      rw [e4095] at S4100; clear e4095
      show own_Go p e below _ T4096 (mkF m 188 #[.val (.int i0), .val (.int i1), .val (.int cv), .val (.ref a3994), .unset, .val (.int z3964), .val (.int z3970), .unset] [(.int (own_hx (z3970 &&& (15 : Int32)))), (.int 5), (.ref a4035), (.ref a4035), (.ref a4025), (.ref a4025)])
      rw [← hy3974]
      refine own_castore C S4100 f4093 ⟨(by decide), (by decide)⟩ 5 rfl (Nat.le_of_ble_eq_true rfl) y3974 (own_c16 hb3975) g4042 (by decide +kernel) ?_
      intro T4101 h4103 S4102 W4104 f4105
      have f4106 : Arv Z h4103 a4035 k4036 .char (6 : Int32) ([(.int 37), (.int y3966), (.int y3968), (.int 37), (.int y3972), (.int y3974)]) (.int 0) := f4105
      have hp4107 : ∀ c ∈ ([(37 : Int32), y3966, y3968, (37 : Int32), y3972, y3974] : List Int32), ¬ c < 0 ∧ ¬ (255 : Int32) < c := by
        intro c hc; simp only [List.mem_cons, List.not_mem_nil, or_false] at hc
        rcases hc with rfl | rfl | rfl | rfl | rfl | rfl
        · exact (by decide)
        · exact hb3967
        · exact hb3969
        · exact (by decide)
        · exact hb3973
        · exact hb3975
      have f4108 : n0 ≤ h4103.size := (by rw [W4104.size]; exact f4094)
      have f4109 : n0 ≤ h4013.size := (Nat.le_trans f3993 K3999.1)
      have g4110 : n0 ≤ a4025 := by rw [g4026]; exact f4109
      have f4111 := (Exa.wr W4104 (Exa.wr W4091 (Exa.wr W4078 (Exa.wr W4072 (Exa.wr W4059 (Exa.wr W4046 (Exa.ext E4038 x4028)))))))
      have n4112 : a4025 ≠ a4035 := by rw [g4037]; exact Nat.ne_of_lt x4028.lt
      have f4113 := (Fld.other W4104 (Fld.other W4091 (Fld.other W4078 (Fld.other W4072 (Fld.other W4059 (Fld.other W4046 (Fld.ext E4038 f4030) (Or.inl n4112)) (Or.inl n4112)) (Or.inl n4112)) (Or.inl n4112)) (Or.inl n4112)) (Or.inl n4112))
      have f4114 := (Fld.other W4104 (Fld.other W4091 (Fld.other W4078 (Fld.other W4072 (Fld.other W4059 (Fld.other W4046 (Fld.ext E4038 f4031) (Or.inl n4112)) (Or.inl n4112)) (Or.inl n4112)) (Or.inl n4112)) (Or.inl n4112)) (Or.inl n4112))
      have f4115 := (((((((((f3992.keep K3999 all0).ext E4027).ext E4038).wr W4046 g4042).wr W4059 g4042).wr W4072 g4042).wr W4078 g4042).wr W4091 g4042).wr W4104 g4042)
      refine own_callI C S4102 rfl (own_wd hw 234 rfl) (own_wd hw 235 rfl) (own_wd hw 236 rfl) (by decide) (StrChars.Road.backV (W := 1) C.2.2.2.2.2.2.2 (fun d hd => hw d (own_hws d hd)) (kI := 4) (own_wd hw 12 rfl) (cs := ([(37 : Int32), y3966, y3968, (37 : Int32), y3972, y3974] : List Int32)) (bs := (([(37 : Int32), y3966, y3968, (37 : Int32), y3972, y3974] : List Int32)).map (fun c => c.toInt8.toInt32)) (n := 6) g4110 f4108 f4111 f4113 f4114 f4106 (O2.ext f4115.2) P5 rfl rfl (by decide) (by decide) hp4107 rfl (by decide) (by decide)) (fun _ _ _ q => q.2.1) [(.ref a4035)] [(.ref a4025)] rfl own_pd36 rfl rfl rfl (Nat.le_of_ble_eq_true rfl) (by decide) (by decide) (by decide +kernel) ?_
      rintro T4126 h4127 v4128 L4129 S4130 ⟨rfl, -, K4116, x4117, f4118, t4119, k4120, g4121, g4122, g4123, f4124, f4125⟩
      have f4131 : Arv Z h4127 t4119 k4120 .byte (6 : Int32) ([(.int ((37 : Int32).toInt8.toInt32)), (.int y3966.toInt8.toInt32), (.int y3968.toInt8.toInt32), (.int ((37 : Int32).toInt8.toInt32)), (.int y3972.toInt8.toInt32), (.int y3974.toInt8.toInt32)]) (.int 0) := f4125
      show own_Go p e below _ T4126 (mkF m 192 #[.val (.int i0), .val (.int i1), .val (.int cv), .val (.ref a3994), .unset, .val (.int z3964), .val (.int z3970), .unset] [(.ref a4025)])
      refine own_seg C S4130 [(192, .astore 4, 2), (194, .goto 130, 3)] (by decide +kernel) 324 #[.val (.int i0), .val (.int i1), .val (.int cv), .val (.ref a3994), .val (.ref a4025), .val (.int z3964), .val (.int z3970), .unset] [] rfl ?_
      refine own_seg C S4130 [(324, .aload_n 3, 1), (325, .aload 4, 2)] (by decide +kernel) 327 #[.val (.int i0), .val (.int i1), .val (.int cv), .val (.ref a3994), .val (.ref a4025), .val (.int z3964), .val (.int z3970), .unset] [(.ref a4025), (.ref a3994)] rfl ?_
      have f4132 := (f4115.keep K4116 (allS g4110 all0))
      have f4133 := ((Exa.wr W4104 (Exa.wr W4091 (Exa.wr W4078 (Exa.wr W4072 (Exa.wr W4059 (Exa.wr W4046 (Exa.ext E4038 (Exa.ext E4027 f4000)))))))).keep K4116)
      have f4134 : a3994 < h4024.size := (Nat.lt_of_lt_of_le f4000.lt E4027.1)
      have n4135 : a3994 ≠ a4035 := by rw [g4037]; exact Nat.ne_of_lt f4134
      have n4136 : a3994 ≠ a4025 := by rw [g4026]; exact Nat.ne_of_lt f4000.lt
      have f4137 := ((Fld.other W4104 (Fld.other W4091 (Fld.other W4078 (Fld.other W4072 (Fld.other W4059 (Fld.other W4046 (Fld.ext E4038 (Fld.ext E4027 f4002)) (Or.inl n4135)) (Or.inl n4135)) (Or.inl n4135)) (Or.inl n4135)) (Or.inl n4135)) (Or.inl n4135)).keep K4116 (ninS n4136 nin0))
      have f4138 := ((Fld.other W4104 (Fld.other W4091 (Fld.other W4078 (Fld.other W4072 (Fld.other W4059 (Fld.other W4046 (Fld.ext E4038 (Fld.ext E4027 f4001)) (Or.inl n4135)) (Or.inl n4135)) (Or.inl n4135)) (Or.inl n4135)) (Or.inl n4135)) (Or.inl n4135)).keep K4116 (ninS n4136 nin0))
      have f4139 : a3995 < h4024.size := (Nat.lt_of_lt_of_le f4003.lt E4027.1)
      have n4140 : a3995 ≠ a4035 := by rw [g4037]; exact Nat.ne_of_lt f4139
      have n4141 : a3995 ≠ a4025 := by rw [g4026]; exact Nat.ne_of_lt f4003.lt
      have f4142 := (((((((((f4003.ext E4027).ext E4038).other W4046 n4140).other W4059 n4140).other W4072 n4140).other W4078 n4140).other W4091 n4140).other W4104 n4140).keep K4116 (ninS n4141 nin0))
      have f4143 : n0 ≤ h4127.size := (Nat.le_trans f4108 K4116.1)
      refine own_callV C S4130 (own_wd hw 250 rfl) (own_wd hw 251 rfl) (own_wd hw 253 rfl) (own_wd hw 253 rfl) rfl (own_wd hw 252 rfl) (by decide) (own_Met.pay (own_seq l Z a0 hw G1 G3 a3994 a4025 _ _ _ _ ([(37 : Int32), y3966.toInt8.toInt32, y3968.toInt8.toInt32, (37 : Int32), y3972.toInt8.toInt32, y3974.toInt8.toInt32] : List Int32) h4127 n0 f4143 f4132 f4133 f4137 f4138 x4117 f4124 f4118 f4142 f4131 O2 O4 P5 rG3 (Nat.le_of_ble_eq_true rfl)) C 0 (own_wd hw 254 rfl) (own_wd hw 4 rfl) (by decide) (by decide)) (fun _ _ _ q => q.2) f4133 [(.ref a4025)] [] rfl own_pd35 rfl rfl rfl (Nat.le_of_ble_eq_true rfl) (by decide) (by decide) (by decide +kernel) ?_
      rintro T4145 h4146 v4147 L4148 S4149 ⟨⟨rfl, e4144⟩, -⟩
      rw [e4144] at S4149; clear e4144
      show own_Go p e below _ T4145 (mkF m 330 #[.val (.int i0), .val (.int i1), .val (.int cv), .val (.ref a3994), .val (.ref a4025), .val (.int z3964), .val (.int z3970), .unset] [(.int 1)])
      refine own_if C S4149 (q := .eq) (o := 18) (by decide +kernel) 348 (by decide) (by decide) (fun (hq : (1 : Int32) = (0 : Int32)) => False.elim (absurd hq (by decide))) (fun (q4150 : ¬ (1 : Int32) = (0 : Int32)) => ?_)
      have o4152 : h4013.size ≤ h4024.size := (Nat.le_trans (Nat.le_refl _) E4027.1)
      have o4151 : h4013.size ≤ a4035 := by rw [g4037]; exact o4152
      have o4153 : h4013.size ≤ a4025 := by rw [g4026]; exact (Nat.le_refl _)
      have o4155 : h4013.size ≤ h4103.size := (by rw [W4104.size]; exact (by rw [W4091.size]; exact (by rw [W4078.size]; exact (by rw [W4072.size]; exact (by rw [W4059.size]; exact (by rw [W4046.size]; exact (Nat.le_trans o4152 E4038.1)))))))
      have o4154 : h4013.size ≤ t4119 := Nat.le_trans o4155 g4122
      have f4156 : a4035 < h4127.size := (Nat.lt_of_lt_of_le (by rw [W4104.size]; exact (by rw [W4091.size]; exact (by rw [W4078.size]; exact (by rw [W4072.size]; exact (by rw [W4059.size]; exact (by rw [W4046.size]; exact f4040.lt)))))) K4116.1)
      have f4157 : a4025 < h4127.size := (Nat.lt_of_lt_of_le (by rw [W4104.size]; exact (by rw [W4091.size]; exact (by rw [W4078.size]; exact (by rw [W4072.size]; exact (by rw [W4059.size]; exact (by rw [W4046.size]; exact (Nat.lt_of_lt_of_le x4028.lt E4038.1))))))) K4116.1)
      have SW4158 := rb4019 _ _ _ _ [] [a4025, a4035, t4119] S4149 ((((((((((Keep.refl _ _).ext E4027).ext E4038).wr W4046 (Or.inr o4151)).wr W4059 (Or.inr o4151)).wr W4072 (Or.inr o4151)).wr W4078 (Or.inr o4151)).wr W4091 (Or.inr o4151)).wr W4104 (Or.inr o4151)).trans K4116 (allS (Or.inr o4153) all0)) all0 (allS ⟨o4153, f4157⟩ (allS ⟨o4151, f4156⟩ (allS ⟨o4154, f4131.lt⟩ all0)))
      refine own_ldcWE CW SW4158 (own_wd hw 258 rfl) (List.mem_of_getElem? (i := 2) rfl) (z := (0 : Int32)) (vs := []) ⟨by decide, by decide⟩ (by decide) rfl (by decide +kernel) 0 (by decide) (by decide) (by decide) (by decide) ?_
      intro T4159 h4160 a4161 b4162 k4163 SW4164 E4165 x4166 f4167 f4168 f4169 ne4170 x4171
      have f4172 := (f4132.ext E4165)
      have f4173 : n0 ≤ h4160.size := (Nat.le_trans f4143 E4165.1)
      refine own_callSW CW SW4164 (own_wd hw 28 rfl) (own_wd hw 29 rfl) (own_wd hw 30 rfl) (own_wd hw 31 rfl) (by decide) (own_enc0 l Z a0 hw hEL wS G1 G3 U8 a4161 _ _ h4160 n0 f4173 f4172 x4166 f4168 f4167 f4169 x4171 O2 O4 P5 rG3 OU1 OU2 OA OH OL) all0 0 (by decide) (by decide) [(.ref a4161)] [] rfl own_pd34 rfl rfl rfl (Nat.le_of_ble_eq_true rfl) (by decide) (by decide) (by decide +kernel) ?_
      rintro T4189 h4190 v4191 SW4192 hg4193 ⟨a4174, a4175, k4176, rfl, g4177, g4178, K4179, f4180, f4181, f4182, f4183⟩
      show own_Go p e below _ T4189 (mkF m 338 #[.val (.int i0), .val (.int i1), .val (.int cv), .val (.ref a3994), .val (.ref a4025), .val (.int z3964), .val (.int z3970), .unset] [(.ref a4174)])
      have f4194 : n0 ≤ h4190.size := (Nat.le_trans f4173 K4179.1)
      refine own_lift CW SW4192 ?_
      intro vm4201 C S4202 rb4203
      refine own_callV C S4202 (own_wd hw 261 rfl) (own_wd hw 262 rfl) (own_wd hw 264 rfl) (own_wd hw 264 rfl) rfl (own_wd hw 263 rfl) (by decide) (own_Met.pay (own_emp l Z a0 hw a4174 _ _ _ h4190 n0 f4194 f4180 f4182 f4183) C 0 (own_wd hw 265 rfl) (own_wd hw 4 rfl) (by decide) (by decide)) (fun _ _ _ q => q.2) f4180 [] [] rfl own_pd4 rfl rfl rfl (Nat.le_of_ble_eq_true rfl) (by decide) (by decide) (by decide +kernel) ?_
      rintro T4196 h4197 v4198 L4199 S4200 ⟨⟨rfl, e4195⟩, -⟩
      rw [e4195] at S4200; clear e4195
      show own_Go p e below _ T4196 (mkF m 341 #[.val (.int i0), .val (.int i1), .val (.int cv), .val (.ref a3994), .val (.ref a4025), .val (.int z3964), .val (.int z3970), .unset] [(.int 1)])
      refine own_if C S4200 (q := .eq) (o := 7) (by decide +kernel) 348 (by decide) (by decide) (fun (hq : (1 : Int32) = (0 : Int32)) => False.elim (absurd hq (by decide))) (fun (q4204 : ¬ (1 : Int32) = (0 : Int32)) => ?_)
      refine own_seg C S4200 [(344, .iconst 1, 1), (345, .goto 4, 3)] (by decide +kernel) 349 #[.val (.int i0), .val (.int i1), .val (.int cv), .val (.ref a3994), .val (.ref a4025), .val (.int z3964), .val (.int z3970), .unset] [(.int 1)] rfl ?_
      have SW4205 := rb4203 _ _ _ _ [] [] S4200 (Keep.refl _ _) all0 all0
      refine own_retZW CW SW4205 (by decide +kernel) (by decide) (by decide) (by decide) ?_
      rfl
    · have hk1 : cv.toInt < 2048 := by have e : (2048 : Int32).toInt = 2048 := rfl; have r := q.2; rw [Int32.lt_iff_toInt_lt] at r; omega
      obtain ⟨z4206, hz4206⟩ : ∃ y, y = ((192 : Int32) ||| (cv >>> ((6 : Int32) &&& 31))) := ⟨_, rfl⟩
      have hb4207 : ¬ z4206 < 0 ∧ ¬ (255 : Int32) < z4206 := by rw [hz4206]; exact (own_x2a hi0 hk1).1
      obtain ⟨y4208, hy4208⟩ : ∃ y, y = (own_hx (z4206 >>> ((4 : Int32) &&& 31))) := ⟨_, rfl⟩
      have hb4209 : ¬ y4208 < 0 ∧ ¬ (255 : Int32) < y4208 := by rw [hy4208]; exact own_hxB _
      obtain ⟨y4210, hy4210⟩ : ∃ y, y = (own_hx (z4206 &&& (15 : Int32))) := ⟨_, rfl⟩
      have hb4211 : ¬ y4210 < 0 ∧ ¬ (255 : Int32) < y4210 := by rw [hy4210]; exact own_hxB _
      obtain ⟨z4212, hz4212⟩ : ∃ y, y = ((128 : Int32) ||| (cv &&& (63 : Int32))) := ⟨_, rfl⟩
      have hb4213 : ¬ z4212 < 0 ∧ ¬ (255 : Int32) < z4212 := by rw [hz4212]; exact (own_xb cv).1
      obtain ⟨y4214, hy4214⟩ : ∃ y, y = (own_hx (z4212 >>> ((4 : Int32) &&& 31))) := ⟨_, rfl⟩
      have hb4215 : ¬ y4214 < 0 ∧ ¬ (255 : Int32) < y4214 := by rw [hy4214]; exact own_hxB _
      obtain ⟨y4216, hy4216⟩ : ∃ y, y = (own_hx (z4212 &&& (15 : Int32))) := ⟨_, rfl⟩
      have hb4217 : ¬ y4216 < 0 ∧ ¬ (255 : Int32) < y4216 := by rw [hy4216]; exact own_hxB _
      refine own_callS C S3616 (own_wd hw 2 rfl) (own_wd hw 3 rfl) (own_wd hw 4 rfl) (own_wd hw 5 rfl) (by decide) (own_Met.pay (own_voU l Z a0 hw G1 G3 U8 cv h0 n0 z0 X00 O2 O4 P5 rG3 OU1 OU2 OA OH OL q.1) C 0 (own_wd hw 5 rfl) (own_wd hw 4 rfl) (by decide) (by decide)) (fun _ _ _ q => q.2) [(.int cv)] [] rfl own_pd33 rfl rfl rfl (Nat.le_of_ble_eq_true rfl) (by decide) (by decide) (by decide +kernel) ?_
      rintro T4229 h4230 v4231 L4232 S4233 ⟨⟨a4218, a4219, k4220, rfl, g4221, g4222, K4223, f4224, f4225, f4226, f4227, f4228⟩, -⟩
      show own_Go p e below _ T4229 (mkF m 35 #[.val (.int i0), .val (.int i1), .val (.int cv), .unset, .unset, .unset, .unset, .unset] [(.ref a4218)])
      have f4234 := (X00.keep K4223 all0)
      have f4235 : n0 ≤ h4230.size := (Nat.le_trans z0 K4223.1)
      have o4251 : h0.size ≤ a4219 := Nat.le_trans (Nat.le_refl _) g4222
      have o4252 : h0.size ≤ a4218 := Nat.le_trans (Nat.le_refl _) g4221
      have SW4253 := rb3614 _ _ _ _ [] [a4218, a4219] S4233 ((Keep.refl _ _).trans K4223 all0) all0 (allS ⟨o4252, f4224.lt⟩ (allS ⟨o4251, f4227.lt⟩ all0))
      refine own_callSW CW SW4253 (own_wd hw 28 rfl) (own_wd hw 29 rfl) (own_wd hw 30 rfl) (own_wd hw 31 rfl) (by decide) (own_enc3 l Z a0 hw hEL wS G1 G3 U8 a4218 _ _ cv h4230 n0 f4235 f4234 f4224 f4225 f4226 f4227 f4228 O2 O4 P5 rG3 OU1 OU2 OA OH OL (⟨hi0, hi1⟩) ((own_b7 hc.1).2.2 q.1) q.2) all0 0 (by decide) (by decide) [(.ref a4218)] [] rfl own_pd34 rfl rfl rfl (Nat.le_of_ble_eq_true rfl) (by decide) (by decide) (by decide +kernel) ?_
      rintro T4254 h4255 v4256 SW4257 hg4258 ⟨a4236, a4237, k4238, rfl, g4239, g4240, K4241, f4242, f4243, f4244, f4245⟩
      show own_Go p e below _ T4254 (mkF m 38 #[.val (.int i0), .val (.int i1), .val (.int cv), .unset, .unset, .unset, .unset, .unset] [(.ref a4236)])
      rw [← hz4206, ← hz4212, ← hy4208, ← hy4210, ← hy4214, ← hy4216] at f4245
      refine own_lift CW SW4257 ?_
      intro vm4259 C S4260 rb4261
      refine own_seg C S4260 [(38, .astore_n 3, 1), (39, .iload_n 2, 1), (40, .sipush 128, 3)] (by decide +kernel) 43 #[.val (.int i0), .val (.int i1), .val (.int cv), .val (.ref a4236), .unset, .unset, .unset, .unset] [(.int 128), (.int cv)] rfl ?_
      refine own_icmp C S4260 (q := .ge) (o := 59) (by decide +kernel) 102 (by decide) (by decide) (fun (q4262 : ¬ cv < (128 : Int32)) => ?_) (fun (hq : cv < (128 : Int32)) => False.elim (((own_b7 hc.1).2.2 q.1) hq))
      refine own_seg C S4260 [(102, .iload_n 2, 1), (103, .sipush 2048, 3)] (by decide +kernel) 106 #[.val (.int i0), .val (.int i1), .val (.int cv), .val (.ref a4236), .unset, .unset, .unset, .unset] [(.int 2048), (.int cv)] rfl ?_
      refine own_icmp C S4260 (q := .ge) (o := 91) (by decide +kernel) 197 (by decide) (by decide) (fun (hq : ¬ cv < (2048 : Int32)) => False.elim (hq (by rw [Int32.lt_iff_toInt_lt]; exact hk1))) (fun (q4263 : cv < (2048 : Int32)) => ?_)
      refine own_seg C S4260 [(109, .sipush 192, 3), (112, .iload_n 2, 1), (113, .bipush 6, 2), (115, .ishr, 1), (116, .ior, 1), (117, .istore 5, 2), (119, .sipush 128, 3), (122, .iload_n 2, 1), (123, .bipush 63, 2), (125, .iand, 1), (126, .ior, 1), (127, .istore 6, 2)] (by decide +kernel) 129 #[.val (.int i0), .val (.int i1), .val (.int cv), .val (.ref a4236), .unset, .val (.int ((192 : Int32) ||| (cv >>> ((6 : Int32) &&& 31)))), .val (.int ((128 : Int32) ||| (cv &&& (63 : Int32)))), .unset] [] rfl ?_
      rw [← hz4206]
      rw [← hz4212]
      refine own_new C S4260 (own_wd hw 229 rfl) (own_wd hw 12 rfl) (own_wd hw 4 rfl) (by decide +kernel) (by decide) (by decide) ?_
      intro T4264 h4266 a4267 S4265 g4268 E4269 x4270 D4271
      have f4272 : Fld Z h4266 a4267 "java/lang/String" "value" "[B" .null := D4271 (ty := (.array .byte)) (Or.inr (own_wd hw 25 rfl)) own_fd0
      have f4273 : Fld Z h4266 a4267 "java/lang/String" "coder" "B" (.int 0) := D4271 (ty := .byte) (Or.inr (own_wd hw 27 rfl)) own_fd1
      refine own_seg C S4265 [(132, .dup, 1), (133, .bipush 6, 2)] (by decide +kernel) 135 #[.val (.int i0), .val (.int i1), .val (.int cv), .val (.ref a4236), .unset, .val (.int z4206), .val (.int z4212), .unset] [(.int 6), (.ref a4267), (.ref a4267)] rfl ?_
      refine own_newP C S4265 (aty := .char) (own_wd hw 230 rfl) (by decide +kernel) (by decide) 6 (by decide) (by decide) (by decide) (by decide) ?_
      intro T4274 h4276 a4277 k4278 S4275 g4279 E4280 f4281 
      have f4282 : Arv Z h4276 a4277 k4278 .char (6 : Int32) ([(.int 0), (.int 0), (.int 0), (.int 0), (.int 0), (.int 0)]) (.int 0) := Arv.pad f4281 (pad_rep [] (.int 0) 6)
      refine own_seg C S4275 [(137, .dup, 1), (138, .iconst 0, 1), (139, .bipush 37, 2)] (by decide +kernel) 141 #[.val (.int i0), .val (.int i1), .val (.int cv), .val (.ref a4236), .unset, .val (.int z4206), .val (.int z4212), .unset] [(.int 37), (.int 0), (.ref a4277), (.ref a4277), (.ref a4267), (.ref a4267)] rfl ?_
      have f4283 : n0 ≤ h4266.size := (Nat.le_trans (Nat.le_trans f4235 K4241.1) E4269.1)
      have g4284 : n0 ≤ a4277 := by rw [g4279]; exact f4283
      refine own_castore C S4275 f4282 ⟨(by decide), (by decide)⟩ 0 rfl (Nat.le_of_ble_eq_true rfl) (37 : Int32) (by decide) g4284 (by decide +kernel) ?_
      intro T4285 h4287 S4286 W4288 f4289
      have f4290 : Arv Z h4287 a4277 k4278 .char (6 : Int32) ([(.int 37), (.int 0), (.int 0), (.int 0), (.int 0), (.int 0)]) (.int 0) := f4289
      refine own_seg C S4286 [(142, .dup, 1), (143, .iconst 1, 1), (144, .iload 5, 2), (146, .iconst 4, 1), (147, .ishr, 1)] (by decide +kernel) 148 #[.val (.int i0), .val (.int i1), .val (.int cv), .val (.ref a4236), .unset, .val (.int z4206), .val (.int z4212), .unset] [(.int (z4206 >>> ((4 : Int32) &&& 31))), (.int 1), (.ref a4277), (.ref a4277), (.ref a4267), (.ref a4267)] rfl ?_
      have f4291 : n0 ≤ h4287.size := (by rw [W4288.size]; exact (Nat.le_trans f4283 E4280.1))
      refine own_callS C S4286 (own_wd hw 231 rfl) (own_wd hw 232 rfl) (own_wd hw 227 rfl) (own_wd hw 233 rfl) (by decide) (own_Met.pay (own_hex l Z a0 hw (z4206 >>> ((4 : Int32) &&& 31)) h4287 n0 f4291 ((own_d4 hb4207).1)) C 5 (own_wd hw 233 rfl) (own_wd hw 227 rfl) (by decide) (by decide)) (fun _ _ _ q => q.2) [(.int (z4206 >>> ((4 : Int32) &&& 31)))] [(.int 1), (.ref a4277), (.ref a4277), (.ref a4267), (.ref a4267)] rfl own_pd32 rfl rfl rfl (Nat.le_of_ble_eq_true rfl) (by decide) (by decide) (by decide +kernel) ?_
      rintro T4293 h4294 v4295 L4296 S4297 ⟨⟨rfl, e4292⟩, -⟩
      rw [e4292] at S4297; clear e4292
      show own_Go p e below _ T4293 (mkF m 151 #[.val (.int i0), .val (.int i1), .val (.int cv), .val (.ref a4236), .unset, .val (.int z4206), .val (.int z4212), .unset] [(.int (own_hx (z4206 >>> ((4 : Int32) &&& 31)))), (.int 1), (.ref a4277), (.ref a4277), (.ref a4267), (.ref a4267)])
      rw [← hy4208]
      refine own_castore C S4297 f4290 ⟨(by decide), (by decide)⟩ 1 rfl (Nat.le_of_ble_eq_true rfl) y4208 (own_c16 hb4209) g4284 (by decide +kernel) ?_
      intro T4298 h4300 S4299 W4301 f4302
      have f4303 : Arv Z h4300 a4277 k4278 .char (6 : Int32) ([(.int 37), (.int y4208), (.int 0), (.int 0), (.int 0), (.int 0)]) (.int 0) := f4302
      refine own_seg C S4299 [(152, .dup, 1), (153, .iconst 2, 1), (154, .iload 5, 2), (156, .bipush 15, 2), (158, .iand, 1)] (by decide +kernel) 159 #[.val (.int i0), .val (.int i1), .val (.int cv), .val (.ref a4236), .unset, .val (.int z4206), .val (.int z4212), .unset] [(.int (z4206 &&& (15 : Int32))), (.int 2), (.ref a4277), (.ref a4277), (.ref a4267), (.ref a4267)] rfl ?_
      have f4304 : n0 ≤ h4300.size := (by rw [W4301.size]; exact f4291)
      refine own_callS C S4299 (own_wd hw 231 rfl) (own_wd hw 232 rfl) (own_wd hw 227 rfl) (own_wd hw 233 rfl) (by decide) (own_Met.pay (own_hex l Z a0 hw (z4206 &&& (15 : Int32)) h4300 n0 f4304 ((own_d4 hb4207).2)) C 5 (own_wd hw 233 rfl) (own_wd hw 227 rfl) (by decide) (by decide)) (fun _ _ _ q => q.2) [(.int (z4206 &&& (15 : Int32)))] [(.int 2), (.ref a4277), (.ref a4277), (.ref a4267), (.ref a4267)] rfl own_pd32 rfl rfl rfl (Nat.le_of_ble_eq_true rfl) (by decide) (by decide) (by decide +kernel) ?_
      rintro T4306 h4307 v4308 L4309 S4310 ⟨⟨rfl, e4305⟩, -⟩
      rw [e4305] at S4310; clear e4305
      show own_Go p e below _ T4306 (mkF m 162 #[.val (.int i0), .val (.int i1), .val (.int cv), .val (.ref a4236), .unset, .val (.int z4206), .val (.int z4212), .unset] [(.int (own_hx (z4206 &&& (15 : Int32)))), (.int 2), (.ref a4277), (.ref a4277), (.ref a4267), (.ref a4267)])
      rw [← hy4210]
      refine own_castore C S4310 f4303 ⟨(by decide), (by decide)⟩ 2 rfl (Nat.le_of_ble_eq_true rfl) y4210 (own_c16 hb4211) g4284 (by decide +kernel) ?_
      intro T4311 h4313 S4312 W4314 f4315
      have f4316 : Arv Z h4313 a4277 k4278 .char (6 : Int32) ([(.int 37), (.int y4208), (.int y4210), (.int 0), (.int 0), (.int 0)]) (.int 0) := f4315
      refine own_seg C S4312 [(163, .dup, 1), (164, .iconst 3, 1), (165, .bipush 37, 2)] (by decide +kernel) 167 #[.val (.int i0), .val (.int i1), .val (.int cv), .val (.ref a4236), .unset, .val (.int z4206), .val (.int z4212), .unset] [(.int 37), (.int 3), (.ref a4277), (.ref a4277), (.ref a4267), (.ref a4267)] rfl ?_
      refine own_castore C S4312 f4316 ⟨(by decide), (by decide)⟩ 3 rfl (Nat.le_of_ble_eq_true rfl) (37 : Int32) (by decide) g4284 (by decide +kernel) ?_
      intro T4317 h4319 S4318 W4320 f4321
      have f4322 : Arv Z h4319 a4277 k4278 .char (6 : Int32) ([(.int 37), (.int y4208), (.int y4210), (.int 37), (.int 0), (.int 0)]) (.int 0) := f4321
      refine own_seg C S4318 [(168, .dup, 1), (169, .iconst 4, 1), (170, .iload 6, 2), (172, .iconst 4, 1), (173, .ishr, 1)] (by decide +kernel) 174 #[.val (.int i0), .val (.int i1), .val (.int cv), .val (.ref a4236), .unset, .val (.int z4206), .val (.int z4212), .unset] [(.int (z4212 >>> ((4 : Int32) &&& 31))), (.int 4), (.ref a4277), (.ref a4277), (.ref a4267), (.ref a4267)] rfl ?_
      have f4323 : n0 ≤ h4319.size := (by rw [W4320.size]; exact (by rw [W4314.size]; exact f4304))
      refine own_callS C S4318 (own_wd hw 231 rfl) (own_wd hw 232 rfl) (own_wd hw 227 rfl) (own_wd hw 233 rfl) (by decide) (own_Met.pay (own_hex l Z a0 hw (z4212 >>> ((4 : Int32) &&& 31)) h4319 n0 f4323 ((own_d4 hb4213).1)) C 5 (own_wd hw 233 rfl) (own_wd hw 227 rfl) (by decide) (by decide)) (fun _ _ _ q => q.2) [(.int (z4212 >>> ((4 : Int32) &&& 31)))] [(.int 4), (.ref a4277), (.ref a4277), (.ref a4267), (.ref a4267)] rfl own_pd32 rfl rfl rfl (Nat.le_of_ble_eq_true rfl) (by decide) (by decide) (by decide +kernel) ?_
      rintro T4325 h4326 v4327 L4328 S4329 ⟨⟨rfl, e4324⟩, -⟩
      rw [e4324] at S4329; clear e4324
      show own_Go p e below _ T4325 (mkF m 177 #[.val (.int i0), .val (.int i1), .val (.int cv), .val (.ref a4236), .unset, .val (.int z4206), .val (.int z4212), .unset] [(.int (own_hx (z4212 >>> ((4 : Int32) &&& 31)))), (.int 4), (.ref a4277), (.ref a4277), (.ref a4267), (.ref a4267)])
      rw [← hy4214]
      refine own_castore C S4329 f4322 ⟨(by decide), (by decide)⟩ 4 rfl (Nat.le_of_ble_eq_true rfl) y4214 (own_c16 hb4215) g4284 (by decide +kernel) ?_
      intro T4330 h4332 S4331 W4333 f4334
      have f4335 : Arv Z h4332 a4277 k4278 .char (6 : Int32) ([(.int 37), (.int y4208), (.int y4210), (.int 37), (.int y4214), (.int 0)]) (.int 0) := f4334
      refine own_seg C S4331 [(178, .dup, 1), (179, .iconst 5, 1), (180, .iload 6, 2), (182, .bipush 15, 2), (184, .iand, 1)] (by decide +kernel) 185 #[.val (.int i0), .val (.int i1), .val (.int cv), .val (.ref a4236), .unset, .val (.int z4206), .val (.int z4212), .unset] [(.int (z4212 &&& (15 : Int32))), (.int 5), (.ref a4277), (.ref a4277), (.ref a4267), (.ref a4267)] rfl ?_
      have f4336 : n0 ≤ h4332.size := (by rw [W4333.size]; exact f4323)
      refine own_callS C S4331 (own_wd hw 231 rfl) (own_wd hw 232 rfl) (own_wd hw 227 rfl) (own_wd hw 233 rfl) (by decide) (own_Met.pay (own_hex l Z a0 hw (z4212 &&& (15 : Int32)) h4332 n0 f4336 ((own_d4 hb4213).2)) C 5 (own_wd hw 233 rfl) (own_wd hw 227 rfl) (by decide) (by decide)) (fun _ _ _ q => q.2) [(.int (z4212 &&& (15 : Int32)))] [(.int 5), (.ref a4277), (.ref a4277), (.ref a4267), (.ref a4267)] rfl own_pd32 rfl rfl rfl (Nat.le_of_ble_eq_true rfl) (by decide) (by decide) (by decide +kernel) ?_
      rintro T4338 h4339 v4340 L4341 S4342 ⟨⟨rfl, e4337⟩, -⟩
      rw [e4337] at S4342; clear e4337
      show own_Go p e below _ T4338 (mkF m 188 #[.val (.int i0), .val (.int i1), .val (.int cv), .val (.ref a4236), .unset, .val (.int z4206), .val (.int z4212), .unset] [(.int (own_hx (z4212 &&& (15 : Int32)))), (.int 5), (.ref a4277), (.ref a4277), (.ref a4267), (.ref a4267)])
      rw [← hy4216]
      refine own_castore C S4342 f4335 ⟨(by decide), (by decide)⟩ 5 rfl (Nat.le_of_ble_eq_true rfl) y4216 (own_c16 hb4217) g4284 (by decide +kernel) ?_
      intro T4343 h4345 S4344 W4346 f4347
      have f4348 : Arv Z h4345 a4277 k4278 .char (6 : Int32) ([(.int 37), (.int y4208), (.int y4210), (.int 37), (.int y4214), (.int y4216)]) (.int 0) := f4347
      have hp4349 : ∀ c ∈ ([(37 : Int32), y4208, y4210, (37 : Int32), y4214, y4216] : List Int32), ¬ c < 0 ∧ ¬ (255 : Int32) < c := by
        intro c hc; simp only [List.mem_cons, List.not_mem_nil, or_false] at hc
        rcases hc with rfl | rfl | rfl | rfl | rfl | rfl
        · exact (by decide)
        · exact hb4209
        · exact hb4211
        · exact (by decide)
        · exact hb4215
        · exact hb4217
      have f4350 : n0 ≤ h4345.size := (by rw [W4346.size]; exact f4336)
      have f4351 : n0 ≤ h4255.size := (Nat.le_trans f4235 K4241.1)
      have g4352 : n0 ≤ a4267 := by rw [g4268]; exact f4351
      have f4353 := (Exa.wr W4346 (Exa.wr W4333 (Exa.wr W4320 (Exa.wr W4314 (Exa.wr W4301 (Exa.wr W4288 (Exa.ext E4280 x4270)))))))
      have n4354 : a4267 ≠ a4277 := by rw [g4279]; exact Nat.ne_of_lt x4270.lt
      have f4355 := (Fld.other W4346 (Fld.other W4333 (Fld.other W4320 (Fld.other W4314 (Fld.other W4301 (Fld.other W4288 (Fld.ext E4280 f4272) (Or.inl n4354)) (Or.inl n4354)) (Or.inl n4354)) (Or.inl n4354)) (Or.inl n4354)) (Or.inl n4354))
      have f4356 := (Fld.other W4346 (Fld.other W4333 (Fld.other W4320 (Fld.other W4314 (Fld.other W4301 (Fld.other W4288 (Fld.ext E4280 f4273) (Or.inl n4354)) (Or.inl n4354)) (Or.inl n4354)) (Or.inl n4354)) (Or.inl n4354)) (Or.inl n4354))
      have f4357 := (((((((((f4234.keep K4241 all0).ext E4269).ext E4280).wr W4288 g4284).wr W4301 g4284).wr W4314 g4284).wr W4320 g4284).wr W4333 g4284).wr W4346 g4284)
      refine own_callI C S4344 rfl (own_wd hw 234 rfl) (own_wd hw 235 rfl) (own_wd hw 236 rfl) (by decide) (StrChars.Road.backV (W := 1) C.2.2.2.2.2.2.2 (fun d hd => hw d (own_hws d hd)) (kI := 4) (own_wd hw 12 rfl) (cs := ([(37 : Int32), y4208, y4210, (37 : Int32), y4214, y4216] : List Int32)) (bs := (([(37 : Int32), y4208, y4210, (37 : Int32), y4214, y4216] : List Int32)).map (fun c => c.toInt8.toInt32)) (n := 6) g4352 f4350 f4353 f4355 f4356 f4348 (O2.ext f4357.2) P5 rfl rfl (by decide) (by decide) hp4349 rfl (by decide) (by decide)) (fun _ _ _ q => q.2.1) [(.ref a4277)] [(.ref a4267)] rfl own_pd36 rfl rfl rfl (Nat.le_of_ble_eq_true rfl) (by decide) (by decide) (by decide +kernel) ?_
      rintro T4368 h4369 v4370 L4371 S4372 ⟨rfl, -, K4358, x4359, f4360, t4361, k4362, g4363, g4364, g4365, f4366, f4367⟩
      have f4373 : Arv Z h4369 t4361 k4362 .byte (6 : Int32) ([(.int ((37 : Int32).toInt8.toInt32)), (.int y4208.toInt8.toInt32), (.int y4210.toInt8.toInt32), (.int ((37 : Int32).toInt8.toInt32)), (.int y4214.toInt8.toInt32), (.int y4216.toInt8.toInt32)]) (.int 0) := f4367
      show own_Go p e below _ T4368 (mkF m 192 #[.val (.int i0), .val (.int i1), .val (.int cv), .val (.ref a4236), .unset, .val (.int z4206), .val (.int z4212), .unset] [(.ref a4267)])
      refine own_seg C S4372 [(192, .astore 4, 2), (194, .goto 130, 3)] (by decide +kernel) 324 #[.val (.int i0), .val (.int i1), .val (.int cv), .val (.ref a4236), .val (.ref a4267), .val (.int z4206), .val (.int z4212), .unset] [] rfl ?_
      refine own_seg C S4372 [(324, .aload_n 3, 1), (325, .aload 4, 2)] (by decide +kernel) 327 #[.val (.int i0), .val (.int i1), .val (.int cv), .val (.ref a4236), .val (.ref a4267), .val (.int z4206), .val (.int z4212), .unset] [(.ref a4267), (.ref a4236)] rfl ?_
      have f4374 := (f4357.keep K4358 (allS g4352 all0))
      have f4375 := ((Exa.wr W4346 (Exa.wr W4333 (Exa.wr W4320 (Exa.wr W4314 (Exa.wr W4301 (Exa.wr W4288 (Exa.ext E4280 (Exa.ext E4269 f4242)))))))).keep K4358)
      have f4376 : a4236 < h4266.size := (Nat.lt_of_lt_of_le f4242.lt E4269.1)
      have n4377 : a4236 ≠ a4277 := by rw [g4279]; exact Nat.ne_of_lt f4376
      have n4378 : a4236 ≠ a4267 := by rw [g4268]; exact Nat.ne_of_lt f4242.lt
      have f4379 := ((Fld.other W4346 (Fld.other W4333 (Fld.other W4320 (Fld.other W4314 (Fld.other W4301 (Fld.other W4288 (Fld.ext E4280 (Fld.ext E4269 f4244)) (Or.inl n4377)) (Or.inl n4377)) (Or.inl n4377)) (Or.inl n4377)) (Or.inl n4377)) (Or.inl n4377)).keep K4358 (ninS n4378 nin0))
      have f4380 := ((Fld.other W4346 (Fld.other W4333 (Fld.other W4320 (Fld.other W4314 (Fld.other W4301 (Fld.other W4288 (Fld.ext E4280 (Fld.ext E4269 f4243)) (Or.inl n4377)) (Or.inl n4377)) (Or.inl n4377)) (Or.inl n4377)) (Or.inl n4377)) (Or.inl n4377)).keep K4358 (ninS n4378 nin0))
      have f4381 : a4237 < h4266.size := (Nat.lt_of_lt_of_le f4245.lt E4269.1)
      have n4382 : a4237 ≠ a4277 := by rw [g4279]; exact Nat.ne_of_lt f4381
      have n4383 : a4237 ≠ a4267 := by rw [g4268]; exact Nat.ne_of_lt f4245.lt
      have f4384 := (((((((((f4245.ext E4269).ext E4280).other W4288 n4382).other W4301 n4382).other W4314 n4382).other W4320 n4382).other W4333 n4382).other W4346 n4382).keep K4358 (ninS n4383 nin0))
      have f4385 : n0 ≤ h4369.size := (Nat.le_trans f4350 K4358.1)
      refine own_callV C S4372 (own_wd hw 250 rfl) (own_wd hw 251 rfl) (own_wd hw 253 rfl) (own_wd hw 253 rfl) rfl (own_wd hw 252 rfl) (by decide) (own_Met.pay (own_seq l Z a0 hw G1 G3 a4236 a4267 _ _ _ _ ([(37 : Int32), y4208.toInt8.toInt32, y4210.toInt8.toInt32, (37 : Int32), y4214.toInt8.toInt32, y4216.toInt8.toInt32] : List Int32) h4369 n0 f4385 f4374 f4375 f4379 f4380 x4359 f4366 f4360 f4384 f4373 O2 O4 P5 rG3 (Nat.le_of_ble_eq_true rfl)) C 0 (own_wd hw 254 rfl) (own_wd hw 4 rfl) (by decide) (by decide)) (fun _ _ _ q => q.2) f4375 [(.ref a4267)] [] rfl own_pd35 rfl rfl rfl (Nat.le_of_ble_eq_true rfl) (by decide) (by decide) (by decide +kernel) ?_
      rintro T4387 h4388 v4389 L4390 S4391 ⟨⟨rfl, e4386⟩, -⟩
      rw [e4386] at S4391; clear e4386
      show own_Go p e below _ T4387 (mkF m 330 #[.val (.int i0), .val (.int i1), .val (.int cv), .val (.ref a4236), .val (.ref a4267), .val (.int z4206), .val (.int z4212), .unset] [(.int 1)])
      refine own_if C S4391 (q := .eq) (o := 18) (by decide +kernel) 348 (by decide) (by decide) (fun (hq : (1 : Int32) = (0 : Int32)) => False.elim (absurd hq (by decide))) (fun (q4392 : ¬ (1 : Int32) = (0 : Int32)) => ?_)
      have o4394 : h4255.size ≤ h4266.size := (Nat.le_trans (Nat.le_refl _) E4269.1)
      have o4393 : h4255.size ≤ a4277 := by rw [g4279]; exact o4394
      have o4395 : h4255.size ≤ a4267 := by rw [g4268]; exact (Nat.le_refl _)
      have o4397 : h4255.size ≤ h4345.size := (by rw [W4346.size]; exact (by rw [W4333.size]; exact (by rw [W4320.size]; exact (by rw [W4314.size]; exact (by rw [W4301.size]; exact (by rw [W4288.size]; exact (Nat.le_trans o4394 E4280.1)))))))
      have o4396 : h4255.size ≤ t4361 := Nat.le_trans o4397 g4364
      have f4398 : a4277 < h4369.size := (Nat.lt_of_lt_of_le (by rw [W4346.size]; exact (by rw [W4333.size]; exact (by rw [W4320.size]; exact (by rw [W4314.size]; exact (by rw [W4301.size]; exact (by rw [W4288.size]; exact f4282.lt)))))) K4358.1)
      have f4399 : a4267 < h4369.size := (Nat.lt_of_lt_of_le (by rw [W4346.size]; exact (by rw [W4333.size]; exact (by rw [W4320.size]; exact (by rw [W4314.size]; exact (by rw [W4301.size]; exact (by rw [W4288.size]; exact (Nat.lt_of_lt_of_le x4270.lt E4280.1))))))) K4358.1)
      have SW4400 := rb4261 _ _ _ _ [] [a4267, a4277, t4361] S4391 ((((((((((Keep.refl _ _).ext E4269).ext E4280).wr W4288 (Or.inr o4393)).wr W4301 (Or.inr o4393)).wr W4314 (Or.inr o4393)).wr W4320 (Or.inr o4393)).wr W4333 (Or.inr o4393)).wr W4346 (Or.inr o4393)).trans K4358 (allS (Or.inr o4395) all0)) all0 (allS ⟨o4395, f4399⟩ (allS ⟨o4393, f4398⟩ (allS ⟨o4396, f4373.lt⟩ all0)))
      refine own_ldcWE CW SW4400 (own_wd hw 258 rfl) (List.mem_of_getElem? (i := 2) rfl) (z := (0 : Int32)) (vs := []) ⟨by decide, by decide⟩ (by decide) rfl (by decide +kernel) 0 (by decide) (by decide) (by decide) (by decide) ?_
      intro T4401 h4402 a4403 b4404 k4405 SW4406 E4407 x4408 f4409 f4410 f4411 ne4412 x4413
      have f4414 := (f4374.ext E4407)
      have f4415 : n0 ≤ h4402.size := (Nat.le_trans f4385 E4407.1)
      refine own_callSW CW SW4406 (own_wd hw 28 rfl) (own_wd hw 29 rfl) (own_wd hw 30 rfl) (own_wd hw 31 rfl) (by decide) (own_enc0 l Z a0 hw hEL wS G1 G3 U8 a4403 _ _ h4402 n0 f4415 f4414 x4408 f4410 f4409 f4411 x4413 O2 O4 P5 rG3 OU1 OU2 OA OH OL) all0 0 (by decide) (by decide) [(.ref a4403)] [] rfl own_pd34 rfl rfl rfl (Nat.le_of_ble_eq_true rfl) (by decide) (by decide) (by decide +kernel) ?_
      rintro T4431 h4432 v4433 SW4434 hg4435 ⟨a4416, a4417, k4418, rfl, g4419, g4420, K4421, f4422, f4423, f4424, f4425⟩
      show own_Go p e below _ T4431 (mkF m 338 #[.val (.int i0), .val (.int i1), .val (.int cv), .val (.ref a4236), .val (.ref a4267), .val (.int z4206), .val (.int z4212), .unset] [(.ref a4416)])
      have f4436 : n0 ≤ h4432.size := (Nat.le_trans f4415 K4421.1)
      refine own_lift CW SW4434 ?_
      intro vm4443 C S4444 rb4445
      refine own_callV C S4444 (own_wd hw 261 rfl) (own_wd hw 262 rfl) (own_wd hw 264 rfl) (own_wd hw 264 rfl) rfl (own_wd hw 263 rfl) (by decide) (own_Met.pay (own_emp l Z a0 hw a4416 _ _ _ h4432 n0 f4436 f4422 f4424 f4425) C 0 (own_wd hw 265 rfl) (own_wd hw 4 rfl) (by decide) (by decide)) (fun _ _ _ q => q.2) f4422 [] [] rfl own_pd4 rfl rfl rfl (Nat.le_of_ble_eq_true rfl) (by decide) (by decide) (by decide +kernel) ?_
      rintro T4438 h4439 v4440 L4441 S4442 ⟨⟨rfl, e4437⟩, -⟩
      rw [e4437] at S4442; clear e4437
      show own_Go p e below _ T4438 (mkF m 341 #[.val (.int i0), .val (.int i1), .val (.int cv), .val (.ref a4236), .val (.ref a4267), .val (.int z4206), .val (.int z4212), .unset] [(.int 1)])
      refine own_if C S4442 (q := .eq) (o := 7) (by decide +kernel) 348 (by decide) (by decide) (fun (hq : (1 : Int32) = (0 : Int32)) => False.elim (absurd hq (by decide))) (fun (q4446 : ¬ (1 : Int32) = (0 : Int32)) => ?_)
      refine own_seg C S4442 [(344, .iconst 1, 1), (345, .goto 4, 3)] (by decide +kernel) 349 #[.val (.int i0), .val (.int i1), .val (.int cv), .val (.ref a4236), .val (.ref a4267), .val (.int z4206), .val (.int z4212), .unset] [(.int 1)] rfl ?_
      have SW4447 := rb4445 _ _ _ _ [] [] S4442 (Keep.refl _ _) all0 all0
      refine own_retZW CW SW4447 (by decide +kernel) (by decide) (by decide) (by decide) ?_
      rfl
    · obtain ⟨z4448, hz4448⟩ : ∃ y, y = ((224 : Int32) ||| (cv >>> ((12 : Int32) &&& 31))) := ⟨_, rfl⟩
      have hb4449 : ¬ z4448 < 0 ∧ ¬ (255 : Int32) < z4448 := by rw [hz4448]; exact (own_x3a hi0 hi1).1
      obtain ⟨y4450, hy4450⟩ : ∃ y, y = (own_hx (z4448 >>> ((4 : Int32) &&& 31))) := ⟨_, rfl⟩
      have hb4451 : ¬ y4450 < 0 ∧ ¬ (255 : Int32) < y4450 := by rw [hy4450]; exact own_hxB _
      obtain ⟨y4452, hy4452⟩ : ∃ y, y = (own_hx (z4448 &&& (15 : Int32))) := ⟨_, rfl⟩
      have hb4453 : ¬ y4452 < 0 ∧ ¬ (255 : Int32) < y4452 := by rw [hy4452]; exact own_hxB _
      obtain ⟨z4454, hz4454⟩ : ∃ y, y = ((128 : Int32) ||| ((cv >>> ((6 : Int32) &&& 31)) &&& (63 : Int32))) := ⟨_, rfl⟩
      have hb4455 : ¬ z4454 < 0 ∧ ¬ (255 : Int32) < z4454 := by rw [hz4454]; exact (own_xb (cv >>> ((6 : Int32) &&& 31))).1
      obtain ⟨y4456, hy4456⟩ : ∃ y, y = (own_hx (z4454 >>> ((4 : Int32) &&& 31))) := ⟨_, rfl⟩
      have hb4457 : ¬ y4456 < 0 ∧ ¬ (255 : Int32) < y4456 := by rw [hy4456]; exact own_hxB _
      obtain ⟨y4458, hy4458⟩ : ∃ y, y = (own_hx (z4454 &&& (15 : Int32))) := ⟨_, rfl⟩
      have hb4459 : ¬ y4458 < 0 ∧ ¬ (255 : Int32) < y4458 := by rw [hy4458]; exact own_hxB _
      obtain ⟨z4460, hz4460⟩ : ∃ y, y = ((128 : Int32) ||| (cv &&& (63 : Int32))) := ⟨_, rfl⟩
      have hb4461 : ¬ z4460 < 0 ∧ ¬ (255 : Int32) < z4460 := by rw [hz4460]; exact (own_xb cv).1
      obtain ⟨y4462, hy4462⟩ : ∃ y, y = (own_hx (z4460 >>> ((4 : Int32) &&& 31))) := ⟨_, rfl⟩
      have hb4463 : ¬ y4462 < 0 ∧ ¬ (255 : Int32) < y4462 := by rw [hy4462]; exact own_hxB _
      obtain ⟨y4464, hy4464⟩ : ∃ y, y = (own_hx (z4460 &&& (15 : Int32))) := ⟨_, rfl⟩
      have hb4465 : ¬ y4464 < 0 ∧ ¬ (255 : Int32) < y4464 := by rw [hy4464]; exact own_hxB _
      refine own_callS C S3616 (own_wd hw 2 rfl) (own_wd hw 3 rfl) (own_wd hw 4 rfl) (own_wd hw 5 rfl) (by decide) (own_Met.pay (own_voU l Z a0 hw G1 G3 U8 cv h0 n0 z0 X00 O2 O4 P5 rG3 OU1 OU2 OA OH OL q.1) C 0 (own_wd hw 5 rfl) (own_wd hw 4 rfl) (by decide) (by decide)) (fun _ _ _ q => q.2) [(.int cv)] [] rfl own_pd33 rfl rfl rfl (Nat.le_of_ble_eq_true rfl) (by decide) (by decide) (by decide +kernel) ?_
      rintro T4477 h4478 v4479 L4480 S4481 ⟨⟨a4466, a4467, k4468, rfl, g4469, g4470, K4471, f4472, f4473, f4474, f4475, f4476⟩, -⟩
      show own_Go p e below _ T4477 (mkF m 35 #[.val (.int i0), .val (.int i1), .val (.int cv), .unset, .unset, .unset, .unset, .unset] [(.ref a4466)])
      have f4482 := (X00.keep K4471 all0)
      have f4483 : n0 ≤ h4478.size := (Nat.le_trans z0 K4471.1)
      have o4499 : h0.size ≤ a4467 := Nat.le_trans (Nat.le_refl _) g4470
      have o4500 : h0.size ≤ a4466 := Nat.le_trans (Nat.le_refl _) g4469
      have SW4501 := rb3614 _ _ _ _ [] [a4466, a4467] S4481 ((Keep.refl _ _).trans K4471 all0) all0 (allS ⟨o4500, f4472.lt⟩ (allS ⟨o4499, f4475.lt⟩ all0))
      refine own_callSW CW SW4501 (own_wd hw 28 rfl) (own_wd hw 29 rfl) (own_wd hw 30 rfl) (own_wd hw 31 rfl) (by decide) (own_enc4 l Z a0 hw hEL wS G1 G3 U8 a4466 _ _ cv h4478 n0 f4483 f4482 f4472 f4473 f4474 f4475 f4476 O2 O4 P5 rG3 OU1 OU2 OA OH OL (⟨hi0, hi1⟩) ((own_b7 hc.1).2.2 q.1) q.2 hs) all0 0 (by decide) (by decide) [(.ref a4466)] [] rfl own_pd34 rfl rfl rfl (Nat.le_of_ble_eq_true rfl) (by decide) (by decide) (by decide +kernel) ?_
      rintro T4502 h4503 v4504 SW4505 hg4506 ⟨a4484, a4485, k4486, rfl, g4487, g4488, K4489, f4490, f4491, f4492, f4493⟩
      show own_Go p e below _ T4502 (mkF m 38 #[.val (.int i0), .val (.int i1), .val (.int cv), .unset, .unset, .unset, .unset, .unset] [(.ref a4484)])
      rw [← hz4448, ← hz4454, ← hz4460, ← hy4450, ← hy4452, ← hy4456, ← hy4458, ← hy4462, ← hy4464] at f4493
      refine own_lift CW SW4505 ?_
      intro vm4507 C S4508 rb4509
      refine own_seg C S4508 [(38, .astore_n 3, 1), (39, .iload_n 2, 1), (40, .sipush 128, 3)] (by decide +kernel) 43 #[.val (.int i0), .val (.int i1), .val (.int cv), .val (.ref a4484), .unset, .unset, .unset, .unset] [(.int 128), (.int cv)] rfl ?_
      refine own_icmp C S4508 (q := .ge) (o := 59) (by decide +kernel) 102 (by decide) (by decide) (fun (q4510 : ¬ cv < (128 : Int32)) => ?_) (fun (hq : cv < (128 : Int32)) => False.elim (((own_b7 hc.1).2.2 q.1) hq))
      refine own_seg C S4508 [(102, .iload_n 2, 1), (103, .sipush 2048, 3)] (by decide +kernel) 106 #[.val (.int i0), .val (.int i1), .val (.int cv), .val (.ref a4484), .unset, .unset, .unset, .unset] [(.int 2048), (.int cv)] rfl ?_
      refine own_icmp C S4508 (q := .ge) (o := 91) (by decide +kernel) 197 (by decide) (by decide) (fun (q4511 : ¬ cv < (2048 : Int32)) => ?_) (fun (hq : cv < (2048 : Int32)) => False.elim (q.2 hq))
      refine own_seg C S4508 [(197, .sipush 224, 3), (200, .iload_n 2, 1), (201, .bipush 12, 2), (203, .ishr, 1), (204, .ior, 1), (205, .istore 5, 2), (207, .sipush 128, 3), (210, .iload_n 2, 1), (211, .bipush 6, 2), (213, .ishr, 1), (214, .bipush 63, 2), (216, .iand, 1), (217, .ior, 1), (218, .istore 6, 2), (220, .sipush 128, 3), (223, .iload_n 2, 1), (224, .bipush 63, 2), (226, .iand, 1), (227, .ior, 1), (228, .istore 7, 2)] (by decide +kernel) 230 #[.val (.int i0), .val (.int i1), .val (.int cv), .val (.ref a4484), .unset, .val (.int ((224 : Int32) ||| (cv >>> ((12 : Int32) &&& 31)))), .val (.int ((128 : Int32) ||| ((cv >>> ((6 : Int32) &&& 31)) &&& (63 : Int32)))), .val (.int ((128 : Int32) ||| (cv &&& (63 : Int32))))] [] rfl ?_
      rw [← hz4448]
      rw [← hz4454]
      rw [← hz4460]
      refine own_new C S4508 (own_wd hw 229 rfl) (own_wd hw 12 rfl) (own_wd hw 4 rfl) (by decide +kernel) (by decide) (by decide) ?_
      intro T4512 h4514 a4515 S4513 g4516 E4517 x4518 D4519
      have f4520 : Fld Z h4514 a4515 "java/lang/String" "value" "[B" .null := D4519 (ty := (.array .byte)) (Or.inr (own_wd hw 25 rfl)) own_fd0
      have f4521 : Fld Z h4514 a4515 "java/lang/String" "coder" "B" (.int 0) := D4519 (ty := .byte) (Or.inr (own_wd hw 27 rfl)) own_fd1
      refine own_seg C S4513 [(233, .dup, 1), (234, .bipush 9, 2)] (by decide +kernel) 236 #[.val (.int i0), .val (.int i1), .val (.int cv), .val (.ref a4484), .unset, .val (.int z4448), .val (.int z4454), .val (.int z4460)] [(.int 9), (.ref a4515), (.ref a4515)] rfl ?_
      refine own_newP C S4513 (aty := .char) (own_wd hw 230 rfl) (by decide +kernel) (by decide) 9 (by decide) (by decide) (by decide) (by decide) ?_
      intro T4522 h4524 a4525 k4526 S4523 g4527 E4528 f4529 
      have f4530 : Arv Z h4524 a4525 k4526 .char (9 : Int32) ([(.int 0), (.int 0), (.int 0), (.int 0), (.int 0), (.int 0), (.int 0), (.int 0), (.int 0)]) (.int 0) := Arv.pad f4529 (pad_rep [] (.int 0) 9)
      refine own_seg C S4523 [(238, .dup, 1), (239, .iconst 0, 1), (240, .bipush 37, 2)] (by decide +kernel) 242 #[.val (.int i0), .val (.int i1), .val (.int cv), .val (.ref a4484), .unset, .val (.int z4448), .val (.int z4454), .val (.int z4460)] [(.int 37), (.int 0), (.ref a4525), (.ref a4525), (.ref a4515), (.ref a4515)] rfl ?_
      have f4531 : n0 ≤ h4514.size := (Nat.le_trans (Nat.le_trans f4483 K4489.1) E4517.1)
      have g4532 : n0 ≤ a4525 := by rw [g4527]; exact f4531
      refine own_castore C S4523 f4530 ⟨(by decide), (by decide)⟩ 0 rfl (Nat.le_of_ble_eq_true rfl) (37 : Int32) (by decide) g4532 (by decide +kernel) ?_
      intro T4533 h4535 S4534 W4536 f4537
      have f4538 : Arv Z h4535 a4525 k4526 .char (9 : Int32) ([(.int 37), (.int 0), (.int 0), (.int 0), (.int 0), (.int 0), (.int 0), (.int 0), (.int 0)]) (.int 0) := f4537
      refine own_seg C S4534 [(243, .dup, 1), (244, .iconst 1, 1), (245, .iload 5, 2), (247, .iconst 4, 1), (248, .ishr, 1)] (by decide +kernel) 249 #[.val (.int i0), .val (.int i1), .val (.int cv), .val (.ref a4484), .unset, .val (.int z4448), .val (.int z4454), .val (.int z4460)] [(.int (z4448 >>> ((4 : Int32) &&& 31))), (.int 1), (.ref a4525), (.ref a4525), (.ref a4515), (.ref a4515)] rfl ?_
      have f4539 : n0 ≤ h4535.size := (by rw [W4536.size]; exact (Nat.le_trans f4531 E4528.1))
      refine own_callS C S4534 (own_wd hw 231 rfl) (own_wd hw 232 rfl) (own_wd hw 227 rfl) (own_wd hw 233 rfl) (by decide) (own_Met.pay (own_hex l Z a0 hw (z4448 >>> ((4 : Int32) &&& 31)) h4535 n0 f4539 ((own_d4 hb4449).1)) C 5 (own_wd hw 233 rfl) (own_wd hw 227 rfl) (by decide) (by decide)) (fun _ _ _ q => q.2) [(.int (z4448 >>> ((4 : Int32) &&& 31)))] [(.int 1), (.ref a4525), (.ref a4525), (.ref a4515), (.ref a4515)] rfl own_pd32 rfl rfl rfl (Nat.le_of_ble_eq_true rfl) (by decide) (by decide) (by decide +kernel) ?_
      rintro T4541 h4542 v4543 L4544 S4545 ⟨⟨rfl, e4540⟩, -⟩
      rw [e4540] at S4545; clear e4540
      show own_Go p e below _ T4541 (mkF m 252 #[.val (.int i0), .val (.int i1), .val (.int cv), .val (.ref a4484), .unset, .val (.int z4448), .val (.int z4454), .val (.int z4460)] [(.int (own_hx (z4448 >>> ((4 : Int32) &&& 31)))), (.int 1), (.ref a4525), (.ref a4525), (.ref a4515), (.ref a4515)])
      rw [← hy4450]
      refine own_castore C S4545 f4538 ⟨(by decide), (by decide)⟩ 1 rfl (Nat.le_of_ble_eq_true rfl) y4450 (own_c16 hb4451) g4532 (by decide +kernel) ?_
      intro T4546 h4548 S4547 W4549 f4550
      have f4551 : Arv Z h4548 a4525 k4526 .char (9 : Int32) ([(.int 37), (.int y4450), (.int 0), (.int 0), (.int 0), (.int 0), (.int 0), (.int 0), (.int 0)]) (.int 0) := f4550
      refine own_seg C S4547 [(253, .dup, 1), (254, .iconst 2, 1), (255, .iload 5, 2), (257, .bipush 15, 2), (259, .iand, 1)] (by decide +kernel) 260 #[.val (.int i0), .val (.int i1), .val (.int cv), .val (.ref a4484), .unset, .val (.int z4448), .val (.int z4454), .val (.int z4460)] [(.int (z4448 &&& (15 : Int32))), (.int 2), (.ref a4525), (.ref a4525), (.ref a4515), (.ref a4515)] rfl ?_
      have f4552 : n0 ≤ h4548.size := (by rw [W4549.size]; exact f4539)
      refine own_callS C S4547 (own_wd hw 231 rfl) (own_wd hw 232 rfl) (own_wd hw 227 rfl) (own_wd hw 233 rfl) (by decide) (own_Met.pay (own_hex l Z a0 hw (z4448 &&& (15 : Int32)) h4548 n0 f4552 ((own_d4 hb4449).2)) C 5 (own_wd hw 233 rfl) (own_wd hw 227 rfl) (by decide) (by decide)) (fun _ _ _ q => q.2) [(.int (z4448 &&& (15 : Int32)))] [(.int 2), (.ref a4525), (.ref a4525), (.ref a4515), (.ref a4515)] rfl own_pd32 rfl rfl rfl (Nat.le_of_ble_eq_true rfl) (by decide) (by decide) (by decide +kernel) ?_
      rintro T4554 h4555 v4556 L4557 S4558 ⟨⟨rfl, e4553⟩, -⟩
      rw [e4553] at S4558; clear e4553
      show own_Go p e below _ T4554 (mkF m 263 #[.val (.int i0), .val (.int i1), .val (.int cv), .val (.ref a4484), .unset, .val (.int z4448), .val (.int z4454), .val (.int z4460)] [(.int (own_hx (z4448 &&& (15 : Int32)))), (.int 2), (.ref a4525), (.ref a4525), (.ref a4515), (.ref a4515)])
      rw [← hy4452]
      refine own_castore C S4558 f4551 ⟨(by decide), (by decide)⟩ 2 rfl (Nat.le_of_ble_eq_true rfl) y4452 (own_c16 hb4453) g4532 (by decide +kernel) ?_
      intro T4559 h4561 S4560 W4562 f4563
      have f4564 : Arv Z h4561 a4525 k4526 .char (9 : Int32) ([(.int 37), (.int y4450), (.int y4452), (.int 0), (.int 0), (.int 0), (.int 0), (.int 0), (.int 0)]) (.int 0) := f4563
      refine own_seg C S4560 [(264, .dup, 1), (265, .iconst 3, 1), (266, .bipush 37, 2)] (by decide +kernel) 268 #[.val (.int i0), .val (.int i1), .val (.int cv), .val (.ref a4484), .unset, .val (.int z4448), .val (.int z4454), .val (.int z4460)] [(.int 37), (.int 3), (.ref a4525), (.ref a4525), (.ref a4515), (.ref a4515)] rfl ?_
      refine own_castore C S4560 f4564 ⟨(by decide), (by decide)⟩ 3 rfl (Nat.le_of_ble_eq_true rfl) (37 : Int32) (by decide) g4532 (by decide +kernel) ?_
      intro T4565 h4567 S4566 W4568 f4569
      have f4570 : Arv Z h4567 a4525 k4526 .char (9 : Int32) ([(.int 37), (.int y4450), (.int y4452), (.int 37), (.int 0), (.int 0), (.int 0), (.int 0), (.int 0)]) (.int 0) := f4569
      refine own_seg C S4566 [(269, .dup, 1), (270, .iconst 4, 1), (271, .iload 6, 2), (273, .iconst 4, 1), (274, .ishr, 1)] (by decide +kernel) 275 #[.val (.int i0), .val (.int i1), .val (.int cv), .val (.ref a4484), .unset, .val (.int z4448), .val (.int z4454), .val (.int z4460)] [(.int (z4454 >>> ((4 : Int32) &&& 31))), (.int 4), (.ref a4525), (.ref a4525), (.ref a4515), (.ref a4515)] rfl ?_
      have f4571 : n0 ≤ h4567.size := (by rw [W4568.size]; exact (by rw [W4562.size]; exact f4552))
      refine own_callS C S4566 (own_wd hw 231 rfl) (own_wd hw 232 rfl) (own_wd hw 227 rfl) (own_wd hw 233 rfl) (by decide) (own_Met.pay (own_hex l Z a0 hw (z4454 >>> ((4 : Int32) &&& 31)) h4567 n0 f4571 ((own_d4 hb4455).1)) C 5 (own_wd hw 233 rfl) (own_wd hw 227 rfl) (by decide) (by decide)) (fun _ _ _ q => q.2) [(.int (z4454 >>> ((4 : Int32) &&& 31)))] [(.int 4), (.ref a4525), (.ref a4525), (.ref a4515), (.ref a4515)] rfl own_pd32 rfl rfl rfl (Nat.le_of_ble_eq_true rfl) (by decide) (by decide) (by decide +kernel) ?_
      rintro T4573 h4574 v4575 L4576 S4577 ⟨⟨rfl, e4572⟩, -⟩
      rw [e4572] at S4577; clear e4572
      show own_Go p e below _ T4573 (mkF m 278 #[.val (.int i0), .val (.int i1), .val (.int cv), .val (.ref a4484), .unset, .val (.int z4448), .val (.int z4454), .val (.int z4460)] [(.int (own_hx (z4454 >>> ((4 : Int32) &&& 31)))), (.int 4), (.ref a4525), (.ref a4525), (.ref a4515), (.ref a4515)])
      rw [← hy4456]
      refine own_castore C S4577 f4570 ⟨(by decide), (by decide)⟩ 4 rfl (Nat.le_of_ble_eq_true rfl) y4456 (own_c16 hb4457) g4532 (by decide +kernel) ?_
      intro T4578 h4580 S4579 W4581 f4582
      have f4583 : Arv Z h4580 a4525 k4526 .char (9 : Int32) ([(.int 37), (.int y4450), (.int y4452), (.int 37), (.int y4456), (.int 0), (.int 0), (.int 0), (.int 0)]) (.int 0) := f4582
      refine own_seg C S4579 [(279, .dup, 1), (280, .iconst 5, 1), (281, .iload 6, 2), (283, .bipush 15, 2), (285, .iand, 1)] (by decide +kernel) 286 #[.val (.int i0), .val (.int i1), .val (.int cv), .val (.ref a4484), .unset, .val (.int z4448), .val (.int z4454), .val (.int z4460)] [(.int (z4454 &&& (15 : Int32))), (.int 5), (.ref a4525), (.ref a4525), (.ref a4515), (.ref a4515)] rfl ?_
      have f4584 : n0 ≤ h4580.size := (by rw [W4581.size]; exact f4571)
      refine own_callS C S4579 (own_wd hw 231 rfl) (own_wd hw 232 rfl) (own_wd hw 227 rfl) (own_wd hw 233 rfl) (by decide) (own_Met.pay (own_hex l Z a0 hw (z4454 &&& (15 : Int32)) h4580 n0 f4584 ((own_d4 hb4455).2)) C 5 (own_wd hw 233 rfl) (own_wd hw 227 rfl) (by decide) (by decide)) (fun _ _ _ q => q.2) [(.int (z4454 &&& (15 : Int32)))] [(.int 5), (.ref a4525), (.ref a4525), (.ref a4515), (.ref a4515)] rfl own_pd32 rfl rfl rfl (Nat.le_of_ble_eq_true rfl) (by decide) (by decide) (by decide +kernel) ?_
      rintro T4586 h4587 v4588 L4589 S4590 ⟨⟨rfl, e4585⟩, -⟩
      rw [e4585] at S4590; clear e4585
      show own_Go p e below _ T4586 (mkF m 289 #[.val (.int i0), .val (.int i1), .val (.int cv), .val (.ref a4484), .unset, .val (.int z4448), .val (.int z4454), .val (.int z4460)] [(.int (own_hx (z4454 &&& (15 : Int32)))), (.int 5), (.ref a4525), (.ref a4525), (.ref a4515), (.ref a4515)])
      rw [← hy4458]
      refine own_castore C S4590 f4583 ⟨(by decide), (by decide)⟩ 5 rfl (Nat.le_of_ble_eq_true rfl) y4458 (own_c16 hb4459) g4532 (by decide +kernel) ?_
      intro T4591 h4593 S4592 W4594 f4595
      have f4596 : Arv Z h4593 a4525 k4526 .char (9 : Int32) ([(.int 37), (.int y4450), (.int y4452), (.int 37), (.int y4456), (.int y4458), (.int 0), (.int 0), (.int 0)]) (.int 0) := f4595
      refine own_seg C S4592 [(290, .dup, 1), (291, .bipush 6, 2), (293, .bipush 37, 2)] (by decide +kernel) 295 #[.val (.int i0), .val (.int i1), .val (.int cv), .val (.ref a4484), .unset, .val (.int z4448), .val (.int z4454), .val (.int z4460)] [(.int 37), (.int 6), (.ref a4525), (.ref a4525), (.ref a4515), (.ref a4515)] rfl ?_
      refine own_castore C S4592 f4596 ⟨(by decide), (by decide)⟩ 6 rfl (Nat.le_of_ble_eq_true rfl) (37 : Int32) (by decide) g4532 (by decide +kernel) ?_
      intro T4597 h4599 S4598 W4600 f4601
      have f4602 : Arv Z h4599 a4525 k4526 .char (9 : Int32) ([(.int 37), (.int y4450), (.int y4452), (.int 37), (.int y4456), (.int y4458), (.int 37), (.int 0), (.int 0)]) (.int 0) := f4601
      refine own_seg C S4598 [(296, .dup, 1), (297, .bipush 7, 2), (299, .iload 7, 2), (301, .iconst 4, 1), (302, .ishr, 1)] (by decide +kernel) 303 #[.val (.int i0), .val (.int i1), .val (.int cv), .val (.ref a4484), .unset, .val (.int z4448), .val (.int z4454), .val (.int z4460)] [(.int (z4460 >>> ((4 : Int32) &&& 31))), (.int 7), (.ref a4525), (.ref a4525), (.ref a4515), (.ref a4515)] rfl ?_
      have f4603 : n0 ≤ h4599.size := (by rw [W4600.size]; exact (by rw [W4594.size]; exact f4584))
      refine own_callS C S4598 (own_wd hw 231 rfl) (own_wd hw 232 rfl) (own_wd hw 227 rfl) (own_wd hw 233 rfl) (by decide) (own_Met.pay (own_hex l Z a0 hw (z4460 >>> ((4 : Int32) &&& 31)) h4599 n0 f4603 ((own_d4 hb4461).1)) C 5 (own_wd hw 233 rfl) (own_wd hw 227 rfl) (by decide) (by decide)) (fun _ _ _ q => q.2) [(.int (z4460 >>> ((4 : Int32) &&& 31)))] [(.int 7), (.ref a4525), (.ref a4525), (.ref a4515), (.ref a4515)] rfl own_pd32 rfl rfl rfl (Nat.le_of_ble_eq_true rfl) (by decide) (by decide) (by decide +kernel) ?_
      rintro T4605 h4606 v4607 L4608 S4609 ⟨⟨rfl, e4604⟩, -⟩
      rw [e4604] at S4609; clear e4604
      show own_Go p e below _ T4605 (mkF m 306 #[.val (.int i0), .val (.int i1), .val (.int cv), .val (.ref a4484), .unset, .val (.int z4448), .val (.int z4454), .val (.int z4460)] [(.int (own_hx (z4460 >>> ((4 : Int32) &&& 31)))), (.int 7), (.ref a4525), (.ref a4525), (.ref a4515), (.ref a4515)])
      rw [← hy4462]
      refine own_castore C S4609 f4602 ⟨(by decide), (by decide)⟩ 7 rfl (Nat.le_of_ble_eq_true rfl) y4462 (own_c16 hb4463) g4532 (by decide +kernel) ?_
      intro T4610 h4612 S4611 W4613 f4614
      have f4615 : Arv Z h4612 a4525 k4526 .char (9 : Int32) ([(.int 37), (.int y4450), (.int y4452), (.int 37), (.int y4456), (.int y4458), (.int 37), (.int y4462), (.int 0)]) (.int 0) := f4614
      refine own_seg C S4611 [(307, .dup, 1), (308, .bipush 8, 2), (310, .iload 7, 2), (312, .bipush 15, 2), (314, .iand, 1)] (by decide +kernel) 315 #[.val (.int i0), .val (.int i1), .val (.int cv), .val (.ref a4484), .unset, .val (.int z4448), .val (.int z4454), .val (.int z4460)] [(.int (z4460 &&& (15 : Int32))), (.int 8), (.ref a4525), (.ref a4525), (.ref a4515), (.ref a4515)] rfl ?_
      have f4616 : n0 ≤ h4612.size := (by rw [W4613.size]; exact f4603)
      refine own_callS C S4611 (own_wd hw 231 rfl) (own_wd hw 232 rfl) (own_wd hw 227 rfl) (own_wd hw 233 rfl) (by decide) (own_Met.pay (own_hex l Z a0 hw (z4460 &&& (15 : Int32)) h4612 n0 f4616 ((own_d4 hb4461).2)) C 5 (own_wd hw 233 rfl) (own_wd hw 227 rfl) (by decide) (by decide)) (fun _ _ _ q => q.2) [(.int (z4460 &&& (15 : Int32)))] [(.int 8), (.ref a4525), (.ref a4525), (.ref a4515), (.ref a4515)] rfl own_pd32 rfl rfl rfl (Nat.le_of_ble_eq_true rfl) (by decide) (by decide) (by decide +kernel) ?_
      rintro T4618 h4619 v4620 L4621 S4622 ⟨⟨rfl, e4617⟩, -⟩
      rw [e4617] at S4622; clear e4617
      show own_Go p e below _ T4618 (mkF m 318 #[.val (.int i0), .val (.int i1), .val (.int cv), .val (.ref a4484), .unset, .val (.int z4448), .val (.int z4454), .val (.int z4460)] [(.int (own_hx (z4460 &&& (15 : Int32)))), (.int 8), (.ref a4525), (.ref a4525), (.ref a4515), (.ref a4515)])
      rw [← hy4464]
      refine own_castore C S4622 f4615 ⟨(by decide), (by decide)⟩ 8 rfl (Nat.le_of_ble_eq_true rfl) y4464 (own_c16 hb4465) g4532 (by decide +kernel) ?_
      intro T4623 h4625 S4624 W4626 f4627
      have f4628 : Arv Z h4625 a4525 k4526 .char (9 : Int32) ([(.int 37), (.int y4450), (.int y4452), (.int 37), (.int y4456), (.int y4458), (.int 37), (.int y4462), (.int y4464)]) (.int 0) := f4627
      have hp4629 : ∀ c ∈ ([(37 : Int32), y4450, y4452, (37 : Int32), y4456, y4458, (37 : Int32), y4462, y4464] : List Int32), ¬ c < 0 ∧ ¬ (255 : Int32) < c := by
        intro c hc; simp only [List.mem_cons, List.not_mem_nil, or_false] at hc
        rcases hc with rfl | rfl | rfl | rfl | rfl | rfl | rfl | rfl | rfl
        · exact (by decide)
        · exact hb4451
        · exact hb4453
        · exact (by decide)
        · exact hb4457
        · exact hb4459
        · exact (by decide)
        · exact hb4463
        · exact hb4465
      have f4630 : n0 ≤ h4625.size := (by rw [W4626.size]; exact f4616)
      have f4631 : n0 ≤ h4503.size := (Nat.le_trans f4483 K4489.1)
      have g4632 : n0 ≤ a4515 := by rw [g4516]; exact f4631
      have f4633 := (Exa.wr W4626 (Exa.wr W4613 (Exa.wr W4600 (Exa.wr W4594 (Exa.wr W4581 (Exa.wr W4568 (Exa.wr W4562 (Exa.wr W4549 (Exa.wr W4536 (Exa.ext E4528 x4518))))))))))
      have n4634 : a4515 ≠ a4525 := by rw [g4527]; exact Nat.ne_of_lt x4518.lt
      have f4635 := (Fld.other W4626 (Fld.other W4613 (Fld.other W4600 (Fld.other W4594 (Fld.other W4581 (Fld.other W4568 (Fld.other W4562 (Fld.other W4549 (Fld.other W4536 (Fld.ext E4528 f4520) (Or.inl n4634)) (Or.inl n4634)) (Or.inl n4634)) (Or.inl n4634)) (Or.inl n4634)) (Or.inl n4634)) (Or.inl n4634)) (Or.inl n4634)) (Or.inl n4634))
      have f4636 := (Fld.other W4626 (Fld.other W4613 (Fld.other W4600 (Fld.other W4594 (Fld.other W4581 (Fld.other W4568 (Fld.other W4562 (Fld.other W4549 (Fld.other W4536 (Fld.ext E4528 f4521) (Or.inl n4634)) (Or.inl n4634)) (Or.inl n4634)) (Or.inl n4634)) (Or.inl n4634)) (Or.inl n4634)) (Or.inl n4634)) (Or.inl n4634)) (Or.inl n4634))
      have f4637 := ((((((((((((f4482.keep K4489 all0).ext E4517).ext E4528).wr W4536 g4532).wr W4549 g4532).wr W4562 g4532).wr W4568 g4532).wr W4581 g4532).wr W4594 g4532).wr W4600 g4532).wr W4613 g4532).wr W4626 g4532)
      refine own_callI C S4624 rfl (own_wd hw 234 rfl) (own_wd hw 235 rfl) (own_wd hw 236 rfl) (by decide) (StrChars.Road.backV (W := 1) C.2.2.2.2.2.2.2 (fun d hd => hw d (own_hws d hd)) (kI := 4) (own_wd hw 12 rfl) (cs := ([(37 : Int32), y4450, y4452, (37 : Int32), y4456, y4458, (37 : Int32), y4462, y4464] : List Int32)) (bs := (([(37 : Int32), y4450, y4452, (37 : Int32), y4456, y4458, (37 : Int32), y4462, y4464] : List Int32)).map (fun c => c.toInt8.toInt32)) (n := 9) g4632 f4630 f4633 f4635 f4636 f4628 (O2.ext f4637.2) P5 rfl rfl (by decide) (by decide) hp4629 rfl (by decide) (by decide)) (fun _ _ _ q => q.2.1) [(.ref a4525)] [(.ref a4515)] rfl own_pd36 rfl rfl rfl (Nat.le_of_ble_eq_true rfl) (by decide) (by decide) (by decide +kernel) ?_
      rintro T4648 h4649 v4650 L4651 S4652 ⟨rfl, -, K4638, x4639, f4640, t4641, k4642, g4643, g4644, g4645, f4646, f4647⟩
      have f4653 : Arv Z h4649 t4641 k4642 .byte (9 : Int32) ([(.int ((37 : Int32).toInt8.toInt32)), (.int y4450.toInt8.toInt32), (.int y4452.toInt8.toInt32), (.int ((37 : Int32).toInt8.toInt32)), (.int y4456.toInt8.toInt32), (.int y4458.toInt8.toInt32), (.int ((37 : Int32).toInt8.toInt32)), (.int y4462.toInt8.toInt32), (.int y4464.toInt8.toInt32)]) (.int 0) := f4647
      show own_Go p e below _ T4648 (mkF m 322 #[.val (.int i0), .val (.int i1), .val (.int cv), .val (.ref a4484), .unset, .val (.int z4448), .val (.int z4454), .val (.int z4460)] [(.ref a4515)])
      refine own_seg C S4652 [(322, .astore 4, 2)] (by decide +kernel) 324 #[.val (.int i0), .val (.int i1), .val (.int cv), .val (.ref a4484), .val (.ref a4515), .val (.int z4448), .val (.int z4454), .val (.int z4460)] [] rfl ?_
      refine own_seg C S4652 [(324, .aload_n 3, 1), (325, .aload 4, 2)] (by decide +kernel) 327 #[.val (.int i0), .val (.int i1), .val (.int cv), .val (.ref a4484), .val (.ref a4515), .val (.int z4448), .val (.int z4454), .val (.int z4460)] [(.ref a4515), (.ref a4484)] rfl ?_
      have f4654 := (f4637.keep K4638 (allS g4632 all0))
      have f4655 := ((Exa.wr W4626 (Exa.wr W4613 (Exa.wr W4600 (Exa.wr W4594 (Exa.wr W4581 (Exa.wr W4568 (Exa.wr W4562 (Exa.wr W4549 (Exa.wr W4536 (Exa.ext E4528 (Exa.ext E4517 f4490))))))))))).keep K4638)
      have f4656 : a4484 < h4514.size := (Nat.lt_of_lt_of_le f4490.lt E4517.1)
      have n4657 : a4484 ≠ a4525 := by rw [g4527]; exact Nat.ne_of_lt f4656
      have n4658 : a4484 ≠ a4515 := by rw [g4516]; exact Nat.ne_of_lt f4490.lt
      have f4659 := ((Fld.other W4626 (Fld.other W4613 (Fld.other W4600 (Fld.other W4594 (Fld.other W4581 (Fld.other W4568 (Fld.other W4562 (Fld.other W4549 (Fld.other W4536 (Fld.ext E4528 (Fld.ext E4517 f4492)) (Or.inl n4657)) (Or.inl n4657)) (Or.inl n4657)) (Or.inl n4657)) (Or.inl n4657)) (Or.inl n4657)) (Or.inl n4657)) (Or.inl n4657)) (Or.inl n4657)).keep K4638 (ninS n4658 nin0))
      have f4660 := ((Fld.other W4626 (Fld.other W4613 (Fld.other W4600 (Fld.other W4594 (Fld.other W4581 (Fld.other W4568 (Fld.other W4562 (Fld.other W4549 (Fld.other W4536 (Fld.ext E4528 (Fld.ext E4517 f4491)) (Or.inl n4657)) (Or.inl n4657)) (Or.inl n4657)) (Or.inl n4657)) (Or.inl n4657)) (Or.inl n4657)) (Or.inl n4657)) (Or.inl n4657)) (Or.inl n4657)).keep K4638 (ninS n4658 nin0))
      have f4661 : a4485 < h4514.size := (Nat.lt_of_lt_of_le f4493.lt E4517.1)
      have n4662 : a4485 ≠ a4525 := by rw [g4527]; exact Nat.ne_of_lt f4661
      have n4663 : a4485 ≠ a4515 := by rw [g4516]; exact Nat.ne_of_lt f4493.lt
      have f4664 := ((((((((((((f4493.ext E4517).ext E4528).other W4536 n4662).other W4549 n4662).other W4562 n4662).other W4568 n4662).other W4581 n4662).other W4594 n4662).other W4600 n4662).other W4613 n4662).other W4626 n4662).keep K4638 (ninS n4663 nin0))
      have f4665 : n0 ≤ h4649.size := (Nat.le_trans f4630 K4638.1)
      refine own_callV C S4652 (own_wd hw 250 rfl) (own_wd hw 251 rfl) (own_wd hw 253 rfl) (own_wd hw 253 rfl) rfl (own_wd hw 252 rfl) (by decide) (own_Met.pay (own_seq l Z a0 hw G1 G3 a4484 a4515 _ _ _ _ ([(37 : Int32), y4450.toInt8.toInt32, y4452.toInt8.toInt32, (37 : Int32), y4456.toInt8.toInt32, y4458.toInt8.toInt32, (37 : Int32), y4462.toInt8.toInt32, y4464.toInt8.toInt32] : List Int32) h4649 n0 f4665 f4654 f4655 f4659 f4660 x4639 f4646 f4640 f4664 f4653 O2 O4 P5 rG3 (Nat.le_of_ble_eq_true rfl)) C 0 (own_wd hw 254 rfl) (own_wd hw 4 rfl) (by decide) (by decide)) (fun _ _ _ q => q.2) f4655 [(.ref a4515)] [] rfl own_pd35 rfl rfl rfl (Nat.le_of_ble_eq_true rfl) (by decide) (by decide) (by decide +kernel) ?_
      rintro T4667 h4668 v4669 L4670 S4671 ⟨⟨rfl, e4666⟩, -⟩
      rw [e4666] at S4671; clear e4666
      show own_Go p e below _ T4667 (mkF m 330 #[.val (.int i0), .val (.int i1), .val (.int cv), .val (.ref a4484), .val (.ref a4515), .val (.int z4448), .val (.int z4454), .val (.int z4460)] [(.int 1)])
      refine own_if C S4671 (q := .eq) (o := 18) (by decide +kernel) 348 (by decide) (by decide) (fun (hq : (1 : Int32) = (0 : Int32)) => False.elim (absurd hq (by decide))) (fun (q4672 : ¬ (1 : Int32) = (0 : Int32)) => ?_)
      have o4674 : h4503.size ≤ h4514.size := (Nat.le_trans (Nat.le_refl _) E4517.1)
      have o4673 : h4503.size ≤ a4525 := by rw [g4527]; exact o4674
      have o4675 : h4503.size ≤ a4515 := by rw [g4516]; exact (Nat.le_refl _)
      have o4677 : h4503.size ≤ h4625.size := (by rw [W4626.size]; exact (by rw [W4613.size]; exact (by rw [W4600.size]; exact (by rw [W4594.size]; exact (by rw [W4581.size]; exact (by rw [W4568.size]; exact (by rw [W4562.size]; exact (by rw [W4549.size]; exact (by rw [W4536.size]; exact (Nat.le_trans o4674 E4528.1))))))))))
      have o4676 : h4503.size ≤ t4641 := Nat.le_trans o4677 g4644
      have f4678 : a4525 < h4649.size := (Nat.lt_of_lt_of_le (by rw [W4626.size]; exact (by rw [W4613.size]; exact (by rw [W4600.size]; exact (by rw [W4594.size]; exact (by rw [W4581.size]; exact (by rw [W4568.size]; exact (by rw [W4562.size]; exact (by rw [W4549.size]; exact (by rw [W4536.size]; exact f4530.lt))))))))) K4638.1)
      have f4679 : a4515 < h4649.size := (Nat.lt_of_lt_of_le (by rw [W4626.size]; exact (by rw [W4613.size]; exact (by rw [W4600.size]; exact (by rw [W4594.size]; exact (by rw [W4581.size]; exact (by rw [W4568.size]; exact (by rw [W4562.size]; exact (by rw [W4549.size]; exact (by rw [W4536.size]; exact (Nat.lt_of_lt_of_le x4518.lt E4528.1)))))))))) K4638.1)
      have SW4680 := rb4509 _ _ _ _ [] [a4515, a4525, t4641] S4671 (((((((((((((Keep.refl _ _).ext E4517).ext E4528).wr W4536 (Or.inr o4673)).wr W4549 (Or.inr o4673)).wr W4562 (Or.inr o4673)).wr W4568 (Or.inr o4673)).wr W4581 (Or.inr o4673)).wr W4594 (Or.inr o4673)).wr W4600 (Or.inr o4673)).wr W4613 (Or.inr o4673)).wr W4626 (Or.inr o4673)).trans K4638 (allS (Or.inr o4675) all0)) all0 (allS ⟨o4675, f4679⟩ (allS ⟨o4673, f4678⟩ (allS ⟨o4676, f4653.lt⟩ all0)))
      refine own_ldcWE CW SW4680 (own_wd hw 258 rfl) (List.mem_of_getElem? (i := 2) rfl) (z := (0 : Int32)) (vs := []) ⟨by decide, by decide⟩ (by decide) rfl (by decide +kernel) 0 (by decide) (by decide) (by decide) (by decide) ?_
      intro T4681 h4682 a4683 b4684 k4685 SW4686 E4687 x4688 f4689 f4690 f4691 ne4692 x4693
      have f4694 := (f4654.ext E4687)
      have f4695 : n0 ≤ h4682.size := (Nat.le_trans f4665 E4687.1)
      refine own_callSW CW SW4686 (own_wd hw 28 rfl) (own_wd hw 29 rfl) (own_wd hw 30 rfl) (own_wd hw 31 rfl) (by decide) (own_enc0 l Z a0 hw hEL wS G1 G3 U8 a4683 _ _ h4682 n0 f4695 f4694 x4688 f4690 f4689 f4691 x4693 O2 O4 P5 rG3 OU1 OU2 OA OH OL) all0 0 (by decide) (by decide) [(.ref a4683)] [] rfl own_pd34 rfl rfl rfl (Nat.le_of_ble_eq_true rfl) (by decide) (by decide) (by decide +kernel) ?_
      rintro T4711 h4712 v4713 SW4714 hg4715 ⟨a4696, a4697, k4698, rfl, g4699, g4700, K4701, f4702, f4703, f4704, f4705⟩
      show own_Go p e below _ T4711 (mkF m 338 #[.val (.int i0), .val (.int i1), .val (.int cv), .val (.ref a4484), .val (.ref a4515), .val (.int z4448), .val (.int z4454), .val (.int z4460)] [(.ref a4696)])
      have f4716 : n0 ≤ h4712.size := (Nat.le_trans f4695 K4701.1)
      refine own_lift CW SW4714 ?_
      intro vm4723 C S4724 rb4725
      refine own_callV C S4724 (own_wd hw 261 rfl) (own_wd hw 262 rfl) (own_wd hw 264 rfl) (own_wd hw 264 rfl) rfl (own_wd hw 263 rfl) (by decide) (own_Met.pay (own_emp l Z a0 hw a4696 _ _ _ h4712 n0 f4716 f4702 f4704 f4705) C 0 (own_wd hw 265 rfl) (own_wd hw 4 rfl) (by decide) (by decide)) (fun _ _ _ q => q.2) f4702 [] [] rfl own_pd4 rfl rfl rfl (Nat.le_of_ble_eq_true rfl) (by decide) (by decide) (by decide +kernel) ?_
      rintro T4718 h4719 v4720 L4721 S4722 ⟨⟨rfl, e4717⟩, -⟩
      rw [e4717] at S4722; clear e4717
      show own_Go p e below _ T4718 (mkF m 341 #[.val (.int i0), .val (.int i1), .val (.int cv), .val (.ref a4484), .val (.ref a4515), .val (.int z4448), .val (.int z4454), .val (.int z4460)] [(.int 1)])
      refine own_if C S4722 (q := .eq) (o := 7) (by decide +kernel) 348 (by decide) (by decide) (fun (hq : (1 : Int32) = (0 : Int32)) => False.elim (absurd hq (by decide))) (fun (q4726 : ¬ (1 : Int32) = (0 : Int32)) => ?_)
      refine own_seg C S4722 [(344, .iconst 1, 1), (345, .goto 4, 3)] (by decide +kernel) 349 #[.val (.int i0), .val (.int i1), .val (.int cv), .val (.ref a4484), .val (.ref a4515), .val (.int z4448), .val (.int z4454), .val (.int z4460)] [(.int 1)] rfl ?_
      have SW4727 := rb4725 _ _ _ _ [] [] S4722 (Keep.refl _ _) all0 all0
      refine own_retZW CW SW4727 (by decide +kernel) (by decide) (by decide) (by decide) ?_
      rfl
  have J16 : ∀ (T4728 : State) (cv : Int32), own_S p l e room_1 (s.setVm vm3612) m #[(.int i0), (.int i1)] below meth c n0 T4728 h0 0 0 → ¬ cv < 0 ∧ ¬ (65535 : Int32) < cv → own_Go p e below (own_EnW s n0 Z own_EL (fun v h => v = some (.int 1)) room_1.cells room_1.slots) T4728 (mkF m 16 #[.val (.int i0), .val (.int i1), .val (.int cv), .unset, .unset, .unset, .unset, .unset] []) := by
    intro T4728 cv S4729 hc
    refine own_seg C S4729 [(16, .iload_n 2, 1)] (by decide +kernel) 17 #[.val (.int i0), .val (.int i1), .val (.int cv), .unset, .unset, .unset, .unset, .unset] [(.int cv)] rfl ?_
    refine own_ldc C S4729 (own_wd hw 1 rfl) (by decide +kernel) ?_
    refine own_icmp C S4729 (q := .lt) (o := 11) (by decide +kernel) 30 (by decide) (by decide) (fun (q4730 : cv < 55296) => ?_) (fun (q4731 : ¬ cv < 55296) => ?_)
    · exact J30 T4728 cv S4729 hc (Or.inl q4730)
    · refine own_seg C S4729 [(22, .iload_n 2, 1)] (by decide +kernel) 23 #[.val (.int i0), .val (.int i1), .val (.int cv), .unset, .unset, .unset, .unset, .unset] [(.int cv)] rfl ?_
      refine own_ldc C S4729 (own_wd hw 294 rfl) (by decide +kernel) ?_
      refine own_icmp C S4729 (q := .gt) (o := 5) (by decide +kernel) 30 (by decide) (by decide) (fun (q4732 : 57343 < cv) => ?_) (fun (q4733 : ¬ 57343 < cv) => ?_)
      · exact J30 T4728 cv S4729 hc (Or.inr (own_57 q4732))
      · refine own_seg C S4729 [(28, .iconst 1, 1)] (by decide +kernel) 29 #[.val (.int i0), .val (.int i1), .val (.int cv), .unset, .unset, .unset, .unset, .unset] [(.int 1)] rfl ?_
        have SW4734 := rb3614 _ _ _ _ [] [] S4729 (Keep.refl _ _) all0 all0
        refine own_retZW CW SW4734 (by decide +kernel) (by decide) (by decide) (by decide) ?_
        rfl
  refine own_seg C S3613 [(0, .iload_n 0, 1)] (by decide +kernel) 1 #[.val (.int i0), .val (.int i1), .unset, .unset, .unset, .unset, .unset, .unset] [(.int i0)] rfl ?_
  refine own_ldc C S3613 (own_wd hw 0 rfl) (by decide +kernel) ?_
  refine own_seg C S3613 [(3, .iand, 1), (4, .istore_n 2, 1), (5, .iload_n 1, 1), (6, .iconst 1, 1), (7, .iand, 1)] (by decide +kernel) 8 #[.val (.int i0), .val (.int i1), .val (.int (i0 &&& 65535)), .unset, .unset, .unset, .unset, .unset] [(.int (i1 &&& (1 : Int32)))] rfl ?_
  refine own_if C S3613 (q := .eq) (o := 8) (by decide +kernel) 16 (by decide) (by decide) (fun (q4735 : (i1 &&& (1 : Int32)) = (0 : Int32)) => ?_) (fun (q4736 : ¬ (i1 &&& (1 : Int32)) = (0 : Int32)) => ?_)
  · exact J16 T0 (i0 &&& 65535) S3613 (own_m16 i0)
  · refine own_seg C S3613 [(11, .iload_n 2, 1), (12, .bipush 127, 2), (14, .iand, 1), (15, .istore_n 2, 1)] (by decide +kernel) 16 #[.val (.int i0), .val (.int i1), .val (.int ((i0 &&& 65535) &&& (127 : Int32))), .unset, .unset, .unset, .unset, .unset] [] rfl ?_
    exact J16 T0 ((i0 &&& 65535) &&& 127) S3613 (own_m7 _)
theorem own_sAt : ∀ a ∈ Bundle.stringAtoms, a ∈ tables_1 := by decide +kernel
set_option maxRecDepth 65536 in
theorem own_ELok {Z : State} {a0 : Array Value} (hw : ∀ d ∈ tables_1, d.before a0 Z = true) : EW Z a0 own_EL := (EW.cons (own_wd hw 152 rfl) (by decide) (EW.cons (own_wd hw 94 rfl) (by decide) (EW.cons (own_wd hw 258 rfl) (by decide) EW.nil)))
theorem comes_1 {Post : Tables → Env → Array Value → State → Outcome → State → Prop} (hpost : ∀ tb e args s v u, (limb_1_1.after args s (.returned v) u = true ∧ limb_1_2.after args s (.returned v) u = true ∧ True) → Jvm.D.FramedW s (.returned v) u (Jvm.fieldLocs frame_1_writes args s ++ Jvm.arrayLocs frame_1_arrays args s ++ Jvm.staticLocs frame_1_statics s) 56 3328 → Post tb e args s (.returned v) u) :
    ArmFor flags0 classFile x code maxLocals ret World_1 tables_1 room_1 Calls_1 rest_1 Pre_1 Post := by
  intro l hfl _ _ p e ha hc hk s m args below hf hA hF happ hP
  obtain ⟨hcalls, hrest, hpre⟩ := hP
  obtain ⟨-, -, -, hnamed, -, -, -, hat⟩ := (Spec.applies_iff hf).mp happ
  obtain ⟨hg, hn⟩ := and_e (Cond.before_iff.mp (show (Jvm.Cond.and given_1 narrow_1).before args s = true from hpre))
  obtain ⟨hcount, hk0⟩ := and_e hg
  obtain ⟨ha0, hk1⟩ := and_e hk0
  obtain ⟨w0, w1, rfl⟩ : ∃ w0 w1 : Value, args = #[w0, w1] := by
    have hs : args.size = 2 := by simpa [Cond.value, given_1] using hcount
    obtain ⟨L⟩ := args
    match L, hs with
    | [w0, w1], _ => exact ⟨w0, w1, rfl⟩
  have hw := fun d (hd : d ∈ tables_1) => atoms_spec (ws := Jvm.Cond.code x code maxLocals ret :: tables_1) hat d (List.mem_cons_of_mem _ hd)
  obtain ⟨i0, ei0⟩ := is_v ha0
  obtain rfl : w0 = (.int i0) := Option.some.inj ei0
  obtain ⟨i1, ei1⟩ := is_v hk1
  obtain rfl : w1 = (.int i1) := Option.some.inj ei1
  obtain ⟨hsets, hown0⟩ := atoms_of _ (rest_1_c_eq ▸ (show rest_1_c.before _ s = true from hrest))
  have nz := not_v (Cond.before_iff.mp (hsets _ (List.mem_of_getElem? (i := 2) rfl)))
  obtain ⟨g1, eg1⟩ := is_v (Cond.before_iff.mp (hsets _ (List.mem_of_getElem? (i := 1) rfl)))
  have O2 : Sta s s.heap "java/lang/String" "COMPACT_STRINGS" "Z" (.int g1) := Sta.start eg1 (Or.inl (hsets _ (List.mem_of_getElem? (i := 0) rfl)))
  obtain ⟨g3, eg3, rg3⟩ := isR_v (Cond.before_iff.mp (hsets _ (List.mem_of_getElem? (i := 8) rfl)))
  have O4 : Sta s s.heap "jdk/internal/util/Preconditions" "SIOOBE_FORMATTER" "Ljava/util/function/BiFunction;" g3 := Sta.start eg3 (Or.inl (hsets _ (List.mem_of_getElem? (i := 7) rfl)))
  have P5 : ¬ (g1 = (0 : Int32)) := gotF (Cond.eq_ints eg1 (Term.int_eval (0))) nz
  obtain ⟨U8, _, _, _, eU8, -⟩ := Cond.exactly_spec (hsets _ (List.mem_of_getElem? (i := 14) rfl))
  obtain ⟨yU, eU1, eU2⟩ := Cond.eq_one (hsets _ (List.mem_of_getElem? (i := 13) rfl))
  obtain rfl : yU = .ref U8 := Option.some.inj (eU1.symm.trans eU8)
  have OU1 := Sta.start eU8 (Or.inl (hsets _ (List.mem_of_getElem? (i := 10) rfl)))
  have OU2 := Sta.start eU2 (Or.inl (hsets _ (List.mem_of_getElem? (i := 12) rfl)))
  obtain ⟨yA, eA1, eA2⟩ := Cond.eq_one (hsets _ (List.mem_of_getElem? (i := 21) rfl))
  obtain rfl : yA = .int 1 := (Option.some.inj ((Term.int_eval 1).symm.trans eA2)).symm
  have OA := Sta.start eA1 (Or.inl (hsets _ (List.mem_of_getElem? (i := 20) rfl)))
  obtain ⟨yH, eH1, eH2⟩ := Cond.eq_one (hsets _ (List.mem_of_getElem? (i := 24) rfl))
  obtain rfl : yH = .int 0 := (Option.some.inj ((Term.int_eval 0).symm.trans eH2)).symm
  have OH := Sta.start eH1 (Or.inl (hsets _ (List.mem_of_getElem? (i := 23) rfl)))
  obtain ⟨yL, eL1, eL2⟩ := Cond.eq_one (hsets _ (List.mem_of_getElem? (i := 27) rfl))
  obtain rfl : yL = .int 8 := (Option.some.inj ((Term.int_eval 8).symm.trans eL2)).symm
  have OL := Sta.start eL1 (Or.inl (hsets _ (List.mem_of_getElem? (i := 26) rfl)))
  have hEL : EW s _ own_EL := own_ELok hw
  have wS : ∀ a ∈ Bundle.stringAtoms, a.before _ s = true := fun a ha => hw a (own_sAt a ha)
  have hCH : CHv s own_EL s.vm s.heap := CHv.start hEL (fun p hp => hcalls.1 p hp) (hsets _ (List.mem_of_getElem? (i := 2) rfl)) (own_wd hw 16 rfl) (own_wd hw 12 rfl)
  obtain ⟨n, o, g1, g2, g3, _, L, rfl, ⟨rfl, N⟩, -, hq⟩ := own_law l s _ hw hEL wS  g1 g3 U8 i0 i1 s.heap s.heap.size (Nat.le_refl _) (Old.start s)  O2 O4 P5 rg3 OU1 OU2 OA OH OL tables_1 p e ha hc hk s m _ below hf ((Spec.applies_iff_loose hf).mp happ).1 ⟨rfl, State.Warmed39.refl s, rfl, hCH, all0⟩ trivial
  refine ⟨n, _, g1, g2, g3, hpost _ _ _ _ _ _ ⟨Cond.after_iff.mpr rfl, Cond.after_iff.mpr (eq_i res_at (Term.int_eval (1)) rfl), trivial⟩ ⟨hq.1, hq.2.1, hq.2.2.1, (hq.2.2.2.sift fun y hy => Or.inr (N y hy)).mono (by decide) (by decide)⟩⟩
theorem main_1_1 : Claimed_1_1 := comes_1 fun _ _ _ _ _ _ h hF => ⟨h.1, hF⟩
theorem main_1_2 : Claimed_1_2 := comes_1 fun _ _ _ _ _ _ h hF => ⟨h.2.1, hF⟩
end Jvm.Pilot.@@N@@
namespace Jvm.Pilot.@@N@@
open Jvm Jvm.ClassFile Sem Op Lib Jvm.Free Jvm.Stand Jvm.Pilot.@@N@@.Jvm.D
/-! MADE BY PROGRAM (witnessworld.py) out of the Statement's table words and the real class files: 33 classes; the members and pool entries that the words name. The judged class is class 1, her method 1. -/
namespace start1
open Jvm.ClassFile
def u (s : String) : CpInfo := .utf8 (stringToUtf16 s)
/-- a pool by its gaps: so many unusable entries, then the entry; so many at the end -/
def gap : Nat → List CpInfo → List CpInfo
  | 0, r => r
  | n + 1, r => .unusable :: gap n r
def poolList (es : List (Nat × CpInfo)) (last : Nat) : List CpInfo := es.foldr (fun e r => gap e.1 (e.2 :: r)) (gap last [])
def pool (es : List (Nat × CpInfo)) (last : Nat) : Array CpInfo := ⟨poolList es last⟩
def fileOf (pool : Array CpInfo) (this : Nat) (attrs : Array Attribute := #[]) (ms : Array MethodInfo := #[]) (fl : Nat := 33) (sup : Nat := 0) (ifs : Array Nat := #[]) (fds : Array FieldInfo := #[]) : ClassFile where
  minorVersion := 0
  majorVersion := 65
  constantPool := pool
  accessFlags := fl
  thisClass := this
  superClass := sup
  interfaces := ifs
  fields := fds
  methods := ms
  attributes := attrs
def plain (name : String) (sup : Option ClassId) : Class where
  name := name
  kind := .ordinary
  loader := none
  accessFlags := 33
  super := sup
  interfaces := #[]
  cf := none
  fields := #[]
  methods := #[]
  instanceTypes := #[]
  staticTypes := #[]
  resolved := #[]
  callSites := []
  init := .initialized
  statics := none
  mirror := none

def pool0 : Array CpInfo := pool [(5, u "<init>"), (0, u "()V"), (1, .class_ 10), (1, u "java/lang/Object"), (85, u "clone"), (0, u "()Ljava/lang/Object;")] 26

def k0c0 : Code := { maxStack := 0, maxLocals := 1, code := object_method_1_code, exceptionTable := #[], attributes := #[] }
def k0m0 : Method := { name := "<init>", desc := "()V", sig := { parameters := [], returnType := none }, accessFlags := 1, code := some k0c0 }
def k0m1 : Method := { name := "clone", desc := "()Ljava/lang/Object;", sig := { parameters := [], returnType := some (.object "java/lang/Object") }, accessFlags := 260, code := none }
/-- java/lang/Object -/
def k0 : Class := { plain "java/lang/Object" none with
  accessFlags := 33
  interfaces := #[]
  cf := some (fileOf pool0 8 #[] #[{ accessFlags := 1, nameIndex := 5, descriptorIndex := 6, attributes := #[] }, { accessFlags := 260, nameIndex := 96, descriptorIndex := 97, attributes := #[] }] 33 0 #[] #[])
  fields := #[]
  methods := #[k0m0, k0m1]
  instanceTypes := #[]
  staticTypes := #[]
  resolved := Array.replicate 124 none
  statics := none }

def pool1 : Array CpInfo := pool [(2, .class_ 4), (1, u "java/lang/Object"), (0, u "<init>"), (0, u "()V"), (0, .integer 65535), (0, .integer 55296), (0, .integer 57343), (0, .methodref 11 12), (0, .class_ 13), (0, .nameAndType 14 15), (0, u "java/lang/String"), (0, u "valueOf"), (0, u "(C)Ljava/lang/String;"), (0, .methodref 17 18), (0, .class_ 19), (0, .nameAndType 20 21), (0, u "com/example/exact_rest/exactrest/PathSegments"), (0, u "encode"), (0, u "(Ljava/lang/String;)Ljava/lang/String;"), (0, .methodref 23 24), (0, .class_ 25), (0, .nameAndType 26 27), (0, u "com/example/exact_rest/exactrest/PathSegmentsEncodePinLaw"), (0, u "allowed"), (0, u "(I)Z"), (0, .methodref 23 29), (0, .nameAndType 30 31), (0, u "hex"), (0, u "(I)C"), (0, .methodref 11 33), (0, .nameAndType 5 34), (0, u "([C)V"), (0, .methodref 11 36), (0, .nameAndType 37 38), (0, u "equals"), (0, u "(Ljava/lang/Object;)Z"), (0, .string 40), (0, u ""), (0, .methodref 11 42), (0, .nameAndType 43 44), (0, u "isEmpty"), (0, u "()Z"), (2, u "law"), (0, u "(II)Z")] 3

def k1m0 : Method := { name := "<init>", desc := "()V", sig := { parameters := [], returnType := none }, accessFlags := 2, code := none }
def k1c1 : Code := { maxStack := 7, maxLocals := 8, code := code, exceptionTable := #[], attributes := #[] }
def k1m1 : Method := { name := "law", desc := "(II)Z", sig := { parameters := [.int, .int], returnType := some .boolean }, accessFlags := 9, code := some k1c1 }
def k1c2 : Code := { maxStack := 2, maxLocals := 1, code := method_3_code, exceptionTable := #[], attributes := #[] }
def k1m2 : Method := { name := "hex", desc := "(I)C", sig := { parameters := [.int], returnType := some .char }, accessFlags := 10, code := some k1c2 }
def k1c3 : Code := { maxStack := 2, maxLocals := 1, code := method_4_code, exceptionTable := #[], attributes := #[] }
def k1m3 : Method := { name := "allowed", desc := "(I)Z", sig := { parameters := [.int], returnType := some .boolean }, accessFlags := 10, code := some k1c3 }
/-- com/example/exact_rest/exactrest/PathSegmentsEncodePinLaw -/
def k1 : Class := { plain "com/example/exact_rest/exactrest/PathSegmentsEncodePinLaw" (some 0) with
  accessFlags := 49
  interfaces := #[]
  cf := some (fileOf pool1 23 #[] #[{ accessFlags := 2, nameIndex := 5, descriptorIndex := 6, attributes := #[] }, { accessFlags := 9, nameIndex := 47, descriptorIndex := 48, attributes := #[] }, { accessFlags := 10, nameIndex := 30, descriptorIndex := 31, attributes := #[] }, { accessFlags := 10, nameIndex := 26, descriptorIndex := 27, attributes := #[] }] 49 2 #[] #[])
  fields := #[]
  methods := #[k1m0, k1m1, k1m2, k1m3]
  instanceTypes := #[]
  staticTypes := #[]
  resolved := Array.replicate 52 none
  statics := none }

def pool2 : Array CpInfo := pool [(1, .class_ 2), (0, u "java/io/Serializable"), (0, .class_ 4), (0, u "java/lang/Object")] 2

/-- java/io/Serializable -/
def k2 : Class := { plain "java/io/Serializable" (some 0) with
  accessFlags := 1537
  interfaces := #[]
  cf := some (fileOf pool2 1 #[] #[] 1537 3 #[] #[])
  fields := #[]
  methods := #[]
  instanceTypes := #[]
  staticTypes := #[]
  resolved := Array.replicate 7 none
  statics := none }

def pool3 : Array CpInfo := pool [(1, .class_ 2), (0, u "java/lang/Comparable"), (0, .class_ 4), (0, u "java/lang/Object")] 7

/-- java/lang/Comparable -/
def k3 : Class := { plain "java/lang/Comparable" (some 0) with
  accessFlags := 1537
  interfaces := #[]
  cf := some (fileOf pool3 1 #[] #[] 1537 3 #[] #[])
  fields := #[]
  methods := #[]
  instanceTypes := #[]
  staticTypes := #[]
  resolved := Array.replicate 12 none
  statics := none }

def pool4 : Array CpInfo := pool [(2, .class_ 4), (1, u "java/lang/CharSequence"), (42, .class_ 48), (0, u "java/lang/CharSequence$1CodePointIterator"), (10, .class_ 60), (0, u "java/lang/CharSequence$1CharIterator"), (5, .class_ 67), (0, u "java/lang/Object")] 63

/-- java/lang/CharSequence -/
def k4 : Class := { plain "java/lang/CharSequence" (some 0) with
  accessFlags := 1537
  interfaces := #[]
  cf := some (fileOf pool4 2 #[.nestMembers #[47, 59]] #[] 1537 66 #[] #[])
  fields := #[]
  methods := #[]
  instanceTypes := #[]
  staticTypes := #[]
  resolved := Array.replicate 131 none
  statics := none }

def pool5 : Array CpInfo := pool [(1, .class_ 2), (0, u "java/lang/constant/Constable"), (0, .class_ 4), (0, u "java/lang/Object")] 6

/-- java/lang/constant/Constable -/
def k5 : Class := { plain "java/lang/constant/Constable" (some 0) with
  accessFlags := 1537
  interfaces := #[]
  cf := some (fileOf pool5 1 #[] #[] 1537 3 #[] #[])
  fields := #[]
  methods := #[]
  instanceTypes := #[]
  staticTypes := #[]
  resolved := Array.replicate 11 none
  statics := none }

def pool6 : Array CpInfo := pool [(1, .class_ 2), (0, u "java/lang/constant/ConstantDesc"), (0, .class_ 4), (0, u "java/lang/Object")] 32

/-- java/lang/constant/ConstantDesc -/
def k6 : Class := { plain "java/lang/constant/ConstantDesc" (some 0) with
  accessFlags := 1537
  interfaces := #[]
  cf := some (fileOf pool6 1 #[] #[] 1537 3 #[] #[])
  fields := #[]
  methods := #[]
  instanceTypes := #[]
  staticTypes := #[]
  resolved := Array.replicate 37 none
  statics := none }

def pool7 : Array CpInfo := pool [(1, .methodref 2 3), (0, .class_ 4), (0, .nameAndType 5 6), (0, u "java/lang/Object"), (0, u "<init>"), (0, u "()V"), (2, .fieldref 10 11), (0, .class_ 12), (0, .nameAndType 13 14), (0, u "java/lang/String"), (0, u "value"), (0, u "[B"), (0, .fieldref 10 16), (0, .nameAndType 17 18), (0, u "coder"), (0, u "B"), (2, u "hash"), (0, u "I"), (2, u "hashIsZero"), (0, u "Z"), (0, .methodref 10 28), (0, .nameAndType 5 29), (0, u "([CIILjava/lang/Void;)V"), (8, .fieldref 10 39), (0, .nameAndType 40 26), (0, u "COMPACT_STRINGS"), (1, .class_ 44), (1, u "java/lang/StringUTF16"), (0, u "compress"), (1, .methodref 42 48), (0, .nameAndType 49 50), (0, u "coderFromArrayLen"), (0, u "([BI)B"), (2, u "toBytes"), (0, .methodref 55 56), (0, .class_ 57), (0, .nameAndType 58 59), (0, u "java/util/Arrays"), (0, u "copyOfRange"), (0, u "([BII)[B"), (0, .methodref 42 61), (0, .nameAndType 62 63), (0, u "newBytesFor"), (0, u "(I)[B"), (22, .fieldref 87 88), (0, .class_ 89), (0, .nameAndType 90 91), (0, u "sun/nio/cs/UTF_8"), (0, u "INSTANCE"), (0, u "Lsun/nio/cs/UTF_8;"), (1, .class_ 95), (1, u "java/lang/StringCoding"), (6, .methodref 55 103), (0, .nameAndType 104 105), (0, u "copyOf"), (0, u "([BI)[B"), (1, .class_ 109), (1, u "java/lang/StringLatin1"), (18, .methodref 93 129), (0, .nameAndType 130 131), (0, u "hasNegatives"), (0, u "([BII)Z"), (10, u "()Z"), (34, .methodref 42 178), (0, .nameAndType 45 179), (0, u "([CII)[B"), (29, .methodref 10 210), (0, .nameAndType 5 211), (0, u "([BB)V"), (40, .methodref 10 253), (0, .nameAndType 254 255), (0, u "encodeUTF8"), (0, u "(B[BZ)[B"), (23, .methodref 280 281), (0, .class_ 14), (0, .nameAndType 282 283), (0, u "clone"), (0, u "()Ljava/lang/Object;"), (33, u "encode"), (16, u "()I"), (0, .methodref 10 336), (0, .nameAndType 17 337), (0, u "()B"), (2, u "()[B"), (19, .methodref 42 361), (0, .nameAndType 362 363), (0, u "getChar"), (0, u "([BI)C"), (1, .class_ 367), (1, u "java/lang/Character"), (1, u "(C)Z"), (21, u "(II)V"), (12, .methodref 365 405), (0, .nameAndType 406 369), (0, u "isSurrogate"), (20, u "(I)C"), (45, .methodref 10 474), (0, .nameAndType 475 476), (0, u "encodeUTF8_UTF16"), (0, u "([BZ)[B"), (12, .methodref 10 490), (0, .nameAndType 5 491), (0, u "(Ljava/lang/AbstractStringBuilder;Ljava/lang/Void;)V"), (0, .methodref 10 493), (0, .nameAndType 494 142), (0, u "isLatin1"), (0, .methodref 107 496), (0, .nameAndType 497 363), (0, u "charAt"), (3, u "checkIndex"), (3, .methodref 10 506), (0, .nameAndType 507 334), (0, u "length"), (24, u "getBytes"), (2, .methodref 10 536), (0, .nameAndType 317 537), (0, u "(Ljava/nio/charset/Charset;B[B)[B"), (3, .methodref 107 542), (0, .nameAndType 543 544), (0, u "equals"), (0, u "([B[B)Z"), (4, .methodref 550 506), (0, .class_ 551), (0, u "java/lang/AbstractStringBuilder"), (0, .methodref 550 553), (0, .nameAndType 554 340), (0, u "getValue"), (18, u "(Ljava/lang/Object;)Z"), (1, .class_ 576), (0, u "java/lang/CharSequence"), (22, u "CASE_INSENSITIVE_ORDER"), (0, u "Ljava/util/Comparator;"), (32, .methodref 10 634), (0, .nameAndType 635 636), (0, u "indexOf"), (0, u "(II)I"), (0, .methodref 107 638), (0, .nameAndType 635 639), (0, u "([BIII)I"), (52, u "isEmpty"), (72, u "(I)I"), (16, u "valueOf"), (0, u "(C)Ljava/lang/String;"), (226, u "([C)V"), (4, .methodref 107 1016), (0, .nameAndType 1017 369), (0, u "canEncode"), (0, .methodref 107 1019), (0, .nameAndType 53 1020), (0, u "(C)[B"), (0, .methodref 42 1019), (25, .methodref 550 493), (5, .fieldref 1054 1055), (0, .class_ 1056), (0, .nameAndType 1057 1058), (0, u "jdk/internal/util/Preconditions"), (0, u "SIOOBE_FORMATTER"), (0, u "Ljava/util/function/BiFunction;"), (0, .methodref 1054 1060), (0, .nameAndType 501 1061), (0, u "(IILjava/util/function/BiFunction;)I"), (39, u "serialPersistentFields"), (0, u "[Ljava/io/ObjectStreamField;"), (0, .class_ 1104), (0, u "java/lang/String$CaseInsensitiveComparator"), (1, .class_ 1107), (0, u "java/io/Serializable"), (0, .class_ 1109), (0, u "java/lang/Comparable"), (0, .class_ 1111), (0, u "java/lang/constant/Constable"), (0, .class_ 1113), (0, u "java/lang/constant/ConstantDesc"), (2, u "serialVersionUID"), (0, u "J"), (3, u "REPL"), (0, u "C"), (2, u "LATIN1"), (1, u "UTF16"), (105, u "(Ljava/lang/StringBuilder;)V"), (11, u "(Ljava/nio/charset/Charset;)[B")] 205

def k7m0 : Method := { name := "<init>", desc := "()V", sig := { parameters := [], returnType := none }, accessFlags := 1, code := none }
def k7c1 : Code := { maxStack := 5, maxLocals := 2, code := jdk_42_method_3_code, exceptionTable := #[], attributes := #[] }
def k7m1 : Method := { name := "<init>", desc := "([C)V", sig := { parameters := [(.array .char)], returnType := none }, accessFlags := 1, code := some k7c1 }
def k7c2 : Code := { maxStack := 4, maxLocals := 3, code := jdk_42_method_18_code, exceptionTable := #[], attributes := #[] }
def k7m2 : Method := { name := "encode", desc := "(Ljava/nio/charset/Charset;B[B)[B", sig := { parameters := [(.object "java/nio/charset/Charset"), .byte, (.array .byte)], returnType := some (.array .byte) }, accessFlags := 10, code := some k7c2 }
def k7c3 : Code := { maxStack := 5, maxLocals := 9, code := jdk_42_method_46_code, exceptionTable := #[], attributes := #[] }
def k7m3 : Method := { name := "encodeUTF8", desc := "(B[BZ)[B", sig := { parameters := [.byte, (.array .byte), .boolean], returnType := some (.array .byte) }, accessFlags := 10, code := some k7c3 }
def k7c4 : Code := { maxStack := 5, maxLocals := 9, code := jdk_42_method_47_code, exceptionTable := #[], attributes := #[] }
def k7m4 : Method := { name := "encodeUTF8_UTF16", desc := "([BZ)[B", sig := { parameters := [(.array .byte), .boolean], returnType := some (.array .byte) }, accessFlags := 10, code := some k7c4 }
def k7c5 : Code := { maxStack := 3, maxLocals := 2, code := jdk_42_method_53_code, exceptionTable := #[], attributes := #[] }
def k7m5 : Method := { name := "<init>", desc := "(Ljava/lang/StringBuilder;)V", sig := { parameters := [(.object "java/lang/StringBuilder")], returnType := none }, accessFlags := 1, code := some k7c5 }
def k7c6 : Code := { maxStack := 2, maxLocals := 1, code := jdk_42_method_54_code, exceptionTable := #[], attributes := #[] }
def k7m6 : Method := { name := "length", desc := "()I", sig := { parameters := [], returnType := some .int }, accessFlags := 1, code := some k7c6 }
def k7c7 : Code := { maxStack := 1, maxLocals := 1, code := jdk_42_method_55_code, exceptionTable := #[], attributes := #[] }
def k7m7 : Method := { name := "isEmpty", desc := "()Z", sig := { parameters := [], returnType := some .boolean }, accessFlags := 1, code := some k7c7 }
def k7c8 : Code := { maxStack := 2, maxLocals := 2, code := jdk_42_method_56_code, exceptionTable := #[], attributes := #[] }
def k7m8 : Method := { name := "charAt", desc := "(I)C", sig := { parameters := [.int], returnType := some .char }, accessFlags := 1, code := some k7c8 }
def k7c9 : Code := { maxStack := 3, maxLocals := 2, code := jdk_42_method_64_code, exceptionTable := #[], attributes := #[] }
def k7m9 : Method := { name := "getBytes", desc := "(Ljava/nio/charset/Charset;)[B", sig := { parameters := [(.object "java/nio/charset/Charset")], returnType := some (.array .byte) }, accessFlags := 1, code := some k7c9 }
def k7c10 : Code := { maxStack := 2, maxLocals := 3, code := jdk_42_method_66_code, exceptionTable := #[], attributes := #[] }
def k7m10 : Method := { name := "equals", desc := "(Ljava/lang/Object;)Z", sig := { parameters := [(.object "java/lang/Object")], returnType := some .boolean }, accessFlags := 1, code := some k7c10 }
def k7c11 : Code := { maxStack := 3, maxLocals := 2, code := jdk_42_method_79_code, exceptionTable := #[], attributes := #[] }
def k7m11 : Method := { name := "indexOf", desc := "(I)I", sig := { parameters := [.int], returnType := some .int }, accessFlags := 1, code := some k7c11 }
def k7c12 : Code := { maxStack := 4, maxLocals := 3, code := jdk_42_method_80_code, exceptionTable := #[], attributes := #[] }
def k7m12 : Method := { name := "indexOf", desc := "(II)I", sig := { parameters := [.int, .int], returnType := some .int }, accessFlags := 1, code := some k7c12 }
def k7c13 : Code := { maxStack := 4, maxLocals := 1, code := jdk_42_method_139_code, exceptionTable := #[], attributes := #[] }
def k7m13 : Method := { name := "valueOf", desc := "(C)Ljava/lang/String;", sig := { parameters := [.char], returnType := some (.object "java/lang/String") }, accessFlags := 9, code := some k7c13 }
def k7c14 : Code := { maxStack := 4, maxLocals := 6, code := jdk_42_method_149_code, exceptionTable := #[], attributes := #[] }
def k7m14 : Method := { name := "<init>", desc := "([CIILjava/lang/Void;)V", sig := { parameters := [(.array .char), .int, .int, (.object "java/lang/Void")], returnType := none }, accessFlags := 2, code := some k7c14 }
def k7c15 : Code := { maxStack := 5, maxLocals := 5, code := jdk_42_method_150_code, exceptionTable := #[], attributes := #[] }
def k7m15 : Method := { name := "<init>", desc := "(Ljava/lang/AbstractStringBuilder;Ljava/lang/Void;)V", sig := { parameters := [(.object "java/lang/AbstractStringBuilder"), (.object "java/lang/Void")], returnType := none }, accessFlags := 0, code := some k7c15 }
def k7c16 : Code := { maxStack := 2, maxLocals := 3, code := jdk_42_method_151_code, exceptionTable := #[], attributes := #[] }
def k7m16 : Method := { name := "<init>", desc := "([BB)V", sig := { parameters := [(.array .byte), .byte], returnType := none }, accessFlags := 0, code := some k7c16 }
def k7c17 : Code := { maxStack := 1, maxLocals := 1, code := jdk_42_method_152_code, exceptionTable := #[], attributes := #[] }
def k7m17 : Method := { name := "coder", desc := "()B", sig := { parameters := [], returnType := some .byte }, accessFlags := 0, code := some k7c17 }
def k7c18 : Code := { maxStack := 1, maxLocals := 1, code := jdk_42_method_154_code, exceptionTable := #[], attributes := #[] }
def k7m18 : Method := { name := "isLatin1", desc := "()Z", sig := { parameters := [], returnType := some .boolean }, accessFlags := 0, code := some k7c18 }
def k7c19 : Code := { maxStack := 3, maxLocals := 2, code := jdk_42_method_155_code, exceptionTable := #[], attributes := #[] }
def k7m19 : Method := { name := "checkIndex", desc := "(II)V", sig := { parameters := [.int, .int], returnType := none }, accessFlags := 8, code := some k7c19 }
/-- java/lang/String -/
def k7 : Class := { plain "java/lang/String" (some 0) with
  accessFlags := 49
  interfaces := #[2, 3, 4, 5, 6]
  cf := some (fileOf pool7 10 #[.nestMembers #[1103]] #[{ accessFlags := 1, nameIndex := 5, descriptorIndex := 6, attributes := #[] }, { accessFlags := 1, nameIndex := 5, descriptorIndex := 1010, attributes := #[] }, { accessFlags := 10, nameIndex := 317, descriptorIndex := 537, attributes := #[] }, { accessFlags := 10, nameIndex := 254, descriptorIndex := 255, attributes := #[] }, { accessFlags := 10, nameIndex := 475, descriptorIndex := 476, attributes := #[] }, { accessFlags := 1, nameIndex := 5, descriptorIndex := 1233, attributes := #[] }, { accessFlags := 1, nameIndex := 507, descriptorIndex := 334, attributes := #[] }, { accessFlags := 1, nameIndex := 692, descriptorIndex := 142, attributes := #[] }, { accessFlags := 1, nameIndex := 497, descriptorIndex := 427, attributes := #[] }, { accessFlags := 1, nameIndex := 532, descriptorIndex := 1245, attributes := #[] }, { accessFlags := 1, nameIndex := 543, descriptorIndex := 573, attributes := #[] }, { accessFlags := 1, nameIndex := 635, descriptorIndex := 765, attributes := #[] }, { accessFlags := 1, nameIndex := 635, descriptorIndex := 636, attributes := #[] }, { accessFlags := 9, nameIndex := 782, descriptorIndex := 783, attributes := #[] }, { accessFlags := 2, nameIndex := 5, descriptorIndex := 29, attributes := #[] }, { accessFlags := 0, nameIndex := 5, descriptorIndex := 491, attributes := #[] }, { accessFlags := 0, nameIndex := 5, descriptorIndex := 211, attributes := #[] }, { accessFlags := 0, nameIndex := 17, descriptorIndex := 337, attributes := #[] }, { accessFlags := 0, nameIndex := 494, descriptorIndex := 142, attributes := #[] }, { accessFlags := 8, nameIndex := 501, descriptorIndex := 391, attributes := #[] }] 49 2 #[1106, 1108, 575, 1110, 1112] #[{ accessFlags := 18, nameIndex := 13, descriptorIndex := 14, attributes := #[] }, { accessFlags := 18, nameIndex := 17, descriptorIndex := 18, attributes := #[] }, { accessFlags := 2, nameIndex := 21, descriptorIndex := 22, attributes := #[] }, { accessFlags := 2, nameIndex := 25, descriptorIndex := 26, attributes := #[] }, { accessFlags := 26, nameIndex := 1116, descriptorIndex := 1117, attributes := #[] }, { accessFlags := 24, nameIndex := 40, descriptorIndex := 26, attributes := #[] }, { accessFlags := 26, nameIndex := 1101, descriptorIndex := 1102, attributes := #[] }, { accessFlags := 26, nameIndex := 1121, descriptorIndex := 1122, attributes := #[] }, { accessFlags := 25, nameIndex := 599, descriptorIndex := 600, attributes := #[] }, { accessFlags := 24, nameIndex := 1125, descriptorIndex := 18, attributes := #[] }, { accessFlags := 24, nameIndex := 1127, descriptorIndex := 18, attributes := #[] }])
  fields := #[{ name := "value", type := (.array .byte), accessFlags := 18, slot := 0, constantValue := 0 }, { name := "coder", type := .byte, accessFlags := 18, slot := 1, constantValue := 0 }, { name := "hash", type := .int, accessFlags := 2, slot := 2, constantValue := 0 }, { name := "hashIsZero", type := .boolean, accessFlags := 2, slot := 3, constantValue := 0 }, { name := "serialVersionUID", type := .long, accessFlags := 26, slot := 0, constantValue := 0 }, { name := "COMPACT_STRINGS", type := .boolean, accessFlags := 24, slot := 1, constantValue := 0 }, { name := "serialPersistentFields", type := (.array (.object "java/io/ObjectStreamField")), accessFlags := 26, slot := 2, constantValue := 0 }, { name := "REPL", type := .char, accessFlags := 26, slot := 3, constantValue := 0 }, { name := "CASE_INSENSITIVE_ORDER", type := (.object "java/util/Comparator"), accessFlags := 25, slot := 4, constantValue := 0 }, { name := "LATIN1", type := .byte, accessFlags := 24, slot := 5, constantValue := 0 }, { name := "UTF16", type := .byte, accessFlags := 24, slot := 6, constantValue := 0 }]
  methods := #[k7m0, k7m1, k7m2, k7m3, k7m4, k7m5, k7m6, k7m7, k7m8, k7m9, k7m10, k7m11, k7m12, k7m13, k7m14, k7m15, k7m16, k7m17, k7m18, k7m19]
  instanceTypes := #[(.array .byte), .byte, .int, .boolean]
  staticTypes := #[.long, .boolean, (.array (.object "java/io/ObjectStreamField")), .char, (.object "java/util/Comparator"), .byte, .byte]
  resolved := Array.replicate 1451 none
  statics := some 0 }

def pool8 : Array CpInfo := pool [(1, .class_ 2), (0, u "java/lang/String"), (1, .class_ 6), (1, u "java/lang/Object"), (0, u "<init>"), (0, u "()V"), (0, .methodref 1 10), (0, .nameAndType 11 12), (0, u "checkIndex"), (0, u "(II)V"), (1, .class_ 16), (1, u "java/lang/StringLatin1"), (21, .methodref 39 40), (0, .class_ 41), (0, .nameAndType 42 43), (0, u "java/lang/Math"), (0, u "min"), (0, u "(II)I"), (9, u "([BI)C"), (34, .methodref 14 89), (0, .nameAndType 90 91), (0, u "canEncode"), (0, u "(I)Z"), (0, .methodref 39 93), (0, .nameAndType 94 43), (0, u "max"), (0, .methodref 14 96), (0, .nameAndType 97 98), (0, u "indexOfChar"), (0, u "([BIII)I"), (2, u "indexOf"), (3, u "(C)Z"), (15, u "$assertionsDisabled"), (0, u "Z"), (98, .class_ 223), (1, u "java/lang/StringLatin1$LinesSpliterator"), (28, u "charAt"), (28, u "equals"), (0, u "([B[B)Z"), (97, u "toBytes"), (1, u "(C)[B"), (7, .class_ 391), (0, u "java/lang/StringLatin1$CharsSpliterator")] 3

def k8m0 : Method := { name := "<init>", desc := "()V", sig := { parameters := [], returnType := none }, accessFlags := 0, code := none }
def k8c1 : Code := { maxStack := 2, maxLocals := 2, code := jdk_43_method_2_code, exceptionTable := #[], attributes := #[] }
def k8m1 : Method := { name := "charAt", desc := "([BI)C", sig := { parameters := [(.array .byte), .int], returnType := some .char }, accessFlags := 9, code := some k8c1 }
def k8c2 : Code := { maxStack := 2, maxLocals := 1, code := jdk_43_method_3_code, exceptionTable := #[], attributes := #[] }
def k8m2 : Method := { name := "canEncode", desc := "(C)Z", sig := { parameters := [.char], returnType := some .boolean }, accessFlags := 9, code := some k8c2 }
def k8c3 : Code := { maxStack := 2, maxLocals := 1, code := jdk_43_method_4_code, exceptionTable := #[], attributes := #[] }
def k8m3 : Method := { name := "canEncode", desc := "(I)Z", sig := { parameters := [.int], returnType := some .boolean }, accessFlags := 9, code := some k8c3 }
def k8c4 : Code := { maxStack := 3, maxLocals := 3, code := jdk_43_method_13_code, exceptionTable := #[], attributes := #[] }
def k8m4 : Method := { name := "equals", desc := "([B[B)Z", sig := { parameters := [(.array .byte), (.array .byte)], returnType := some .boolean }, accessFlags := 9, code := some k8c4 }
def k8c5 : Code := { maxStack := 4, maxLocals := 4, code := jdk_43_method_22_code, exceptionTable := #[], attributes := #[] }
def k8m5 : Method := { name := "indexOf", desc := "([BIII)I", sig := { parameters := [(.array .byte), .int, .int, .int], returnType := some .int }, accessFlags := 9, code := some k8c5 }
def k8c6 : Code := { maxStack := 2, maxLocals := 6, code := jdk_43_method_23_code, exceptionTable := #[], attributes := #[] }
def k8m6 : Method := { name := "indexOfChar", desc := "([BIII)I", sig := { parameters := [(.array .byte), .int, .int, .int], returnType := some .int }, accessFlags := 10, code := some k8c6 }
def k8c7 : Code := { maxStack := 4, maxLocals := 1, code := jdk_43_method_46_code, exceptionTable := #[], attributes := #[] }
def k8m7 : Method := { name := "toBytes", desc := "(C)[B", sig := { parameters := [.char], returnType := some (.array .byte) }, accessFlags := 9, code := some k8c7 }
/-- java/lang/StringLatin1 -/
def k8 : Class := { plain "java/lang/StringLatin1" (some 0) with
  accessFlags := 48
  interfaces := #[]
  cf := some (fileOf pool8 14 #[.nestMembers #[390, 221]] #[{ accessFlags := 0, nameIndex := 7, descriptorIndex := 8, attributes := #[] }, { accessFlags := 9, nameIndex := 252, descriptorIndex := 53, attributes := #[] }, { accessFlags := 9, nameIndex := 90, descriptorIndex := 105, attributes := #[] }, { accessFlags := 9, nameIndex := 90, descriptorIndex := 91, attributes := #[] }, { accessFlags := 9, nameIndex := 281, descriptorIndex := 282, attributes := #[] }, { accessFlags := 9, nameIndex := 101, descriptorIndex := 98, attributes := #[] }, { accessFlags := 10, nameIndex := 97, descriptorIndex := 98, attributes := #[] }, { accessFlags := 9, nameIndex := 380, descriptorIndex := 382, attributes := #[] }] 48 4 #[] #[{ accessFlags := 4120, nameIndex := 121, descriptorIndex := 122, attributes := #[] }])
  fields := #[{ name := "$assertionsDisabled", type := .boolean, accessFlags := 4120, slot := 0, constantValue := 0 }]
  methods := #[k8m0, k8m1, k8m2, k8m3, k8m4, k8m5, k8m6, k8m7]
  instanceTypes := #[]
  staticTypes := #[.boolean]
  resolved := Array.replicate 395 none
  statics := none }

def pool9 : Array CpInfo := pool [(2, .class_ 4), (1, u "java/lang/Object"), (0, u "<init>"), (0, u "()V"), (3, .class_ 12), (1, u "java/lang/String"), (11, .methodref 10 25), (0, .nameAndType 26 27), (0, u "length"), (0, u "()I"), (13, .class_ 43), (1, u "com/example/exact_rest/exactrest/PathSegments"), (16, .class_ 61), (0, u "java/lang/StringBuilder"), (0, .methodref 60 63), (0, .nameAndType 5 64), (0, u "(I)V"), (0, .fieldref 66 67), (0, .class_ 68), (0, .nameAndType 69 70), (0, u "java/nio/charset/StandardCharsets"), (0, u "UTF_8"), (0, u "Ljava/nio/charset/Charset;"), (0, .methodref 10 72), (0, .nameAndType 73 74), (0, u "getBytes"), (0, u "(Ljava/nio/charset/Charset;)[B"), (0, .methodref 41 76), (0, .nameAndType 77 78), (0, u "isPathCharacter"), (0, u "(C)Z"), (0, .methodref 60 80), (0, .nameAndType 81 82), (0, u "append"), (0, u "(C)Ljava/lang/StringBuilder;"), (0, .string 84), (0, u "0123456789ABCDEF"), (0, .methodref 10 86), (0, .nameAndType 87 88), (0, u "charAt"), (0, u "(I)C"), (0, .methodref 60 90), (0, .nameAndType 91 92), (0, u "toString"), (0, u "()Ljava/lang/String;"), (0, .string 94), (0, u "-._~!$&'()*+,;=:@"), (0, .methodref 10 96), (0, .nameAndType 97 98), (0, u "indexOf"), (0, u "(I)I"), (40, u "HEX"), (0, u "Ljava/lang/String;"), (8, u "encode"), (0, u "(Ljava/lang/String;)Ljava/lang/String;")] 3

def k9m0 : Method := { name := "<init>", desc := "()V", sig := { parameters := [], returnType := none }, accessFlags := 2, code := none }
def k9c1 : Code := { maxStack := 4, maxLocals := 7, code := prog_13_method_3_code, exceptionTable := #[], attributes := #[] }
def k9m1 : Method := { name := "encode", desc := "(Ljava/lang/String;)Ljava/lang/String;", sig := { parameters := [(.object "java/lang/String")], returnType := some (.object "java/lang/String") }, accessFlags := 8, code := some k9c1 }
def k9c2 : Code := { maxStack := 2, maxLocals := 1, code := prog_13_method_4_code, exceptionTable := #[], attributes := #[] }
def k9m2 : Method := { name := "isPathCharacter", desc := "(C)Z", sig := { parameters := [.char], returnType := some .boolean }, accessFlags := 10, code := some k9c2 }
/-- com/example/exact_rest/exactrest/PathSegments -/
def k9 : Class := { plain "com/example/exact_rest/exactrest/PathSegments" (some 0) with
  accessFlags := 48
  interfaces := #[]
  cf := some (fileOf pool9 41 #[] #[{ accessFlags := 2, nameIndex := 5, descriptorIndex := 6, attributes := #[] }, { accessFlags := 8, nameIndex := 149, descriptorIndex := 150, attributes := #[] }, { accessFlags := 10, nameIndex := 77, descriptorIndex := 78, attributes := #[] }] 48 2 #[] #[{ accessFlags := 26, nameIndex := 139, descriptorIndex := 140, attributes := #[] }])
  fields := #[{ name := "HEX", type := (.object "java/lang/String"), accessFlags := 26, slot := 0, constantValue := 0 }]
  methods := #[k9m0, k9m1, k9m2]
  instanceTypes := #[]
  staticTypes := #[(.object "java/lang/String")]
  resolved := Array.replicate 154 none
  statics := none }

def pool10 : Array CpInfo := pool [(1, .class_ 2), (0, u "java/lang/Appendable"), (0, .class_ 4), (0, u "java/lang/Object")] 9

/-- java/lang/Appendable -/
def k10 : Class := { plain "java/lang/Appendable" (some 0) with
  accessFlags := 1537
  interfaces := #[]
  cf := some (fileOf pool10 1 #[] #[] 1537 3 #[] #[])
  fields := #[]
  methods := #[]
  instanceTypes := #[]
  staticTypes := #[]
  resolved := Array.replicate 14 none
  statics := none }

def pool11 : Array CpInfo := pool [(1, .class_ 2), (0, u "java/lang/String"), (0, .methodref 4 5), (0, .class_ 6), (0, .nameAndType 7 8), (0, u "java/lang/Object"), (0, u "<init>"), (0, u "()V"), (1, .class_ 12), (1, u "java/lang/AbstractStringBuilder"), (0, u "EMPTYVALUE"), (0, u "[B"), (0, .fieldref 10 16), (0, .nameAndType 17 14), (0, u "value"), (0, .fieldref 1 19), (0, .nameAndType 20 21), (0, u "COMPACT_STRINGS"), (0, u "Z"), (0, .fieldref 10 23), (0, .nameAndType 24 25), (0, u "coder"), (0, u "B"), (8, u "length"), (0, u "()I"), (3, .integer 2147483647), (5, u "append"), (2, .class_ 49), (0, u "java/lang/CharSequence"), (25, u "maybeLatin1"), (3, .fieldref 10 80), (0, .nameAndType 81 82), (0, u "count"), (0, u "I"), (0, .methodref 10 84), (0, .nameAndType 85 86), (0, u "isLatin1"), (0, u "()Z"), (1, .class_ 90), (1, u "java/lang/StringLatin1"), (9, .methodref 10 101), (0, .nameAndType 102 103), (0, u "ensureCapacityInternal"), (0, u "(I)V"), (0, .methodref 10 105), (0, .nameAndType 106 107), (0, u "newCapacity"), (0, u "(I)I"), (0, .methodref 109 110), (0, .class_ 111), (0, .nameAndType 112 113), (0, u "java/util/Arrays"), (0, u "copyOf"), (0, u "([BI)[B"), (0, .methodref 115 116), (0, .class_ 117), (0, .nameAndType 118 119), (0, u "jdk/internal/util/ArraysSupport"), (0, u "newLength"), (0, u "(III)I"), (71, .methodref 88 192), (0, .nameAndType 193 194), (0, u "canEncode"), (0, u "(C)Z"), (97, u "(C)Ljava/lang/AbstractStringBuilder;"), (110, u "()[B"), (40, .class_ 445), (0, u "java/lang/Appendable"), (106, u "getValue")] 56

def k11m0 : Method := { name := "<init>", desc := "()V", sig := { parameters := [], returnType := none }, accessFlags := 0, code := none }
def k11c1 : Code := { maxStack := 2, maxLocals := 2, code := jdk_68_method_2_code, exceptionTable := #[], attributes := #[] }
def k11m1 : Method := { name := "<init>", desc := "(I)V", sig := { parameters := [.int], returnType := none }, accessFlags := 0, code := some k11c1 }
def k11c2 : Code := { maxStack := 1, maxLocals := 1, code := jdk_68_method_6_code, exceptionTable := #[], attributes := #[] }
def k11m2 : Method := { name := "length", desc := "()I", sig := { parameters := [], returnType := some .int }, accessFlags := 1, code := some k11c2 }
def k11c3 : Code := { maxStack := 4, maxLocals := 3, code := jdk_68_method_9_code, exceptionTable := #[], attributes := #[] }
def k11m3 : Method := { name := "ensureCapacityInternal", desc := "(I)V", sig := { parameters := [.int], returnType := none }, accessFlags := 2, code := some k11c3 }
def k11c4 : Code := { maxStack := 5, maxLocals := 6, code := jdk_68_method_10_code, exceptionTable := #[], attributes := #[] }
def k11m4 : Method := { name := "newCapacity", desc := "(I)I", sig := { parameters := [.int], returnType := some .int }, accessFlags := 2, code := some k11c4 }
def k11c5 : Code := { maxStack := 5, maxLocals := 2, code := jdk_68_method_31_code, exceptionTable := #[], attributes := #[] }
def k11m5 : Method := { name := "append", desc := "(C)Ljava/lang/AbstractStringBuilder;", sig := { parameters := [.char], returnType := some (.object "java/lang/AbstractStringBuilder") }, accessFlags := 1, code := some k11c5 }
def k11c6 : Code := { maxStack := 1, maxLocals := 1, code := jdk_68_method_64_code, exceptionTable := #[], attributes := #[] }
def k11m6 : Method := { name := "getValue", desc := "()[B", sig := { parameters := [], returnType := some (.array .byte) }, accessFlags := 16, code := some k11c6 }
def k11c7 : Code := { maxStack := 1, maxLocals := 1, code := jdk_68_method_68_code, exceptionTable := #[], attributes := #[] }
def k11m7 : Method := { name := "isLatin1", desc := "()Z", sig := { parameters := [], returnType := some .boolean }, accessFlags := 16, code := some k11c7 }
/-- java/lang/AbstractStringBuilder -/
def k11 : Class := { plain "java/lang/AbstractStringBuilder" (some 0) with
  accessFlags := 1056
  interfaces := #[10, 4]
  cf := some (fileOf pool11 10 #[] #[{ accessFlags := 0, nameIndex := 7, descriptorIndex := 8, attributes := #[] }, { accessFlags := 0, nameIndex := 7, descriptorIndex := 103, attributes := #[] }, { accessFlags := 1, nameIndex := 34, descriptorIndex := 35, attributes := #[] }, { accessFlags := 2, nameIndex := 102, descriptorIndex := 103, attributes := #[] }, { accessFlags := 2, nameIndex := 106, descriptorIndex := 107, attributes := #[] }, { accessFlags := 1, nameIndex := 45, descriptorIndex := 292, attributes := #[] }, { accessFlags := 16, nameIndex := 552, descriptorIndex := 403, attributes := #[] }, { accessFlags := 16, nameIndex := 85, descriptorIndex := 86, attributes := #[] }] 1056 4 #[444, 48] #[{ accessFlags := 0, nameIndex := 17, descriptorIndex := 14, attributes := #[] }, { accessFlags := 0, nameIndex := 24, descriptorIndex := 25, attributes := #[] }, { accessFlags := 0, nameIndex := 75, descriptorIndex := 21, attributes := #[] }, { accessFlags := 0, nameIndex := 81, descriptorIndex := 82, attributes := #[] }, { accessFlags := 26, nameIndex := 13, descriptorIndex := 14, attributes := #[] }])
  fields := #[{ name := "value", type := (.array .byte), accessFlags := 0, slot := 0, constantValue := 0 }, { name := "coder", type := .byte, accessFlags := 0, slot := 1, constantValue := 0 }, { name := "maybeLatin1", type := .boolean, accessFlags := 0, slot := 2, constantValue := 0 }, { name := "count", type := .int, accessFlags := 0, slot := 3, constantValue := 0 }, { name := "EMPTYVALUE", type := (.array .byte), accessFlags := 26, slot := 0, constantValue := 0 }]
  methods := #[k11m0, k11m1, k11m2, k11m3, k11m4, k11m5, k11m6, k11m7]
  instanceTypes := #[(.array .byte), .byte, .boolean, .int]
  staticTypes := #[(.array .byte)]
  resolved := Array.replicate 609 none
  statics := none }

def pool12 : Array CpInfo := pool [(1, .methodref 2 3), (0, .class_ 4), (0, .nameAndType 5 6), (0, u "java/lang/AbstractStringBuilder"), (0, u "<init>"), (0, u "(I)V"), (11, .class_ 20), (1, u "java/lang/String"), (3, .class_ 26), (1, u "java/lang/StringBuilder"), (0, u "append"), (22, .methodref 2 51), (0, .nameAndType 27 52), (0, u "(C)Ljava/lang/AbstractStringBuilder;"), (84, .methodref 18 138), (0, .nameAndType 5 139), (0, u "(Ljava/lang/StringBuilder;)V"), (5, u "()V"), (10, u "()I"), (129, u "(C)Ljava/lang/StringBuilder;"), (56, .methodref 2 344), (0, .nameAndType 345 156), (0, u "length"), (3, .class_ 350), (0, u "java/lang/Appendable"), (0, .class_ 352), (0, u "java/io/Serializable"), (0, .class_ 354), (0, u "java/lang/Comparable"), (0, .class_ 356), (0, u "java/lang/CharSequence"), (0, u "serialVersionUID"), (0, u "J"), (40, u "toString"), (0, u "()Ljava/lang/String;")] 21

def k12m0 : Method := { name := "<init>", desc := "()V", sig := { parameters := [], returnType := none }, accessFlags := 1, code := none }
def k12c1 : Code := { maxStack := 2, maxLocals := 2, code := jdk_67_method_2_code, exceptionTable := #[], attributes := #[] }
def k12m1 : Method := { name := "<init>", desc := "(I)V", sig := { parameters := [.int], returnType := none }, accessFlags := 1, code := some k12c1 }
def k12c2 : Code := { maxStack := 2, maxLocals := 2, code := jdk_67_method_14_code, exceptionTable := #[], attributes := #[] }
def k12m2 : Method := { name := "append", desc := "(C)Ljava/lang/StringBuilder;", sig := { parameters := [.char], returnType := some (.object "java/lang/StringBuilder") }, accessFlags := 1, code := some k12c2 }
def k12c3 : Code := { maxStack := 3, maxLocals := 1, code := jdk_67_method_42_code, exceptionTable := #[], attributes := #[] }
def k12m3 : Method := { name := "toString", desc := "()Ljava/lang/String;", sig := { parameters := [], returnType := some (.object "java/lang/String") }, accessFlags := 1, code := some k12c3 }
def k12c4 : Code := { maxStack := 1, maxLocals := 1, code := jdk_67_method_93_code, exceptionTable := #[], attributes := #[] }
def k12m4 : Method := { name := "length", desc := "()I", sig := { parameters := [], returnType := some .int }, accessFlags := 4161, code := some k12c4 }
/-- java/lang/StringBuilder -/
def k12 : Class := { plain "java/lang/StringBuilder" (some 11) with
  accessFlags := 49
  interfaces := #[10, 2, 3, 4]
  cf := some (fileOf pool12 24 #[] #[{ accessFlags := 1, nameIndex := 5, descriptorIndex := 145, attributes := #[] }, { accessFlags := 1, nameIndex := 5, descriptorIndex := 6, attributes := #[] }, { accessFlags := 1, nameIndex := 27, descriptorIndex := 286, attributes := #[] }, { accessFlags := 1, nameIndex := 399, descriptorIndex := 400, attributes := #[] }, { accessFlags := 4161, nameIndex := 345, descriptorIndex := 156, attributes := #[] }] 49 2 #[349, 351, 353, 355] #[{ accessFlags := 24, nameIndex := 357, descriptorIndex := 358, attributes := #[] }])
  fields := #[{ name := "serialVersionUID", type := .long, accessFlags := 24, slot := 0, constantValue := 0 }]
  methods := #[k12m0, k12m1, k12m2, k12m3, k12m4]
  instanceTypes := #[(.array .byte), .byte, .boolean, .int]
  staticTypes := #[.long]
  resolved := Array.replicate 422 none
  statics := none }

def pool13 : Array CpInfo := pool [(2, .class_ 4), (1, u "java/lang/Object"), (0, u "<init>"), (0, u "()V"), (14, .class_ 23), (1, u "java/nio/charset/StandardCharsets"), (0, u "US_ASCII"), (0, u "Ljava/nio/charset/Charset;"), (7, u "ISO_8859_1"), (7, u "UTF_8"), (5, u "UTF_16BE"), (5, u "UTF_16LE"), (5, u "UTF_16")] 8

def k13m0 : Method := { name := "<init>", desc := "()V", sig := { parameters := [], returnType := none }, accessFlags := 2, code := none }
/-- java/nio/charset/StandardCharsets -/
def k13 : Class := { plain "java/nio/charset/StandardCharsets" (some 0) with
  accessFlags := 49
  interfaces := #[]
  cf := some (fileOf pool13 21 #[] #[{ accessFlags := 2, nameIndex := 5, descriptorIndex := 6, attributes := #[] }] 49 2 #[] #[{ accessFlags := 25, nameIndex := 24, descriptorIndex := 25, attributes := #[] }, { accessFlags := 25, nameIndex := 33, descriptorIndex := 25, attributes := #[] }, { accessFlags := 25, nameIndex := 41, descriptorIndex := 25, attributes := #[] }, { accessFlags := 25, nameIndex := 47, descriptorIndex := 25, attributes := #[] }, { accessFlags := 25, nameIndex := 53, descriptorIndex := 25, attributes := #[] }, { accessFlags := 25, nameIndex := 59, descriptorIndex := 25, attributes := #[] }])
  fields := #[{ name := "US_ASCII", type := (.object "java/nio/charset/Charset"), accessFlags := 25, slot := 0, constantValue := 0 }, { name := "ISO_8859_1", type := (.object "java/nio/charset/Charset"), accessFlags := 25, slot := 1, constantValue := 0 }, { name := "UTF_8", type := (.object "java/nio/charset/Charset"), accessFlags := 25, slot := 2, constantValue := 0 }, { name := "UTF_16BE", type := (.object "java/nio/charset/Charset"), accessFlags := 25, slot := 3, constantValue := 0 }, { name := "UTF_16LE", type := (.object "java/nio/charset/Charset"), accessFlags := 25, slot := 4, constantValue := 0 }, { name := "UTF_16", type := (.object "java/nio/charset/Charset"), accessFlags := 25, slot := 5, constantValue := 0 }]
  methods := #[k13m0]
  instanceTypes := #[]
  staticTypes := #[(.object "java/nio/charset/Charset"), (.object "java/nio/charset/Charset"), (.object "java/nio/charset/Charset"), (.object "java/nio/charset/Charset"), (.object "java/nio/charset/Charset"), (.object "java/nio/charset/Charset")]
  resolved := Array.replicate 68 none
  statics := some 1 }

def pool14 : Array CpInfo := pool [(18, .class_ 20), (1, u "java/nio/charset/Charset"), (0, u "cache1"), (0, u "[Ljava/lang/Object;"), (2, u "cache2"), (0, .class_ 27), (0, u "java/lang/Object"), (0, .class_ 29), (0, u "java/nio/charset/Charset$1"), (4, .class_ 36), (1, u "java/nio/charset/Charset$ThreadTrackHolder"), (21, .class_ 59), (0, u "java/nio/charset/Charset$2"), (11, .class_ 73), (1, u "java/nio/charset/Charset$ExtendedProviderHolder"), (22, u "standardProvider"), (0, u "Ljava/nio/charset/spi/CharsetProvider;"), (29, u "name"), (7, .class_ 136), (0, u "java/nio/charset/Charset$3"), (5, u "defaultCharset"), (0, u "Ljava/nio/charset/Charset;"), (14, u "zeroAliases"), (0, u "[Ljava/lang/String;"), (29, u "Ljava/lang/String;"), (2, u "aliases"), (2, u "aliasSet"), (0, u "Ljava/util/Set;"), (82, .class_ 280), (0, u "java/lang/Comparable"), (84, .class_ 366), (0, u "java/nio/charset/Charset$ExtendedProviderHolder$1")] 3

/-- java/nio/charset/Charset -/
def k14 : Class := { plain "java/nio/charset/Charset" (some 0) with
  accessFlags := 1057
  interfaces := #[3]
  cf := some (fileOf pool14 18 #[.nestMembers #[71, 365, 34, 135, 58, 28]] #[] 1057 26 #[279] #[{ accessFlags := 26, nameIndex := 96, descriptorIndex := 97, attributes := #[] }, { accessFlags := 26, nameIndex := 158, descriptorIndex := 159, attributes := #[] }, { accessFlags := 74, nameIndex := 21, descriptorIndex := 22, attributes := #[] }, { accessFlags := 74, nameIndex := 25, descriptorIndex := 22, attributes := #[] }, { accessFlags := 10, nameIndex := 142, descriptorIndex := 143, attributes := #[] }, { accessFlags := 18, nameIndex := 127, descriptorIndex := 189, attributes := #[] }, { accessFlags := 18, nameIndex := 192, descriptorIndex := 159, attributes := #[] }, { accessFlags := 2, nameIndex := 195, descriptorIndex := 196, attributes := #[] }])
  fields := #[{ name := "standardProvider", type := (.object "java/nio/charset/spi/CharsetProvider"), accessFlags := 26, slot := 0, constantValue := 0 }, { name := "zeroAliases", type := (.array (.object "java/lang/String")), accessFlags := 26, slot := 1, constantValue := 0 }, { name := "cache1", type := (.array (.object "java/lang/Object")), accessFlags := 74, slot := 2, constantValue := 0 }, { name := "cache2", type := (.array (.object "java/lang/Object")), accessFlags := 74, slot := 3, constantValue := 0 }, { name := "defaultCharset", type := (.object "java/nio/charset/Charset"), accessFlags := 10, slot := 4, constantValue := 0 }, { name := "name", type := (.object "java/lang/String"), accessFlags := 18, slot := 0, constantValue := 0 }, { name := "aliases", type := (.array (.object "java/lang/String")), accessFlags := 18, slot := 1, constantValue := 0 }, { name := "aliasSet", type := (.object "java/util/Set"), accessFlags := 2, slot := 2, constantValue := 0 }]
  methods := #[]
  instanceTypes := #[(.object "java/lang/String"), (.array (.object "java/lang/String")), (.object "java/util/Set")]
  staticTypes := #[(.object "java/nio/charset/spi/CharsetProvider"), (.array (.object "java/lang/String")), (.array (.object "java/lang/Object")), (.array (.object "java/lang/Object")), (.object "java/nio/charset/Charset")]
  resolved := Array.replicate 370 none
  statics := none }

def pool15 : Array CpInfo := pool [(1, .class_ 2), (0, u "sun/nio/cs/HistoricallyNamedCharset"), (0, .class_ 4), (0, u "java/lang/Object")] 4

/-- sun/nio/cs/HistoricallyNamedCharset -/
def k15 : Class := { plain "sun/nio/cs/HistoricallyNamedCharset" (some 0) with
  accessFlags := 1537
  interfaces := #[]
  cf := some (fileOf pool15 1 #[] #[] 1537 3 #[] #[])
  fields := #[]
  methods := #[]
  instanceTypes := #[]
  staticTypes := #[]
  resolved := Array.replicate 9 none
  statics := none }

def pool16 : Array CpInfo := pool [(2, .class_ 4), (1, u "java/nio/charset/Charset"), (130, .class_ 136), (0, u "sun/nio/cs/Unicode"), (0, .class_ 138), (0, u "sun/nio/cs/HistoricallyNamedCharset")] 15

/-- sun/nio/cs/Unicode -/
def k16 : Class := { plain "sun/nio/cs/Unicode" (some 14) with
  accessFlags := 1056
  interfaces := #[15]
  cf := some (fileOf pool16 135 #[] #[] 1056 2 #[137] #[])
  fields := #[]
  methods := #[]
  instanceTypes := #[(.object "java/lang/String"), (.array (.object "java/lang/String")), (.object "java/util/Set")]
  staticTypes := #[]
  resolved := Array.replicate 154 none
  statics := none }

def pool17 : Array CpInfo := pool [(10, .class_ 12), (1, u "sun/nio/cs/Unicode"), (0, u "<init>"), (3, .class_ 18), (0, u "sun/nio/cs/UTF_8$Decoder"), (3, .class_ 23), (0, u "sun/nio/cs/UTF_8$Encoder"), (15, .class_ 40), (0, u "sun/nio/cs/UTF_8"), (2, u "()V"), (2, u "INSTANCE"), (0, u "Lsun/nio/cs/UTF_8;"), (8, u "JLA"), (0, u "Ljdk/internal/access/JavaLangAccess;")] 26

def k17m0 : Method := { name := "<init>", desc := "()V", sig := { parameters := [], returnType := none }, accessFlags := 1, code := none }
/-- sun/nio/cs/UTF_8 -/
def k17 : Class := { plain "sun/nio/cs/UTF_8" (some 16) with
  accessFlags := 49
  interfaces := #[]
  cf := some (fileOf pool17 39 #[.nestMembers #[22, 17]] #[{ accessFlags := 1, nameIndex := 13, descriptorIndex := 43, attributes := #[] }] 49 10 #[] #[{ accessFlags := 25, nameIndex := 46, descriptorIndex := 47, attributes := #[] }, { accessFlags := 26, nameIndex := 56, descriptorIndex := 57, attributes := #[] }])
  fields := #[{ name := "INSTANCE", type := (.object "sun/nio/cs/UTF_8"), accessFlags := 25, slot := 0, constantValue := 0 }, { name := "JLA", type := (.object "jdk/internal/access/JavaLangAccess"), accessFlags := 26, slot := 1, constantValue := 0 }]
  methods := #[k17m0]
  instanceTypes := #[(.object "java/lang/String"), (.array (.object "java/lang/String")), (.object "java/util/Set")]
  staticTypes := #[(.object "sun/nio/cs/UTF_8"), (.object "jdk/internal/access/JavaLangAccess")]
  resolved := Array.replicate 84 none
  statics := some 2 }

def pool18 : Array CpInfo := pool [(2, .class_ 4), (1, u "java/lang/Object"), (0, u "<init>"), (0, u "()V"), (0, .methodref 8 9), (0, .class_ 10), (0, .nameAndType 11 12), (0, u "java/lang/StringCoding"), (0, u "countPositives"), (0, u "([BII)I"), (11, u "hasNegatives"), (0, u "([BII)Z")] 23

def k18m0 : Method := { name := "<init>", desc := "()V", sig := { parameters := [], returnType := none }, accessFlags := 2, code := none }
def k18c1 : Code := { maxStack := 3, maxLocals := 3, code := jdk_123_method_2_code, exceptionTable := #[], attributes := #[] }
def k18m1 : Method := { name := "hasNegatives", desc := "([BII)Z", sig := { parameters := [(.array .byte), .int, .int], returnType := some .boolean }, accessFlags := 9, code := some k18c1 }
def k18c2 : Code := { maxStack := 2, maxLocals := 5, code := jdk_123_method_3_code, exceptionTable := #[], attributes := #[] }
def k18m2 : Method := { name := "countPositives", desc := "([BII)I", sig := { parameters := [(.array .byte), .int, .int], returnType := some .int }, accessFlags := 9, code := some k18c2 }
/-- java/lang/StringCoding -/
def k18 : Class := { plain "java/lang/StringCoding" (some 0) with
  accessFlags := 32
  interfaces := #[]
  cf := some (fileOf pool18 8 #[] #[{ accessFlags := 2, nameIndex := 5, descriptorIndex := 6, attributes := #[] }, { accessFlags := 9, nameIndex := 24, descriptorIndex := 25, attributes := #[] }, { accessFlags := 9, nameIndex := 11, descriptorIndex := 12, attributes := #[] }] 32 2 #[] #[])
  fields := #[]
  methods := #[k18m0, k18m1, k18m2]
  instanceTypes := #[]
  staticTypes := #[]
  resolved := Array.replicate 49 none
  statics := none }

def pool19 : Array CpInfo := pool [(1, .class_ 2), (0, u "java/lang/Cloneable"), (0, .class_ 4), (0, u "java/lang/Object")] 2

/-- java/lang/Cloneable -/
def k19 : Class := { plain "java/lang/Cloneable" (some 0) with
  accessFlags := 1537
  interfaces := #[]
  cf := some (fileOf pool19 1 #[] #[] 1537 3 #[] #[])
  fields := #[]
  methods := #[]
  instanceTypes := #[]
  staticTypes := #[]
  resolved := Array.replicate 7 none
  statics := none }

def pool20 : Array CpInfo := pool [(1, .class_ 2), (0, u "java/lang/Math"), (1, .class_ 6), (1, u "java/lang/Object"), (0, u "<init>"), (0, u "()V"), (89, .class_ 100), (1, u "java/lang/Math$RandomNumberGeneratorHolder"), (71, u "negativeZeroFloatBits"), (0, u "J"), (2, u "negativeZeroDoubleBits"), (21, u "max"), (2, u "min"), (43, u "$assertionsDisabled"), (0, u "Z"), (88, u "(II)I"), (2, u "twoToTheDoubleScaleDown"), (0, u "D"), (4, u "twoToTheDoubleScaleUp"), (9, u "E"), (3, u "PI"), (2, u "TAU"), (2, u "DEGREES_TO_RADIANS"), (0, u "RADIANS_TO_DEGREES")] 94

def k20m0 : Method := { name := "<init>", desc := "()V", sig := { parameters := [], returnType := none }, accessFlags := 2, code := none }
def k20c1 : Code := { maxStack := 2, maxLocals := 2, code := jdk_29_method_65_code, exceptionTable := #[], attributes := #[] }
def k20m1 : Method := { name := "max", desc := "(II)I", sig := { parameters := [.int, .int], returnType := some .int }, accessFlags := 9, code := some k20c1 }
def k20c2 : Code := { maxStack := 2, maxLocals := 2, code := jdk_29_method_69_code, exceptionTable := #[], attributes := #[] }
def k20m2 : Method := { name := "min", desc := "(II)I", sig := { parameters := [.int, .int], returnType := some .int }, accessFlags := 9, code := some k20c2 }
/-- java/lang/Math -/
def k20 : Class := { plain "java/lang/Math" (some 0) with
  accessFlags := 49
  interfaces := #[]
  cf := some (fileOf pool20 1 #[.nestMembers #[98]] #[{ accessFlags := 2, nameIndex := 7, descriptorIndex := 8, attributes := #[] }, { accessFlags := 9, nameIndex := 198, descriptorIndex := 335, attributes := #[] }, { accessFlags := 9, nameIndex := 201, descriptorIndex := 335, attributes := #[] }] 49 4 #[] #[{ accessFlags := 25, nameIndex := 354, descriptorIndex := 339, attributes := #[] }, { accessFlags := 25, nameIndex := 358, descriptorIndex := 339, attributes := #[] }, { accessFlags := 25, nameIndex := 361, descriptorIndex := 339, attributes := #[] }, { accessFlags := 26, nameIndex := 364, descriptorIndex := 339, attributes := #[] }, { accessFlags := 26, nameIndex := 365, descriptorIndex := 339, attributes := #[] }, { accessFlags := 26, nameIndex := 172, descriptorIndex := 173, attributes := #[] }, { accessFlags := 26, nameIndex := 176, descriptorIndex := 173, attributes := #[] }, { accessFlags := 8, nameIndex := 344, descriptorIndex := 339, attributes := #[] }, { accessFlags := 8, nameIndex := 338, descriptorIndex := 339, attributes := #[] }, { accessFlags := 4120, nameIndex := 245, descriptorIndex := 246, attributes := #[] }])
  fields := #[{ name := "E", type := .double, accessFlags := 25, slot := 0, constantValue := 0 }, { name := "PI", type := .double, accessFlags := 25, slot := 1, constantValue := 0 }, { name := "TAU", type := .double, accessFlags := 25, slot := 2, constantValue := 0 }, { name := "DEGREES_TO_RADIANS", type := .double, accessFlags := 26, slot := 3, constantValue := 0 }, { name := "RADIANS_TO_DEGREES", type := .double, accessFlags := 26, slot := 4, constantValue := 0 }, { name := "negativeZeroFloatBits", type := .long, accessFlags := 26, slot := 5, constantValue := 0 }, { name := "negativeZeroDoubleBits", type := .long, accessFlags := 26, slot := 6, constantValue := 0 }, { name := "twoToTheDoubleScaleUp", type := .double, accessFlags := 8, slot := 7, constantValue := 0 }, { name := "twoToTheDoubleScaleDown", type := .double, accessFlags := 8, slot := 8, constantValue := 0 }, { name := "$assertionsDisabled", type := .boolean, accessFlags := 4120, slot := 9, constantValue := 0 }]
  methods := #[k20m0, k20m1, k20m2]
  instanceTypes := #[]
  staticTypes := #[.double, .double, .double, .double, .double, .long, .long, .double, .double, .boolean]
  resolved := Array.replicate 460 none
  statics := none }

def pool21 : Array CpInfo := pool [(2, .class_ 4), (1, u "java/lang/Object"), (0, u "<init>"), (0, u "()V"), (17, .class_ 26), (1, u "jdk/internal/util/Preconditions"), (6, u "checkIndex"), (21, .class_ 56), (0, u "jdk/internal/util/Preconditions$4"), (57, .class_ 115), (0, u "jdk/internal/util/Preconditions$1"), (7, u "SIOOBE_FORMATTER"), (0, u "Ljava/util/function/BiFunction;"), (0, .class_ 126), (0, u "jdk/internal/util/Preconditions$2"), (3, u "AIOOBE_FORMATTER"), (0, .class_ 132), (0, u "jdk/internal/util/Preconditions$3"), (3, u "IOOBE_FORMATTER"), (41, u "(IILjava/util/function/BiFunction;)I")] 15

def k21m0 : Method := { name := "<init>", desc := "()V", sig := { parameters := [], returnType := none }, accessFlags := 1, code := none }
def k21c1 : Code := { maxStack := 3, maxLocals := 3, code := jdk_41_method_11_code, exceptionTable := #[], attributes := #[] }
def k21m1 : Method := { name := "checkIndex", desc := "(IILjava/util/function/BiFunction;)I", sig := { parameters := [.int, .int, (.object "java/util/function/BiFunction")], returnType := some .int }, accessFlags := 9, code := some k21c1 }
/-- jdk/internal/util/Preconditions -/
def k21 : Class := { plain "jdk/internal/util/Preconditions" (some 0) with
  accessFlags := 33
  interfaces := #[]
  cf := some (fileOf pool21 24 #[.nestMembers #[55, 131, 125, 114]] #[{ accessFlags := 1, nameIndex := 5, descriptorIndex := 6, attributes := #[] }, { accessFlags := 9, nameIndex := 33, descriptorIndex := 178, attributes := #[] }] 33 2 #[] #[{ accessFlags := 25, nameIndex := 123, descriptorIndex := 124, attributes := #[] }, { accessFlags := 25, nameIndex := 130, descriptorIndex := 124, attributes := #[] }, { accessFlags := 25, nameIndex := 136, descriptorIndex := 124, attributes := #[] }])
  fields := #[{ name := "SIOOBE_FORMATTER", type := (.object "java/util/function/BiFunction"), accessFlags := 25, slot := 0, constantValue := 0 }, { name := "AIOOBE_FORMATTER", type := (.object "java/util/function/BiFunction"), accessFlags := 25, slot := 1, constantValue := 0 }, { name := "IOOBE_FORMATTER", type := (.object "java/util/function/BiFunction"), accessFlags := 25, slot := 2, constantValue := 0 }]
  methods := #[k21m0, k21m1]
  instanceTypes := #[]
  staticTypes := #[(.object "java/util/function/BiFunction"), (.object "java/util/function/BiFunction"), (.object "java/util/function/BiFunction")]
  resolved := Array.replicate 194 none
  statics := some 3 }

def pool22 : Array CpInfo := pool [(9, u "<init>"), (6, .class_ 18), (1, u "java/lang/Object"), (0, u "()V"), (1, .class_ 23), (1, u "jdk/internal/util/ArraysSupport"), (0, u "LOG2_ARRAY_LONG_INDEX_SCALE"), (0, u "I"), (2, u "U"), (0, u "Ljdk/internal/misc/Unsafe;"), (8, u "BIG_ENDIAN"), (0, u "Z"), (8, u "LOG2_BYTE_BIT_SIZE"), (4, u "LOG2_ARRAY_INT_INDEX_SCALE"), (54, u "JLA"), (0, u "Ljdk/internal/access/JavaLangAccess;"), (11, u "LOG2_ARRAY_BOOLEAN_INDEX_SCALE"), (9, u "LOG2_ARRAY_BYTE_INDEX_SCALE"), (5, u "LOG2_ARRAY_CHAR_INDEX_SCALE"), (5, u "LOG2_ARRAY_SHORT_INDEX_SCALE"), (18, u "LOG2_ARRAY_FLOAT_INDEX_SCALE"), (24, u "LOG2_ARRAY_DOUBLE_INDEX_SCALE"), (6, .methodref 195 196), (0, .class_ 197), (0, .nameAndType 198 199), (0, u "java/lang/Math"), (0, u "max"), (0, u "(II)I"), (0, .integer 2147483639), (76, u "T_BOOLEAN"), (2, u "T_CHAR"), (1, u "T_FLOAT"), (1, u "T_DOUBLE"), (1, u "T_BYTE"), (1, u "T_SHORT"), (1, u "T_INT"), (1, u "T_LONG"), (1, u "SOFT_MAX_ARRAY_LENGTH"), (56, u "newLength"), (0, u "(III)I")] 25

def k22m0 : Method := { name := "<init>", desc := "()V", sig := { parameters := [], returnType := none }, accessFlags := 2, code := none }
def k22c1 : Code := { maxStack := 3, maxLocals := 4, code := jdk_48_method_27_code, exceptionTable := #[], attributes := #[] }
def k22m1 : Method := { name := "newLength", desc := "(III)I", sig := { parameters := [.int, .int, .int], returnType := some .int }, accessFlags := 9, code := some k22c1 }
/-- jdk/internal/util/ArraysSupport -/
def k22 : Class := { plain "jdk/internal/util/ArraysSupport" (some 0) with
  accessFlags := 33
  interfaces := #[]
  cf := some (fileOf pool22 21 #[] #[{ accessFlags := 2, nameIndex := 9, descriptorIndex := 19, attributes := #[] }, { accessFlags := 9, nameIndex := 351, descriptorIndex := 352, attributes := #[] }] 33 16 #[] #[{ accessFlags := 24, nameIndex := 28, descriptorIndex := 29, attributes := #[] }, { accessFlags := 26, nameIndex := 38, descriptorIndex := 39, attributes := #[] }, { accessFlags := 25, nameIndex := 121, descriptorIndex := 25, attributes := #[] }, { accessFlags := 25, nameIndex := 131, descriptorIndex := 25, attributes := #[] }, { accessFlags := 25, nameIndex := 137, descriptorIndex := 25, attributes := #[] }, { accessFlags := 25, nameIndex := 143, descriptorIndex := 25, attributes := #[] }, { accessFlags := 25, nameIndex := 53, descriptorIndex := 25, attributes := #[] }, { accessFlags := 25, nameIndex := 24, descriptorIndex := 25, attributes := #[] }, { accessFlags := 25, nameIndex := 162, descriptorIndex := 25, attributes := #[] }, { accessFlags := 25, nameIndex := 187, descriptorIndex := 25, attributes := #[] }, { accessFlags := 26, nameIndex := 48, descriptorIndex := 25, attributes := #[] }, { accessFlags := 25, nameIndex := 277, descriptorIndex := 25, attributes := #[] }, { accessFlags := 25, nameIndex := 280, descriptorIndex := 25, attributes := #[] }, { accessFlags := 25, nameIndex := 282, descriptorIndex := 25, attributes := #[] }, { accessFlags := 25, nameIndex := 284, descriptorIndex := 25, attributes := #[] }, { accessFlags := 25, nameIndex := 286, descriptorIndex := 25, attributes := #[] }, { accessFlags := 25, nameIndex := 288, descriptorIndex := 25, attributes := #[] }, { accessFlags := 25, nameIndex := 290, descriptorIndex := 25, attributes := #[] }, { accessFlags := 25, nameIndex := 292, descriptorIndex := 25, attributes := #[] }, { accessFlags := 26, nameIndex := 108, descriptorIndex := 109, attributes := #[] }, { accessFlags := 25, nameIndex := 294, descriptorIndex := 25, attributes := #[] }])
  fields := #[{ name := "U", type := (.object "jdk/internal/misc/Unsafe"), accessFlags := 24, slot := 0, constantValue := 0 }, { name := "BIG_ENDIAN", type := .boolean, accessFlags := 26, slot := 1, constantValue := 0 }, { name := "LOG2_ARRAY_BOOLEAN_INDEX_SCALE", type := .int, accessFlags := 25, slot := 2, constantValue := 0 }, { name := "LOG2_ARRAY_BYTE_INDEX_SCALE", type := .int, accessFlags := 25, slot := 3, constantValue := 0 }, { name := "LOG2_ARRAY_CHAR_INDEX_SCALE", type := .int, accessFlags := 25, slot := 4, constantValue := 0 }, { name := "LOG2_ARRAY_SHORT_INDEX_SCALE", type := .int, accessFlags := 25, slot := 5, constantValue := 0 }, { name := "LOG2_ARRAY_INT_INDEX_SCALE", type := .int, accessFlags := 25, slot := 6, constantValue := 0 }, { name := "LOG2_ARRAY_LONG_INDEX_SCALE", type := .int, accessFlags := 25, slot := 7, constantValue := 0 }, { name := "LOG2_ARRAY_FLOAT_INDEX_SCALE", type := .int, accessFlags := 25, slot := 8, constantValue := 0 }, { name := "LOG2_ARRAY_DOUBLE_INDEX_SCALE", type := .int, accessFlags := 25, slot := 9, constantValue := 0 }, { name := "LOG2_BYTE_BIT_SIZE", type := .int, accessFlags := 26, slot := 10, constantValue := 0 }, { name := "T_BOOLEAN", type := .int, accessFlags := 25, slot := 11, constantValue := 0 }, { name := "T_CHAR", type := .int, accessFlags := 25, slot := 12, constantValue := 0 }, { name := "T_FLOAT", type := .int, accessFlags := 25, slot := 13, constantValue := 0 }, { name := "T_DOUBLE", type := .int, accessFlags := 25, slot := 14, constantValue := 0 }, { name := "T_BYTE", type := .int, accessFlags := 25, slot := 15, constantValue := 0 }, { name := "T_SHORT", type := .int, accessFlags := 25, slot := 16, constantValue := 0 }, { name := "T_INT", type := .int, accessFlags := 25, slot := 17, constantValue := 0 }, { name := "T_LONG", type := .int, accessFlags := 25, slot := 18, constantValue := 0 }, { name := "JLA", type := (.object "jdk/internal/access/JavaLangAccess"), accessFlags := 26, slot := 19, constantValue := 0 }, { name := "SOFT_MAX_ARRAY_LENGTH", type := .int, accessFlags := 25, slot := 20, constantValue := 0 }]
  methods := #[k22m0, k22m1]
  instanceTypes := #[]
  staticTypes := #[(.object "jdk/internal/misc/Unsafe"), .boolean, .int, .int, .int, .int, .int, .int, .int, .int, .int, .int, .int, .int, .int, .int, .int, .int, .int, (.object "jdk/internal/access/JavaLangAccess"), .int]
  resolved := Array.replicate 378 none
  statics := none }

def pool23 : Array CpInfo := pool [(2, .class_ 4), (1, u "java/lang/Object"), (0, u "<init>"), (0, u "()V"), (7, .class_ 16), (1, u "java/util/Arrays"), (57, .class_ 76), (1, u "java/util/Arrays$NaturalOrder"), (32, u "()Ljava/lang/Object;"), (3, .class_ 115), (1, u "java/util/Arrays$LegacyMergeSort"), (1, u "Z"), (10, .nameAndType 129 109), (0, u "clone"), (9, u "copyOfRange"), (10, .methodref 151 152), (0, .class_ 153), (0, .nameAndType 154 155), (0, u "java/lang/System"), (0, u "arraycopy"), (0, u "(Ljava/lang/Object;ILjava/lang/Object;II)V"), (146, u "copyOf"), (1, .methodref 305 306), (0, .class_ 307), (0, .nameAndType 308 309), (0, u "java/lang/Math"), (0, u "min"), (0, u "(II)I"), (0, .methodref 311 128), (0, .class_ 312), (0, u "[B"), (26, .methodref 14 340), (0, .nameAndType 341 342), (0, u "copyOfRangeByte"), (0, u "([BII)[B"), (0, .methodref 14 344), (0, .nameAndType 345 346), (0, u "checkLength"), (0, u "(II)V"), (28, .class_ 376), (0, u "java/util/Arrays$ArrayList"), (68, u "$assertionsDisabled"), (269, u "MIN_ARRAY_SORT_GRAN"), (0, u "I"), (2, u "INSERTIONSORT_THRESHOLD"), (149, u "([BI)[B"), (105, .class_ 976), (0, u "java/util/Arrays$ArrayItr")] 52

def k23m0 : Method := { name := "<init>", desc := "()V", sig := { parameters := [], returnType := none }, accessFlags := 2, code := none }
def k23c1 : Code := { maxStack := 6, maxLocals := 3, code := jdk_65_method_121_code, exceptionTable := #[], attributes := #[] }
def k23m1 : Method := { name := "copyOf", desc := "([BI)[B", sig := { parameters := [(.array .byte), .int], returnType := some (.array .byte) }, accessFlags := 9, code := some k23c1 }
def k23c2 : Code := { maxStack := 4, maxLocals := 2, code := jdk_65_method_131_code, exceptionTable := #[], attributes := #[] }
def k23m2 : Method := { name := "checkLength", desc := "(II)V", sig := { parameters := [.int, .int], returnType := none }, accessFlags := 10, code := some k23c2 }
def k23c3 : Code := { maxStack := 3, maxLocals := 3, code := jdk_65_method_132_code, exceptionTable := #[], attributes := #[] }
def k23m3 : Method := { name := "copyOfRange", desc := "([BII)[B", sig := { parameters := [(.array .byte), .int, .int], returnType := some (.array .byte) }, accessFlags := 9, code := some k23c3 }
def k23c4 : Code := { maxStack := 6, maxLocals := 5, code := jdk_65_method_133_code, exceptionTable := #[], attributes := #[] }
def k23m4 : Method := { name := "copyOfRangeByte", desc := "([BII)[B", sig := { parameters := [(.array .byte), .int, .int], returnType := some (.array .byte) }, accessFlags := 10, code := some k23c4 }
/-- java/util/Arrays -/
def k23 : Class := { plain "java/util/Arrays" (some 0) with
  accessFlags := 49
  interfaces := #[]
  cf := some (fileOf pool23 14 #[.nestMembers #[975, 375, 113, 74]] #[{ accessFlags := 2, nameIndex := 5, descriptorIndex := 6, attributes := #[] }, { accessFlags := 9, nameIndex := 302, descriptorIndex := 869, attributes := #[] }, { accessFlags := 10, nameIndex := 345, descriptorIndex := 346, attributes := #[] }, { accessFlags := 9, nameIndex := 139, descriptorIndex := 342, attributes := #[] }, { accessFlags := 10, nameIndex := 341, descriptorIndex := 342, attributes := #[] }] 49 2 #[] #[{ accessFlags := 26, nameIndex := 715, descriptorIndex := 716, attributes := #[] }, { accessFlags := 26, nameIndex := 719, descriptorIndex := 716, attributes := #[] }, { accessFlags := 4120, nameIndex := 445, descriptorIndex := 117, attributes := #[] }])
  fields := #[{ name := "MIN_ARRAY_SORT_GRAN", type := .int, accessFlags := 26, slot := 0, constantValue := 0 }, { name := "INSERTIONSORT_THRESHOLD", type := .int, accessFlags := 26, slot := 1, constantValue := 0 }, { name := "$assertionsDisabled", type := .boolean, accessFlags := 4120, slot := 2, constantValue := 0 }]
  methods := #[k23m0, k23m1, k23m2, k23m3, k23m4]
  instanceTypes := #[]
  staticTypes := #[.int, .int, .boolean]
  resolved := Array.replicate 1029 none
  statics := none }

def pool24 : Array CpInfo := pool [(2, .class_ 4), (1, u "java/lang/Object"), (0, u "<init>"), (0, u "()V"), (1, .class_ 10), (1, u "java/lang/System"), (0, u "allowSecurityManager"), (0, u "I"), (16, u "cons"), (0, u "Ljava/io/Console;"), (77, .class_ 110), (1, u "java/lang/System$CallersHolder"), (43, u "initialErrStream"), (0, u "Ljava/io/PrintStream;"), (19, u "security"), (0, u "Ljava/lang/SecurityManager;"), (31, .class_ 209), (0, u "java/lang/System$1"), (7, u "props"), (0, u "Ljava/util/Properties;"), (2, u "lineSeparator"), (0, u "Ljava/lang/String;"), (96, .class_ 321), (1, u "java/lang/System$LoggerFinder"), (5, .class_ 328), (0, u "java/lang/System$Logger"), (67, u "err"), (2, u "out"), (91, u "notSupportedJnuEncoding"), (15, u "in"), (17, u "initialIn"), (0, u "Ljava/io/InputStream;"), (35, u "bootLayer"), (0, u "Ljava/lang/ModuleLayer;"), (99, .class_ 664), (0, u "java/lang/System$2"), (9, u "NEVER"), (2, u "MAYBE"), (49, u "arraycopy"), (0, u "(Ljava/lang/Object;ILjava/lang/Object;II)V"), (72, .class_ 802), (0, u "java/lang/System$Logger$Level")] 31

def k24m0 : Method := { name := "<init>", desc := "()V", sig := { parameters := [], returnType := none }, accessFlags := 2, code := none }
def k24m1 : Method := { name := "arraycopy", desc := "(Ljava/lang/Object;ILjava/lang/Object;II)V", sig := { parameters := [(.object "java/lang/Object"), .int, (.object "java/lang/Object"), .int, .int], returnType := none }, accessFlags := 265, code := none }
/-- java/lang/System -/
def k24 : Class := { plain "java/lang/System" (some 0) with
  accessFlags := 49
  interfaces := #[]
  cf := some (fileOf pool24 8 #[.nestMembers #[319, 327, 801, 108, 663, 208]] #[{ accessFlags := 2, nameIndex := 5, descriptorIndex := 6, attributes := #[] }, { accessFlags := 265, nameIndex := 727, descriptorIndex := 728, attributes := #[] }] 49 2 #[] #[{ accessFlags := 25, nameIndex := 507, descriptorIndex := 526, attributes := #[] }, { accessFlags := 25, nameIndex := 399, descriptorIndex := 155, attributes := #[] }, { accessFlags := 25, nameIndex := 396, descriptorIndex := 155, attributes := #[] }, { accessFlags := 10, nameIndex := 525, descriptorIndex := 526, attributes := #[] }, { accessFlags := 26, nameIndex := 674, descriptorIndex := 12, attributes := #[] }, { accessFlags := 26, nameIndex := 677, descriptorIndex := 12, attributes := #[] }, { accessFlags := 10, nameIndex := 11, descriptorIndex := 12, attributes := #[] }, { accessFlags := 74, nameIndex := 175, descriptorIndex := 176, attributes := #[] }, { accessFlags := 10, nameIndex := 491, descriptorIndex := 222, attributes := #[] }, { accessFlags := 74, nameIndex := 29, descriptorIndex := 30, attributes := #[] }, { accessFlags := 74, nameIndex := 154, descriptorIndex := 155, attributes := #[] }, { accessFlags := 10, nameIndex := 217, descriptorIndex := 218, attributes := #[] }, { accessFlags := 10, nameIndex := 221, descriptorIndex := 222, attributes := #[] }, { accessFlags := 8, nameIndex := 562, descriptorIndex := 563, attributes := #[] }])
  fields := #[{ name := "in", type := (.object "java/io/InputStream"), accessFlags := 25, slot := 0, constantValue := 0 }, { name := "out", type := (.object "java/io/PrintStream"), accessFlags := 25, slot := 1, constantValue := 0 }, { name := "err", type := (.object "java/io/PrintStream"), accessFlags := 25, slot := 2, constantValue := 0 }, { name := "initialIn", type := (.object "java/io/InputStream"), accessFlags := 10, slot := 3, constantValue := 0 }, { name := "NEVER", type := .int, accessFlags := 26, slot := 4, constantValue := 0 }, { name := "MAYBE", type := .int, accessFlags := 26, slot := 5, constantValue := 0 }, { name := "allowSecurityManager", type := .int, accessFlags := 10, slot := 6, constantValue := 0 }, { name := "security", type := (.object "java/lang/SecurityManager"), accessFlags := 74, slot := 7, constantValue := 0 }, { name := "notSupportedJnuEncoding", type := (.object "java/lang/String"), accessFlags := 10, slot := 8, constantValue := 0 }, { name := "cons", type := (.object "java/io/Console"), accessFlags := 74, slot := 9, constantValue := 0 }, { name := "initialErrStream", type := (.object "java/io/PrintStream"), accessFlags := 74, slot := 10, constantValue := 0 }, { name := "props", type := (.object "java/util/Properties"), accessFlags := 10, slot := 11, constantValue := 0 }, { name := "lineSeparator", type := (.object "java/lang/String"), accessFlags := 10, slot := 12, constantValue := 0 }, { name := "bootLayer", type := (.object "java/lang/ModuleLayer"), accessFlags := 8, slot := 13, constantValue := 0 }]
  methods := #[k24m0, k24m1]
  instanceTypes := #[]
  staticTypes := #[(.object "java/io/InputStream"), (.object "java/io/PrintStream"), (.object "java/io/PrintStream"), (.object "java/io/InputStream"), .int, .int, .int, (.object "java/lang/SecurityManager"), (.object "java/lang/String"), (.object "java/io/Console"), (.object "java/io/PrintStream"), (.object "java/util/Properties"), (.object "java/lang/String"), (.object "java/lang/ModuleLayer")]
  resolved := Array.replicate 834 none
  statics := none }

def pool25 : Array CpInfo := pool [(6, .class_ 8), (1, u "java/lang/Object"), (0, u "<init>"), (0, u "()V"), (0, .methodref 12 13), (0, .class_ 14), (0, .nameAndType 15 16), (0, u "java/lang/StringUTF16"), (0, u "newBytesLength"), (0, u "(I)I"), (3, .integer 1073741823), (23, .fieldref 12 45), (0, .nameAndType 46 47), (0, u "$assertionsDisabled"), (0, u "Z"), (11, .fieldref 12 60), (0, .nameAndType 61 62), (0, u "HI_BYTE_SHIFT"), (0, u "I"), (0, .fieldref 12 64), (0, .nameAndType 65 62), (0, u "LO_BYTE_SHIFT"), (7, u "getChar"), (0, u "([BI)C"), (34, u "newBytesFor"), (0, u "(I)[B"), (0, .methodref 12 112), (0, .nameAndType 113 114), (0, u "putChar"), (0, u "([BII)V"), (0, .methodref 12 116), (0, .nameAndType 117 118), (0, u "compress"), (0, u "([CI[BII)I"), (2, u "toBytes"), (0, u "([CII)[B"), (138, u "coderFromArrayLen"), (0, u "([BI)B"), (106, .class_ 371), (1, u "java/lang/StringUTF16$LinesSpliterator"), (58, u "MAX_LENGTH"), (44, u "(C)[B"), (151, .class_ 628), (0, u "java/lang/StringUTF16$CodePointsSpliterator"), (0, .class_ 630), (0, u "java/lang/StringUTF16$CharsSpliterator")] 4

def k25m0 : Method := { name := "<init>", desc := "()V", sig := { parameters := [], returnType := none }, accessFlags := 0, code := none }
def k25c1 : Code := { maxStack := 1, maxLocals := 1, code := jdk_52_method_2_code, exceptionTable := #[], attributes := #[] }
def k25m1 : Method := { name := "newBytesFor", desc := "(I)[B", sig := { parameters := [.int], returnType := some (.array .byte) }, accessFlags := 9, code := some k25c1 }
def k25c2 : Code := { maxStack := 4, maxLocals := 1, code := jdk_52_method_3_code, exceptionTable := #[], attributes := #[] }
def k25m2 : Method := { name := "newBytesLength", desc := "(I)I", sig := { parameters := [.int], returnType := some .int }, accessFlags := 9, code := some k25c2 }
def k25c3 : Code := { maxStack := 4, maxLocals := 3, code := jdk_52_method_4_code, exceptionTable := #[], attributes := #[] }
def k25m3 : Method := { name := "putChar", desc := "([BII)V", sig := { parameters := [(.array .byte), .int, .int], returnType := none }, accessFlags := 8, code := some k25c3 }
def k25c4 : Code := { maxStack := 3, maxLocals := 2, code := jdk_52_method_5_code, exceptionTable := #[], attributes := #[] }
def k25m4 : Method := { name := "getChar", desc := "([BI)C", sig := { parameters := [(.array .byte), .int], returnType := some .char }, accessFlags := 8, code := some k25c4 }
def k25c5 : Code := { maxStack := 2, maxLocals := 2, code := jdk_52_method_15_code, exceptionTable := #[], attributes := #[] }
def k25m5 : Method := { name := "coderFromArrayLen", desc := "([BI)B", sig := { parameters := [(.array .byte), .int], returnType := some .byte }, accessFlags := 8, code := some k25c5 }
def k25c6 : Code := { maxStack := 5, maxLocals := 6, code := jdk_52_method_16_code, exceptionTable := #[], attributes := #[] }
def k25m6 : Method := { name := "compress", desc := "([CII)[B", sig := { parameters := [(.array .char), .int, .int], returnType := some (.array .byte) }, accessFlags := 9, code := some k25c6 }
def k25c7 : Code := { maxStack := 3, maxLocals := 7, code := jdk_52_method_21_code, exceptionTable := #[], attributes := #[] }
def k25m7 : Method := { name := "compress", desc := "([CI[BII)I", sig := { parameters := [(.array .char), .int, (.array .byte), .int, .int], returnType := some .int }, accessFlags := 9, code := some k25c7 }
def k25c8 : Code := { maxStack := 3, maxLocals := 2, code := jdk_52_method_24_code, exceptionTable := #[], attributes := #[] }
def k25m8 : Method := { name := "toBytes", desc := "(C)[B", sig := { parameters := [.char], returnType := some (.array .byte) }, accessFlags := 9, code := some k25c8 }
/-- java/lang/StringUTF16 -/
def k25 : Class := { plain "java/lang/StringUTF16" (some 0) with
  accessFlags := 48
  interfaces := #[]
  cf := some (fileOf pool25 12 #[.nestMembers #[627, 629, 369]] #[{ accessFlags := 0, nameIndex := 9, descriptorIndex := 10, attributes := #[] }, { accessFlags := 9, nameIndex := 109, descriptorIndex := 110, attributes := #[] }, { accessFlags := 9, nameIndex := 15, descriptorIndex := 16, attributes := #[] }, { accessFlags := 8, nameIndex := 113, descriptorIndex := 114, attributes := #[] }, { accessFlags := 8, nameIndex := 73, descriptorIndex := 74, attributes := #[] }, { accessFlags := 8, nameIndex := 261, descriptorIndex := 262, attributes := #[] }, { accessFlags := 9, nameIndex := 117, descriptorIndex := 122, attributes := #[] }, { accessFlags := 9, nameIndex := 117, descriptorIndex := 118, attributes := #[] }, { accessFlags := 9, nameIndex := 121, descriptorIndex := 475, attributes := #[] }] 48 6 #[] #[{ accessFlags := 26, nameIndex := 61, descriptorIndex := 62, attributes := #[] }, { accessFlags := 26, nameIndex := 65, descriptorIndex := 62, attributes := #[] }, { accessFlags := 24, nameIndex := 430, descriptorIndex := 62, attributes := #[] }, { accessFlags := 4120, nameIndex := 46, descriptorIndex := 47, attributes := #[] }])
  fields := #[{ name := "HI_BYTE_SHIFT", type := .int, accessFlags := 26, slot := 0, constantValue := 0 }, { name := "LO_BYTE_SHIFT", type := .int, accessFlags := 26, slot := 1, constantValue := 0 }, { name := "MAX_LENGTH", type := .int, accessFlags := 24, slot := 2, constantValue := 0 }, { name := "$assertionsDisabled", type := .boolean, accessFlags := 4120, slot := 3, constantValue := 0 }]
  methods := #[k25m0, k25m1, k25m2, k25m3, k25m4, k25m5, k25m6, k25m7, k25m8]
  instanceTypes := #[]
  staticTypes := #[.int, .int, .int, .boolean]
  resolved := Array.replicate 635 none
  statics := some 4 }

def pool26 : Array CpInfo := pool [(1, .class_ 2), (0, u "java/lang/Character"), (18, u "value"), (0, u "C"), (19, .class_ 44), (1, u "java/lang/Object"), (3, .class_ 50), (1, u "java/lang/Character$CharacterCache"), (24, .integer 55296), (1, .integer 57344), (3, u "(C)Z"), (202, u "$assertionsDisabled"), (0, u "Z"), (21, .class_ 309), (1, u "java/lang/Character$UnicodeBlock"), (73, u "TYPE"), (0, u "Ljava/lang/Class;"), (0, .class_ 386), (0, u "java/io/Serializable"), (0, .class_ 388), (0, u "java/lang/Comparable"), (0, .class_ 390), (0, u "java/lang/constant/Constable"), (0, u "MIN_RADIX"), (0, u "I"), (2, u "MAX_RADIX"), (1, u "MIN_VALUE"), (1, u "MAX_VALUE"), (3, u "UNASSIGNED"), (0, u "B"), (0, u "UPPERCASE_LETTER"), (1, u "LOWERCASE_LETTER"), (0, u "TITLECASE_LETTER"), (1, u "MODIFIER_LETTER"), (1, u "OTHER_LETTER"), (1, u "NON_SPACING_MARK"), (1, u "ENCLOSING_MARK"), (1, u "COMBINING_SPACING_MARK"), (1, u "DECIMAL_DIGIT_NUMBER"), (1, u "LETTER_NUMBER"), (1, u "OTHER_NUMBER"), (1, u "SPACE_SEPARATOR"), (1, u "LINE_SEPARATOR"), (1, u "PARAGRAPH_SEPARATOR"), (1, u "CONTROL"), (1, u "FORMAT"), (1, u "PRIVATE_USE"), (1, u "SURROGATE"), (1, u "DASH_PUNCTUATION"), (1, u "START_PUNCTUATION"), (1, u "END_PUNCTUATION"), (1, u "CONNECTOR_PUNCTUATION"), (1, u "OTHER_PUNCTUATION"), (1, u "MATH_SYMBOL"), (1, u "CURRENCY_SYMBOL"), (1, u "MODIFIER_SYMBOL"), (1, u "OTHER_SYMBOL"), (1, u "INITIAL_QUOTE_PUNCTUATION"), (1, u "FINAL_QUOTE_PUNCTUATION"), (1, u "ERROR"), (1, u "DIRECTIONALITY_UNDEFINED"), (0, u "DIRECTIONALITY_LEFT_TO_RIGHT"), (0, u "DIRECTIONALITY_RIGHT_TO_LEFT"), (0, u "DIRECTIONALITY_RIGHT_TO_LEFT_ARABIC"), (0, u "DIRECTIONALITY_EUROPEAN_NUMBER"), (0, u "DIRECTIONALITY_EUROPEAN_NUMBER_SEPARATOR"), (0, u "DIRECTIONALITY_EUROPEAN_NUMBER_TERMINATOR"), (0, u "DIRECTIONALITY_ARABIC_NUMBER"), (0, u "DIRECTIONALITY_COMMON_NUMBER_SEPARATOR"), (0, u "DIRECTIONALITY_NONSPACING_MARK"), (0, u "DIRECTIONALITY_BOUNDARY_NEUTRAL"), (0, u "DIRECTIONALITY_PARAGRAPH_SEPARATOR"), (0, u "DIRECTIONALITY_SEGMENT_SEPARATOR"), (0, u "DIRECTIONALITY_WHITESPACE"), (0, u "DIRECTIONALITY_OTHER_NEUTRALS"), (0, u "DIRECTIONALITY_LEFT_TO_RIGHT_EMBEDDING"), (0, u "DIRECTIONALITY_LEFT_TO_RIGHT_OVERRIDE"), (0, u "DIRECTIONALITY_RIGHT_TO_LEFT_EMBEDDING"), (0, u "DIRECTIONALITY_RIGHT_TO_LEFT_OVERRIDE"), (1, u "DIRECTIONALITY_POP_DIRECTIONAL_FORMAT"), (0, u "DIRECTIONALITY_LEFT_TO_RIGHT_ISOLATE"), (0, u "DIRECTIONALITY_RIGHT_TO_LEFT_ISOLATE"), (0, u "DIRECTIONALITY_FIRST_STRONG_ISOLATE"), (0, u "DIRECTIONALITY_POP_DIRECTIONAL_ISOLATE"), (0, u "MIN_HIGH_SURROGATE"), (0, u "MAX_HIGH_SURROGATE"), (1, u "MIN_LOW_SURROGATE"), (0, u "MAX_LOW_SURROGATE"), (1, u "MIN_SURROGATE"), (0, u "MAX_SURROGATE"), (0, u "MIN_SUPPLEMENTARY_CODE_POINT"), (0, u "MIN_CODE_POINT"), (0, u "MAX_CODE_POINT"), (1, u "serialVersionUID"), (0, u "J"), (2, u "SIZE"), (0, u "BYTES"), (24, u "isSurrogate"), (63, .class_ 596), (0, u "java/lang/Character$UnicodeScript"), (0, .class_ 598), (0, u "java/lang/Character$Subset")] 5

def k26c0 : Code := { maxStack := 2, maxLocals := 1, code := jdk_89_method_16_code, exceptionTable := #[], attributes := #[] }
def k26m0 : Method := { name := "isSurrogate", desc := "(C)Z", sig := { parameters := [.char], returnType := some .boolean }, accessFlags := 9, code := some k26c0 }
/-- java/lang/Character -/
def k26 : Class := { plain "java/lang/Character" (some 0) with
  accessFlags := 49
  interfaces := #[2, 3, 5]
  cf := some (fileOf pool26 1 #[.nestMembers #[48, 595, 307, 597]] #[{ accessFlags := 9, nameIndex := 531, descriptorIndex := 81, attributes := #[] }] 49 42 #[385, 387, 389] #[{ accessFlags := 25, nameIndex := 391, descriptorIndex := 392, attributes := #[] }, { accessFlags := 25, nameIndex := 395, descriptorIndex := 392, attributes := #[] }, { accessFlags := 25, nameIndex := 397, descriptorIndex := 22, attributes := #[] }, { accessFlags := 25, nameIndex := 399, descriptorIndex := 22, attributes := #[] }, { accessFlags := 25, nameIndex := 383, descriptorIndex := 384, attributes := #[] }, { accessFlags := 25, nameIndex := 403, descriptorIndex := 404, attributes := #[] }, { accessFlags := 25, nameIndex := 405, descriptorIndex := 404, attributes := #[] }, { accessFlags := 25, nameIndex := 407, descriptorIndex := 404, attributes := #[] }, { accessFlags := 25, nameIndex := 408, descriptorIndex := 404, attributes := #[] }, { accessFlags := 25, nameIndex := 410, descriptorIndex := 404, attributes := #[] }, { accessFlags := 25, nameIndex := 412, descriptorIndex := 404, attributes := #[] }, { accessFlags := 25, nameIndex := 414, descriptorIndex := 404, attributes := #[] }, { accessFlags := 25, nameIndex := 416, descriptorIndex := 404, attributes := #[] }, { accessFlags := 25, nameIndex := 418, descriptorIndex := 404, attributes := #[] }, { accessFlags := 25, nameIndex := 420, descriptorIndex := 404, attributes := #[] }, { accessFlags := 25, nameIndex := 422, descriptorIndex := 404, attributes := #[] }, { accessFlags := 25, nameIndex := 424, descriptorIndex := 404, attributes := #[] }, { accessFlags := 25, nameIndex := 426, descriptorIndex := 404, attributes := #[] }, { accessFlags := 25, nameIndex := 428, descriptorIndex := 404, attributes := #[] }, { accessFlags := 25, nameIndex := 430, descriptorIndex := 404, attributes := #[] }, { accessFlags := 25, nameIndex := 432, descriptorIndex := 404, attributes := #[] }, { accessFlags := 25, nameIndex := 434, descriptorIndex := 404, attributes := #[] }, { accessFlags := 25, nameIndex := 436, descriptorIndex := 404, attributes := #[] }, { accessFlags := 25, nameIndex := 438, descriptorIndex := 404, attributes := #[] }, { accessFlags := 25, nameIndex := 440, descriptorIndex := 404, attributes := #[] }, { accessFlags := 25, nameIndex := 442, descriptorIndex := 404, attributes := #[] }, { accessFlags := 25, nameIndex := 444, descriptorIndex := 404, attributes := #[] }, { accessFlags := 25, nameIndex := 446, descriptorIndex := 404, attributes := #[] }, { accessFlags := 25, nameIndex := 448, descriptorIndex := 404, attributes := #[] }, { accessFlags := 25, nameIndex := 450, descriptorIndex := 404, attributes := #[] }, { accessFlags := 25, nameIndex := 452, descriptorIndex := 404, attributes := #[] }, { accessFlags := 25, nameIndex := 454, descriptorIndex := 404, attributes := #[] }, { accessFlags := 25, nameIndex := 456, descriptorIndex := 404, attributes := #[] }, { accessFlags := 25, nameIndex := 458, descriptorIndex := 404, attributes := #[] }, { accessFlags := 25, nameIndex := 460, descriptorIndex := 404, attributes := #[] }, { accessFlags := 24, nameIndex := 462, descriptorIndex := 392, attributes := #[] }, { accessFlags := 25, nameIndex := 464, descriptorIndex := 404, attributes := #[] }, { accessFlags := 25, nameIndex := 465, descriptorIndex := 404, attributes := #[] }, { accessFlags := 25, nameIndex := 466, descriptorIndex := 404, attributes := #[] }, { accessFlags := 25, nameIndex := 467, descriptorIndex := 404, attributes := #[] }, { accessFlags := 25, nameIndex := 468, descriptorIndex := 404, attributes := #[] }, { accessFlags := 25, nameIndex := 469, descriptorIndex := 404, attributes := #[] }, { accessFlags := 25, nameIndex := 470, descriptorIndex := 404, attributes := #[] }, { accessFlags := 25, nameIndex := 471, descriptorIndex := 404, attributes := #[] }, { accessFlags := 25, nameIndex := 472, descriptorIndex := 404, attributes := #[] }, { accessFlags := 25, nameIndex := 473, descriptorIndex := 404, attributes := #[] }, { accessFlags := 25, nameIndex := 474, descriptorIndex := 404, attributes := #[] }, { accessFlags := 25, nameIndex := 475, descriptorIndex := 404, attributes := #[] }, { accessFlags := 25, nameIndex := 476, descriptorIndex := 404, attributes := #[] }, { accessFlags := 25, nameIndex := 477, descriptorIndex := 404, attributes := #[] }, { accessFlags := 25, nameIndex := 478, descriptorIndex := 404, attributes := #[] }, { accessFlags := 25, nameIndex := 479, descriptorIndex := 404, attributes := #[] }, { accessFlags := 25, nameIndex := 480, descriptorIndex := 404, attributes := #[] }, { accessFlags := 25, nameIndex := 481, descriptorIndex := 404, attributes := #[] }, { accessFlags := 25, nameIndex := 482, descriptorIndex := 404, attributes := #[] }, { accessFlags := 25, nameIndex := 484, descriptorIndex := 404, attributes := #[] }, { accessFlags := 25, nameIndex := 485, descriptorIndex := 404, attributes := #[] }, { accessFlags := 25, nameIndex := 486, descriptorIndex := 404, attributes := #[] }, { accessFlags := 25, nameIndex := 487, descriptorIndex := 404, attributes := #[] }, { accessFlags := 25, nameIndex := 488, descriptorIndex := 404, attributes := #[] }, { accessFlags := 25, nameIndex := 489, descriptorIndex := 22, attributes := #[] }, { accessFlags := 25, nameIndex := 490, descriptorIndex := 22, attributes := #[] }, { accessFlags := 25, nameIndex := 492, descriptorIndex := 22, attributes := #[] }, { accessFlags := 25, nameIndex := 493, descriptorIndex := 22, attributes := #[] }, { accessFlags := 25, nameIndex := 495, descriptorIndex := 22, attributes := #[] }, { accessFlags := 25, nameIndex := 496, descriptorIndex := 22, attributes := #[] }, { accessFlags := 25, nameIndex := 497, descriptorIndex := 392, attributes := #[] }, { accessFlags := 25, nameIndex := 498, descriptorIndex := 392, attributes := #[] }, { accessFlags := 25, nameIndex := 499, descriptorIndex := 392, attributes := #[] }, { accessFlags := 18, nameIndex := 21, descriptorIndex := 22, attributes := #[] }, { accessFlags := 26, nameIndex := 501, descriptorIndex := 502, attributes := #[] }, { accessFlags := 25, nameIndex := 505, descriptorIndex := 392, attributes := #[] }, { accessFlags := 25, nameIndex := 506, descriptorIndex := 392, attributes := #[] }, { accessFlags := 4120, nameIndex := 284, descriptorIndex := 285, attributes := #[] }])
  fields := #[{ name := "MIN_RADIX", type := .int, accessFlags := 25, slot := 0, constantValue := 0 }, { name := "MAX_RADIX", type := .int, accessFlags := 25, slot := 1, constantValue := 0 }, { name := "MIN_VALUE", type := .char, accessFlags := 25, slot := 2, constantValue := 0 }, { name := "MAX_VALUE", type := .char, accessFlags := 25, slot := 3, constantValue := 0 }, { name := "TYPE", type := (.object "java/lang/Class"), accessFlags := 25, slot := 4, constantValue := 0 }, { name := "UNASSIGNED", type := .byte, accessFlags := 25, slot := 5, constantValue := 0 }, { name := "UPPERCASE_LETTER", type := .byte, accessFlags := 25, slot := 6, constantValue := 0 }, { name := "LOWERCASE_LETTER", type := .byte, accessFlags := 25, slot := 7, constantValue := 0 }, { name := "TITLECASE_LETTER", type := .byte, accessFlags := 25, slot := 8, constantValue := 0 }, { name := "MODIFIER_LETTER", type := .byte, accessFlags := 25, slot := 9, constantValue := 0 }, { name := "OTHER_LETTER", type := .byte, accessFlags := 25, slot := 10, constantValue := 0 }, { name := "NON_SPACING_MARK", type := .byte, accessFlags := 25, slot := 11, constantValue := 0 }, { name := "ENCLOSING_MARK", type := .byte, accessFlags := 25, slot := 12, constantValue := 0 }, { name := "COMBINING_SPACING_MARK", type := .byte, accessFlags := 25, slot := 13, constantValue := 0 }, { name := "DECIMAL_DIGIT_NUMBER", type := .byte, accessFlags := 25, slot := 14, constantValue := 0 }, { name := "LETTER_NUMBER", type := .byte, accessFlags := 25, slot := 15, constantValue := 0 }, { name := "OTHER_NUMBER", type := .byte, accessFlags := 25, slot := 16, constantValue := 0 }, { name := "SPACE_SEPARATOR", type := .byte, accessFlags := 25, slot := 17, constantValue := 0 }, { name := "LINE_SEPARATOR", type := .byte, accessFlags := 25, slot := 18, constantValue := 0 }, { name := "PARAGRAPH_SEPARATOR", type := .byte, accessFlags := 25, slot := 19, constantValue := 0 }, { name := "CONTROL", type := .byte, accessFlags := 25, slot := 20, constantValue := 0 }, { name := "FORMAT", type := .byte, accessFlags := 25, slot := 21, constantValue := 0 }, { name := "PRIVATE_USE", type := .byte, accessFlags := 25, slot := 22, constantValue := 0 }, { name := "SURROGATE", type := .byte, accessFlags := 25, slot := 23, constantValue := 0 }, { name := "DASH_PUNCTUATION", type := .byte, accessFlags := 25, slot := 24, constantValue := 0 }, { name := "START_PUNCTUATION", type := .byte, accessFlags := 25, slot := 25, constantValue := 0 }, { name := "END_PUNCTUATION", type := .byte, accessFlags := 25, slot := 26, constantValue := 0 }, { name := "CONNECTOR_PUNCTUATION", type := .byte, accessFlags := 25, slot := 27, constantValue := 0 }, { name := "OTHER_PUNCTUATION", type := .byte, accessFlags := 25, slot := 28, constantValue := 0 }, { name := "MATH_SYMBOL", type := .byte, accessFlags := 25, slot := 29, constantValue := 0 }, { name := "CURRENCY_SYMBOL", type := .byte, accessFlags := 25, slot := 30, constantValue := 0 }, { name := "MODIFIER_SYMBOL", type := .byte, accessFlags := 25, slot := 31, constantValue := 0 }, { name := "OTHER_SYMBOL", type := .byte, accessFlags := 25, slot := 32, constantValue := 0 }, { name := "INITIAL_QUOTE_PUNCTUATION", type := .byte, accessFlags := 25, slot := 33, constantValue := 0 }, { name := "FINAL_QUOTE_PUNCTUATION", type := .byte, accessFlags := 25, slot := 34, constantValue := 0 }, { name := "ERROR", type := .int, accessFlags := 24, slot := 35, constantValue := 0 }, { name := "DIRECTIONALITY_UNDEFINED", type := .byte, accessFlags := 25, slot := 36, constantValue := 0 }, { name := "DIRECTIONALITY_LEFT_TO_RIGHT", type := .byte, accessFlags := 25, slot := 37, constantValue := 0 }, { name := "DIRECTIONALITY_RIGHT_TO_LEFT", type := .byte, accessFlags := 25, slot := 38, constantValue := 0 }, { name := "DIRECTIONALITY_RIGHT_TO_LEFT_ARABIC", type := .byte, accessFlags := 25, slot := 39, constantValue := 0 }, { name := "DIRECTIONALITY_EUROPEAN_NUMBER", type := .byte, accessFlags := 25, slot := 40, constantValue := 0 }, { name := "DIRECTIONALITY_EUROPEAN_NUMBER_SEPARATOR", type := .byte, accessFlags := 25, slot := 41, constantValue := 0 }, { name := "DIRECTIONALITY_EUROPEAN_NUMBER_TERMINATOR", type := .byte, accessFlags := 25, slot := 42, constantValue := 0 }, { name := "DIRECTIONALITY_ARABIC_NUMBER", type := .byte, accessFlags := 25, slot := 43, constantValue := 0 }, { name := "DIRECTIONALITY_COMMON_NUMBER_SEPARATOR", type := .byte, accessFlags := 25, slot := 44, constantValue := 0 }, { name := "DIRECTIONALITY_NONSPACING_MARK", type := .byte, accessFlags := 25, slot := 45, constantValue := 0 }, { name := "DIRECTIONALITY_BOUNDARY_NEUTRAL", type := .byte, accessFlags := 25, slot := 46, constantValue := 0 }, { name := "DIRECTIONALITY_PARAGRAPH_SEPARATOR", type := .byte, accessFlags := 25, slot := 47, constantValue := 0 }, { name := "DIRECTIONALITY_SEGMENT_SEPARATOR", type := .byte, accessFlags := 25, slot := 48, constantValue := 0 }, { name := "DIRECTIONALITY_WHITESPACE", type := .byte, accessFlags := 25, slot := 49, constantValue := 0 }, { name := "DIRECTIONALITY_OTHER_NEUTRALS", type := .byte, accessFlags := 25, slot := 50, constantValue := 0 }, { name := "DIRECTIONALITY_LEFT_TO_RIGHT_EMBEDDING", type := .byte, accessFlags := 25, slot := 51, constantValue := 0 }, { name := "DIRECTIONALITY_LEFT_TO_RIGHT_OVERRIDE", type := .byte, accessFlags := 25, slot := 52, constantValue := 0 }, { name := "DIRECTIONALITY_RIGHT_TO_LEFT_EMBEDDING", type := .byte, accessFlags := 25, slot := 53, constantValue := 0 }, { name := "DIRECTIONALITY_RIGHT_TO_LEFT_OVERRIDE", type := .byte, accessFlags := 25, slot := 54, constantValue := 0 }, { name := "DIRECTIONALITY_POP_DIRECTIONAL_FORMAT", type := .byte, accessFlags := 25, slot := 55, constantValue := 0 }, { name := "DIRECTIONALITY_LEFT_TO_RIGHT_ISOLATE", type := .byte, accessFlags := 25, slot := 56, constantValue := 0 }, { name := "DIRECTIONALITY_RIGHT_TO_LEFT_ISOLATE", type := .byte, accessFlags := 25, slot := 57, constantValue := 0 }, { name := "DIRECTIONALITY_FIRST_STRONG_ISOLATE", type := .byte, accessFlags := 25, slot := 58, constantValue := 0 }, { name := "DIRECTIONALITY_POP_DIRECTIONAL_ISOLATE", type := .byte, accessFlags := 25, slot := 59, constantValue := 0 }, { name := "MIN_HIGH_SURROGATE", type := .char, accessFlags := 25, slot := 60, constantValue := 0 }, { name := "MAX_HIGH_SURROGATE", type := .char, accessFlags := 25, slot := 61, constantValue := 0 }, { name := "MIN_LOW_SURROGATE", type := .char, accessFlags := 25, slot := 62, constantValue := 0 }, { name := "MAX_LOW_SURROGATE", type := .char, accessFlags := 25, slot := 63, constantValue := 0 }, { name := "MIN_SURROGATE", type := .char, accessFlags := 25, slot := 64, constantValue := 0 }, { name := "MAX_SURROGATE", type := .char, accessFlags := 25, slot := 65, constantValue := 0 }, { name := "MIN_SUPPLEMENTARY_CODE_POINT", type := .int, accessFlags := 25, slot := 66, constantValue := 0 }, { name := "MIN_CODE_POINT", type := .int, accessFlags := 25, slot := 67, constantValue := 0 }, { name := "MAX_CODE_POINT", type := .int, accessFlags := 25, slot := 68, constantValue := 0 }, { name := "value", type := .char, accessFlags := 18, slot := 0, constantValue := 0 }, { name := "serialVersionUID", type := .long, accessFlags := 26, slot := 69, constantValue := 0 }, { name := "SIZE", type := .int, accessFlags := 25, slot := 70, constantValue := 0 }, { name := "BYTES", type := .int, accessFlags := 25, slot := 71, constantValue := 0 }, { name := "$assertionsDisabled", type := .boolean, accessFlags := 4120, slot := 72, constantValue := 0 }]
  methods := #[k26m0]
  instanceTypes := #[.char]
  staticTypes := #[.int, .int, .char, .char, (.object "java/lang/Class"), .byte, .byte, .byte, .byte, .byte, .byte, .byte, .byte, .byte, .byte, .byte, .byte, .byte, .byte, .byte, .byte, .byte, .byte, .byte, .byte, .byte, .byte, .byte, .byte, .byte, .byte, .byte, .byte, .byte, .byte, .int, .byte, .byte, .byte, .byte, .byte, .byte, .byte, .byte, .byte, .byte, .byte, .byte, .byte, .byte, .byte, .byte, .byte, .byte, .byte, .byte, .byte, .byte, .byte, .byte, .char, .char, .char, .char, .char, .char, .int, .int, .int, .long, .int, .int, .boolean]
  resolved := Array.replicate 604 none
  statics := none }

/-- the primitive byte -/
def k27 : Class := { plain "byte" none with kind := .primitive 'B', accessFlags := 0x411 }
/-- [B -/
def k28 : Class := { plain "[B" (some 0) with kind := .array 27 .byte, interfaces := #[19, 2], accessFlags := 1041 }

/-- the primitive char -/
def k29 : Class := { plain "char" none with kind := .primitive 'C', accessFlags := 0x411 }
/-- [C -/
def k30 : Class := { plain "[C" (some 0) with kind := .array 29 .char, interfaces := #[19, 2], accessFlags := 1041 }

/-- the primitive int -/
def k31 : Class := { plain "int" none with kind := .primitive 'I', accessFlags := 0x411 }
/-- [I -/
def k32 : Class := { plain "[I" (some 0) with kind := .array 31 .int, interfaces := #[19, 2], accessFlags := 1041 }

def heap : Heap := #[{ cls := 7, slots := #[.long 0, .int 1, .null, .int 0, .null, .int 0, .int 0], vm := .statics 7 },
  { cls := 13, slots := #[.null, .null, .ref 5, .null, .null, .null], vm := .statics 13 },
  { cls := 17, slots := #[.ref 5, .null], vm := .statics 17 },
  { cls := 21, slots := #[.null, .null, .null], vm := .statics 21 },
  { cls := 25, slots := #[.int 0, .int 8, .int 0, .int 1], vm := .statics 25 },
  { cls := 17, slots := #[.null, .null, .null], vm := .none }]
def classes : Array Class := #[k0, k1, k2, k3, k4, k5, k6, k7, k8, k9, k10, k11, k12, k13, k14, k15, k16, k17, k18, k19, k20, k21, k22, k23, k24, k25, k26, k27, k28, k29, k30, k31, k32]
def interned : List (Array UInt16 × Addr) := []
def slotsUsed : Nat := 25
def theMethod : MethodId := ⟨1, 1⟩
def args0 : Array Value := #[.int 233, .int 0]
def aboutOver (below : List Frame) : State where
  vm := { classes := classes, interned := interned.toArray }
  heap := heap
  slotsUsed := slotsUsed
  threads := #[{ frames := .invoking theMethod args0 :: below }]
def below0 : List Frame := [.native { method := ⟨0, 0⟩, args := #[] }]
def about1 : State := aboutOver below0
def p0 : Program := .bare "" "" ""
def e0 : Env := launch0.env 0 0 0
theorem w_frames : about1.frames = Frame.invoking theMethod args0 :: below0 := rfl
set_option maxRecDepth 65536 in
theorem w_args : argsFit about1.vm theMethod args0 = true := by decide +kernel
set_option maxRecDepth 65536 in
theorem w_heap : heapFits about1 = true := by decide +kernel
set_option maxRecDepth 65536 in
theorem w_runnable : about1.curStatus? = some .runnable := by decide +kernel
set_option maxRecDepth 65536 in
theorem w_alone : about1.alone = true := by decide +kernel
set_option maxRecDepth 65536 in
theorem w_named : about1.methodNamed? x = some theMethod := by decide +kernel
set_option maxRecDepth 65536 in
theorem w_hears : about1.hears theMethod below0 = true := by decide +kernel
set_option maxRecDepth 65536 in
theorem w_ripe : about1.ripe theMethod args0 below0 = true := by decide +kernel
theorem w_running : about1.status = .running := rfl
set_option maxRecDepth 65536 in
theorem w_room : about1.hasRoom e0.platform room_1 = true :=
  launch0.hasRoom_least _ room_1 (by decide +kernel) (by decide +kernel) (by decide +kernel) (by decide +kernel) (by decide +kernel) (by decide +kernel)
theorem allAtoms_all (ts : List Jvm.Cond) (a : Array Jvm.Value) (st : Jvm.State) : (allAtoms ts).before a st = ts.all (fun c => c.before a st) := by
  induction ts with
  | nil => rfl
  | cons c t ih =>
    show (Jvm.Cond.and c (allAtoms t)).before a st = _
    rw [Jvm.Cond.before_and, ih, List.all_cons]
def words1 : List Jvm.Cond := Jvm.Cond.code x code maxLocals ret :: tables_1
/-- a 'code' word, met by the world's own term for the bytes: nothing is compared byte by byte -/
theorem code_word {y : MethodName} {bytes : ByteArray} {mx : Nat} {rt : Option FieldType} {a : Array Value} {s : State} {m : MethodId} {meth : Method} {c : Code} (h1 : s.methodNamed? y = some m) (h2 : s.vm.method? m = some meth) (h3 : meth.code = some c) (h4 : c.code = bytes)
    (h5 : (c.maxLocals == mx && c.exceptionTable.isEmpty && decide (c.maxStack ≤ mostOperands) && decide (meth.sig.returnType = rt) && !meth.locks && decide (parseMethodDescriptor y.desc = some meth.sig)) = true) : (Jvm.Cond.code y bytes mx rt).before a s = true := by
  simp only [Bool.and_eq_true, beq_iff_eq, Bool.not_eq_true', decide_eq_true_eq] at h5
  obtain ⟨⟨⟨⟨⟨g1, g2⟩, g3⟩, g4⟩, g5⟩, g6⟩ := h5
  simp [Cond.before, Cond.holds, Cond.value, h1, h2, h3, h4, g1, g2, g3, g4, g5, g6]
def isCode : Jvm.Cond → Bool
  | .code _ _ _ _ => true
  | _ => false
theorem all_split {L : List Jvm.Cond} {P : Jvm.Cond → Bool} (h1 : L.all (fun c => isCode c || P c) = true) (h2 : ∀ c ∈ L.filter isCode, P c = true) : L.all P = true := by
  refine List.all_eq_true.mpr fun c hc => ?_
  have h := List.all_eq_true.mp h1 c hc
  rcases Bool.eq_false_or_eq_true (isCode c) with hi | hi
  · exact h2 c (List.mem_filter.mpr ⟨hc, hi⟩)
  · simpa [hi] using h
set_option maxRecDepth 65536 in
theorem w_c0 : (Jvm.Cond.code x code maxLocals ret).before args0 about1 = true := code_word (m := ⟨1, 1⟩) (meth := k1m1) (c := k1c1) (by decide +kernel) rfl rfl rfl (by decide +kernel)
set_option maxRecDepth 65536 in
theorem w_c1 : (Jvm.Cond.code ({ cls := "java/lang/String", name := "valueOf", desc := "(C)Ljava/lang/String;" } : Jvm.MethodName) jdk_42_method_139_code (1 : Nat) (Option.some (Jvm.ClassFile.FieldType.object "java/lang/String"))).before args0 about1 = true := code_word (m := ⟨7, 13⟩) (meth := k7m13) (c := k7c13) (by decide +kernel) rfl rfl rfl (by decide +kernel)
set_option maxRecDepth 65536 in
theorem w_c2 : (Jvm.Cond.code ({ cls := "java/lang/StringLatin1", name := "canEncode", desc := "(C)Z" } : Jvm.MethodName) jdk_43_method_3_code (1 : Nat) (Option.some Jvm.ClassFile.FieldType.boolean)).before args0 about1 = true := code_word (m := ⟨8, 2⟩) (meth := k8m2) (c := k8c2) (by decide +kernel) rfl rfl rfl (by decide +kernel)
set_option maxRecDepth 65536 in
theorem w_c3 : (Jvm.Cond.code ({ cls := "java/lang/StringLatin1", name := "toBytes", desc := "(C)[B" } : Jvm.MethodName) jdk_43_method_46_code (1 : Nat) (Option.some (Jvm.ClassFile.FieldType.array Jvm.ClassFile.FieldType.byte))).before args0 about1 = true := code_word (m := ⟨8, 7⟩) (meth := k8m7) (c := k8c7) (by decide +kernel) rfl rfl rfl (by decide +kernel)
set_option maxRecDepth 65536 in
theorem w_c4 : (Jvm.Cond.code ({ cls := "java/lang/String", name := "<init>", desc := "([BB)V" } : Jvm.MethodName) jdk_42_method_151_code (3 : Nat) (Option.none : Option Jvm.ClassFile.FieldType)).before args0 about1 = true := code_word (m := ⟨7, 16⟩) (meth := k7m16) (c := k7c16) (by decide +kernel) rfl rfl rfl (by decide +kernel)
set_option maxRecDepth 65536 in
theorem w_c5 : (Jvm.Cond.code ({ cls := "java/lang/Object", name := "<init>", desc := "()V" } : Jvm.MethodName) object_method_1_code (1 : Nat) (Option.none : Option Jvm.ClassFile.FieldType)).before args0 about1 = true := code_word (m := ⟨0, 0⟩) (meth := k0m0) (c := k0c0) (by decide +kernel) rfl rfl rfl (by decide +kernel)
set_option maxRecDepth 65536 in
theorem w_c6 : (Jvm.Cond.code ({ cls := "com/example/exact_rest/exactrest/PathSegments", name := "encode", desc := "(Ljava/lang/String;)Ljava/lang/String;" } : Jvm.MethodName) prog_13_method_3_code (7 : Nat) (Option.some (Jvm.ClassFile.FieldType.object "java/lang/String"))).before args0 about1 = true := code_word (m := ⟨9, 1⟩) (meth := k9m1) (c := k9c1) (by decide +kernel) rfl rfl rfl (by decide +kernel)
set_option maxRecDepth 65536 in
theorem w_c7 : (Jvm.Cond.code ({ cls := "java/lang/String", name := "length", desc := "()I" } : Jvm.MethodName) jdk_42_method_54_code (1 : Nat) (Option.some Jvm.ClassFile.FieldType.int)).before args0 about1 = true := code_word (m := ⟨7, 6⟩) (meth := k7m6) (c := k7c6) (by decide +kernel) rfl rfl rfl (by decide +kernel)
set_option maxRecDepth 65536 in
theorem w_c8 : (Jvm.Cond.code ({ cls := "java/lang/String", name := "coder", desc := "()B" } : Jvm.MethodName) jdk_42_method_152_code (1 : Nat) (Option.some Jvm.ClassFile.FieldType.byte)).before args0 about1 = true := code_word (m := ⟨7, 17⟩) (meth := k7m17) (c := k7c17) (by decide +kernel) rfl rfl rfl (by decide +kernel)
set_option maxRecDepth 65536 in
theorem w_c9 : (Jvm.Cond.code ({ cls := "java/lang/StringBuilder", name := "<init>", desc := "(I)V" } : Jvm.MethodName) jdk_67_method_2_code (2 : Nat) (Option.none : Option Jvm.ClassFile.FieldType)).before args0 about1 = true := code_word (m := ⟨12, 1⟩) (meth := k12m1) (c := k12c1) (by decide +kernel) rfl rfl rfl (by decide +kernel)
set_option maxRecDepth 65536 in
theorem w_c10 : (Jvm.Cond.code ({ cls := "java/lang/AbstractStringBuilder", name := "<init>", desc := "(I)V" } : Jvm.MethodName) jdk_68_method_2_code (2 : Nat) (Option.none : Option Jvm.ClassFile.FieldType)).before args0 about1 = true := code_word (m := ⟨11, 1⟩) (meth := k11m1) (c := k11c1) (by decide +kernel) rfl rfl rfl (by decide +kernel)
set_option maxRecDepth 65536 in
theorem w_c11 : (Jvm.Cond.code ({ cls := "java/lang/String", name := "getBytes", desc := "(Ljava/nio/charset/Charset;)[B" } : Jvm.MethodName) jdk_42_method_64_code (2 : Nat) (Option.some (Jvm.ClassFile.FieldType.array Jvm.ClassFile.FieldType.byte))).before args0 about1 = true := code_word (m := ⟨7, 9⟩) (meth := k7m9) (c := k7c9) (by decide +kernel) rfl rfl rfl (by decide +kernel)
set_option maxRecDepth 65536 in
theorem w_c12 : (Jvm.Cond.code ({ cls := "java/lang/String", name := "encode", desc := "(Ljava/nio/charset/Charset;B[B)[B" } : Jvm.MethodName) jdk_42_method_18_code (3 : Nat) (Option.some (Jvm.ClassFile.FieldType.array Jvm.ClassFile.FieldType.byte))).before args0 about1 = true := code_word (m := ⟨7, 2⟩) (meth := k7m2) (c := k7c2) (by decide +kernel) rfl rfl rfl (by decide +kernel)
set_option maxRecDepth 65536 in
theorem w_c13 : (Jvm.Cond.code ({ cls := "java/lang/String", name := "encodeUTF8", desc := "(B[BZ)[B" } : Jvm.MethodName) jdk_42_method_46_code (9 : Nat) (Option.some (Jvm.ClassFile.FieldType.array Jvm.ClassFile.FieldType.byte))).before args0 about1 = true := code_word (m := ⟨7, 3⟩) (meth := k7m3) (c := k7c3) (by decide +kernel) rfl rfl rfl (by decide +kernel)
set_option maxRecDepth 65536 in
theorem w_c14 : (Jvm.Cond.code ({ cls := "java/lang/StringCoding", name := "hasNegatives", desc := "([BII)Z" } : Jvm.MethodName) jdk_123_method_2_code (3 : Nat) (Option.some Jvm.ClassFile.FieldType.boolean)).before args0 about1 = true := code_word (m := ⟨18, 1⟩) (meth := k18m1) (c := k18c1) (by decide +kernel) rfl rfl rfl (by decide +kernel)
set_option maxRecDepth 65536 in
theorem w_c15 : (Jvm.Cond.code ({ cls := "java/lang/StringCoding", name := "countPositives", desc := "([BII)I" } : Jvm.MethodName) jdk_123_method_3_code (5 : Nat) (Option.some Jvm.ClassFile.FieldType.int)).before args0 about1 = true := code_word (m := ⟨18, 2⟩) (meth := k18m2) (c := k18c2) (by decide +kernel) rfl rfl rfl (by decide +kernel)
set_option maxRecDepth 65536 in
theorem w_c16 : (Jvm.Cond.code ({ cls := "com/example/exact_rest/exactrest/PathSegments", name := "isPathCharacter", desc := "(C)Z" } : Jvm.MethodName) prog_13_method_4_code (1 : Nat) (Option.some Jvm.ClassFile.FieldType.boolean)).before args0 about1 = true := code_word (m := ⟨9, 2⟩) (meth := k9m2) (c := k9c2) (by decide +kernel) rfl rfl rfl (by decide +kernel)
set_option maxRecDepth 65536 in
theorem w_c17 : (Jvm.Cond.code ({ cls := "java/lang/String", name := "indexOf", desc := "(I)I" } : Jvm.MethodName) jdk_42_method_79_code (2 : Nat) (Option.some Jvm.ClassFile.FieldType.int)).before args0 about1 = true := code_word (m := ⟨7, 11⟩) (meth := k7m11) (c := k7c11) (by decide +kernel) rfl rfl rfl (by decide +kernel)
set_option maxRecDepth 65536 in
theorem w_c18 : (Jvm.Cond.code ({ cls := "java/lang/String", name := "indexOf", desc := "(II)I" } : Jvm.MethodName) jdk_42_method_80_code (3 : Nat) (Option.some Jvm.ClassFile.FieldType.int)).before args0 about1 = true := code_word (m := ⟨7, 12⟩) (meth := k7m12) (c := k7c12) (by decide +kernel) rfl rfl rfl (by decide +kernel)
set_option maxRecDepth 65536 in
theorem w_c19 : (Jvm.Cond.code ({ cls := "java/lang/String", name := "isLatin1", desc := "()Z" } : Jvm.MethodName) jdk_42_method_154_code (1 : Nat) (Option.some Jvm.ClassFile.FieldType.boolean)).before args0 about1 = true := code_word (m := ⟨7, 18⟩) (meth := k7m18) (c := k7c18) (by decide +kernel) rfl rfl rfl (by decide +kernel)
set_option maxRecDepth 65536 in
theorem w_c20 : (Jvm.Cond.code ({ cls := "java/lang/StringLatin1", name := "indexOf", desc := "([BIII)I" } : Jvm.MethodName) jdk_43_method_22_code (4 : Nat) (Option.some Jvm.ClassFile.FieldType.int)).before args0 about1 = true := code_word (m := ⟨8, 5⟩) (meth := k8m5) (c := k8c5) (by decide +kernel) rfl rfl rfl (by decide +kernel)
set_option maxRecDepth 65536 in
theorem w_c21 : (Jvm.Cond.code ({ cls := "java/lang/StringLatin1", name := "canEncode", desc := "(I)Z" } : Jvm.MethodName) jdk_43_method_4_code (1 : Nat) (Option.some Jvm.ClassFile.FieldType.boolean)).before args0 about1 = true := code_word (m := ⟨8, 3⟩) (meth := k8m3) (c := k8c3) (by decide +kernel) rfl rfl rfl (by decide +kernel)
set_option maxRecDepth 65536 in
theorem w_c22 : (Jvm.Cond.code ({ cls := "java/lang/Math", name := "max", desc := "(II)I" } : Jvm.MethodName) jdk_29_method_65_code (2 : Nat) (Option.some Jvm.ClassFile.FieldType.int)).before args0 about1 = true := code_word (m := ⟨20, 1⟩) (meth := k20m1) (c := k20c1) (by decide +kernel) rfl rfl rfl (by decide +kernel)
set_option maxRecDepth 65536 in
theorem w_c23 : (Jvm.Cond.code ({ cls := "java/lang/Math", name := "min", desc := "(II)I" } : Jvm.MethodName) jdk_29_method_69_code (2 : Nat) (Option.some Jvm.ClassFile.FieldType.int)).before args0 about1 = true := code_word (m := ⟨20, 2⟩) (meth := k20m2) (c := k20c2) (by decide +kernel) rfl rfl rfl (by decide +kernel)
set_option maxRecDepth 65536 in
theorem w_c24 : (Jvm.Cond.code ({ cls := "java/lang/StringLatin1", name := "indexOfChar", desc := "([BIII)I" } : Jvm.MethodName) jdk_43_method_23_code (6 : Nat) (Option.some Jvm.ClassFile.FieldType.int)).before args0 about1 = true := code_word (m := ⟨8, 6⟩) (meth := k8m6) (c := k8c6) (by decide +kernel) rfl rfl rfl (by decide +kernel)
set_option maxRecDepth 65536 in
theorem w_c25 : (Jvm.Cond.code ({ cls := "java/lang/StringBuilder", name := "append", desc := "(C)Ljava/lang/StringBuilder;" } : Jvm.MethodName) jdk_67_method_14_code (2 : Nat) (Option.some (Jvm.ClassFile.FieldType.object "java/lang/StringBuilder"))).before args0 about1 = true := code_word (m := ⟨12, 2⟩) (meth := k12m2) (c := k12c2) (by decide +kernel) rfl rfl rfl (by decide +kernel)
set_option maxRecDepth 65536 in
theorem w_c26 : (Jvm.Cond.code ({ cls := "java/lang/AbstractStringBuilder", name := "append", desc := "(C)Ljava/lang/AbstractStringBuilder;" } : Jvm.MethodName) jdk_68_method_31_code (2 : Nat) (Option.some (Jvm.ClassFile.FieldType.object "java/lang/AbstractStringBuilder"))).before args0 about1 = true := code_word (m := ⟨11, 5⟩) (meth := k11m5) (c := k11c5) (by decide +kernel) rfl rfl rfl (by decide +kernel)
set_option maxRecDepth 65536 in
theorem w_c27 : (Jvm.Cond.code ({ cls := "java/lang/AbstractStringBuilder", name := "ensureCapacityInternal", desc := "(I)V" } : Jvm.MethodName) jdk_68_method_9_code (3 : Nat) (Option.none : Option Jvm.ClassFile.FieldType)).before args0 about1 = true := code_word (m := ⟨11, 3⟩) (meth := k11m3) (c := k11c3) (by decide +kernel) rfl rfl rfl (by decide +kernel)
set_option maxRecDepth 65536 in
theorem w_c28 : (Jvm.Cond.code ({ cls := "java/lang/AbstractStringBuilder", name := "isLatin1", desc := "()Z" } : Jvm.MethodName) jdk_68_method_68_code (1 : Nat) (Option.some Jvm.ClassFile.FieldType.boolean)).before args0 about1 = true := code_word (m := ⟨11, 7⟩) (meth := k11m7) (c := k11c7) (by decide +kernel) rfl rfl rfl (by decide +kernel)
set_option maxRecDepth 65536 in
theorem w_c29 : (Jvm.Cond.code ({ cls := "java/lang/String", name := "charAt", desc := "(I)C" } : Jvm.MethodName) jdk_42_method_56_code (2 : Nat) (Option.some Jvm.ClassFile.FieldType.char)).before args0 about1 = true := code_word (m := ⟨7, 8⟩) (meth := k7m8) (c := k7c8) (by decide +kernel) rfl rfl rfl (by decide +kernel)
set_option maxRecDepth 65536 in
theorem w_c30 : (Jvm.Cond.code ({ cls := "java/lang/StringLatin1", name := "charAt", desc := "([BI)C" } : Jvm.MethodName) jdk_43_method_2_code (2 : Nat) (Option.some Jvm.ClassFile.FieldType.char)).before args0 about1 = true := code_word (m := ⟨8, 1⟩) (meth := k8m1) (c := k8c1) (by decide +kernel) rfl rfl rfl (by decide +kernel)
set_option maxRecDepth 65536 in
theorem w_c31 : (Jvm.Cond.code ({ cls := "java/lang/String", name := "checkIndex", desc := "(II)V" } : Jvm.MethodName) jdk_42_method_155_code (2 : Nat) (Option.none : Option Jvm.ClassFile.FieldType)).before args0 about1 = true := code_word (m := ⟨7, 19⟩) (meth := k7m19) (c := k7c19) (by decide +kernel) rfl rfl rfl (by decide +kernel)
set_option maxRecDepth 65536 in
theorem w_c32 : (Jvm.Cond.code ({ cls := "jdk/internal/util/Preconditions", name := "checkIndex", desc := "(IILjava/util/function/BiFunction;)I" } : Jvm.MethodName) jdk_41_method_11_code (3 : Nat) (Option.some Jvm.ClassFile.FieldType.int)).before args0 about1 = true := code_word (m := ⟨21, 1⟩) (meth := k21m1) (c := k21c1) (by decide +kernel) rfl rfl rfl (by decide +kernel)
set_option maxRecDepth 65536 in
theorem w_c33 : (Jvm.Cond.code ({ cls := "java/lang/AbstractStringBuilder", name := "newCapacity", desc := "(I)I" } : Jvm.MethodName) jdk_68_method_10_code (6 : Nat) (Option.some Jvm.ClassFile.FieldType.int)).before args0 about1 = true := code_word (m := ⟨11, 4⟩) (meth := k11m4) (c := k11c4) (by decide +kernel) rfl rfl rfl (by decide +kernel)
set_option maxRecDepth 65536 in
theorem w_c34 : (Jvm.Cond.code ({ cls := "jdk/internal/util/ArraysSupport", name := "newLength", desc := "(III)I" } : Jvm.MethodName) jdk_48_method_27_code (4 : Nat) (Option.some Jvm.ClassFile.FieldType.int)).before args0 about1 = true := code_word (m := ⟨22, 1⟩) (meth := k22m1) (c := k22c1) (by decide +kernel) rfl rfl rfl (by decide +kernel)
set_option maxRecDepth 65536 in
theorem w_c35 : (Jvm.Cond.code ({ cls := "java/util/Arrays", name := "copyOf", desc := "([BI)[B" } : Jvm.MethodName) jdk_65_method_121_code (3 : Nat) (Option.some (Jvm.ClassFile.FieldType.array Jvm.ClassFile.FieldType.byte))).before args0 about1 = true := code_word (m := ⟨23, 1⟩) (meth := k23m1) (c := k23c1) (by decide +kernel) rfl rfl rfl (by decide +kernel)
set_option maxRecDepth 65536 in
theorem w_c36 : (Jvm.Cond.code ({ cls := "java/lang/StringBuilder", name := "toString", desc := "()Ljava/lang/String;" } : Jvm.MethodName) jdk_67_method_42_code (1 : Nat) (Option.some (Jvm.ClassFile.FieldType.object "java/lang/String"))).before args0 about1 = true := code_word (m := ⟨12, 3⟩) (meth := k12m3) (c := k12c3) (by decide +kernel) rfl rfl rfl (by decide +kernel)
set_option maxRecDepth 65536 in
theorem w_c37 : (Jvm.Cond.code ({ cls := "java/lang/String", name := "<init>", desc := "(Ljava/lang/StringBuilder;)V" } : Jvm.MethodName) jdk_42_method_53_code (2 : Nat) (Option.none : Option Jvm.ClassFile.FieldType)).before args0 about1 = true := code_word (m := ⟨7, 5⟩) (meth := k7m5) (c := k7c5) (by decide +kernel) rfl rfl rfl (by decide +kernel)
set_option maxRecDepth 65536 in
theorem w_c38 : (Jvm.Cond.code ({ cls := "java/lang/String", name := "<init>", desc := "(Ljava/lang/AbstractStringBuilder;Ljava/lang/Void;)V" } : Jvm.MethodName) jdk_42_method_150_code (5 : Nat) (Option.none : Option Jvm.ClassFile.FieldType)).before args0 about1 = true := code_word (m := ⟨7, 15⟩) (meth := k7m15) (c := k7c15) (by decide +kernel) rfl rfl rfl (by decide +kernel)
set_option maxRecDepth 65536 in
theorem w_c39 : (Jvm.Cond.code ({ cls := "java/lang/AbstractStringBuilder", name := "getValue", desc := "()[B" } : Jvm.MethodName) jdk_68_method_64_code (1 : Nat) (Option.some (Jvm.ClassFile.FieldType.array Jvm.ClassFile.FieldType.byte))).before args0 about1 = true := code_word (m := ⟨11, 6⟩) (meth := k11m6) (c := k11c6) (by decide +kernel) rfl rfl rfl (by decide +kernel)
set_option maxRecDepth 65536 in
theorem w_c40 : (Jvm.Cond.code ({ cls := "java/lang/StringBuilder", name := "length", desc := "()I" } : Jvm.MethodName) jdk_67_method_93_code (1 : Nat) (Option.some Jvm.ClassFile.FieldType.int)).before args0 about1 = true := code_word (m := ⟨12, 4⟩) (meth := k12m4) (c := k12c4) (by decide +kernel) rfl rfl rfl (by decide +kernel)
set_option maxRecDepth 65536 in
theorem w_c41 : (Jvm.Cond.code ({ cls := "java/lang/AbstractStringBuilder", name := "length", desc := "()I" } : Jvm.MethodName) jdk_68_method_6_code (1 : Nat) (Option.some Jvm.ClassFile.FieldType.int)).before args0 about1 = true := code_word (m := ⟨11, 2⟩) (meth := k11m2) (c := k11c2) (by decide +kernel) rfl rfl rfl (by decide +kernel)
set_option maxRecDepth 65536 in
theorem w_c42 : (Jvm.Cond.code ({ cls := "java/util/Arrays", name := "copyOfRange", desc := "([BII)[B" } : Jvm.MethodName) jdk_65_method_132_code (3 : Nat) (Option.some (Jvm.ClassFile.FieldType.array Jvm.ClassFile.FieldType.byte))).before args0 about1 = true := code_word (m := ⟨23, 3⟩) (meth := k23m3) (c := k23c3) (by decide +kernel) rfl rfl rfl (by decide +kernel)
set_option maxRecDepth 65536 in
theorem w_c43 : (Jvm.Cond.code ({ cls := "java/util/Arrays", name := "copyOfRangeByte", desc := "([BII)[B" } : Jvm.MethodName) jdk_65_method_133_code (5 : Nat) (Option.some (Jvm.ClassFile.FieldType.array Jvm.ClassFile.FieldType.byte))).before args0 about1 = true := code_word (m := ⟨23, 4⟩) (meth := k23m4) (c := k23c4) (by decide +kernel) rfl rfl rfl (by decide +kernel)
set_option maxRecDepth 65536 in
theorem w_c44 : (Jvm.Cond.code ({ cls := "java/util/Arrays", name := "checkLength", desc := "(II)V" } : Jvm.MethodName) jdk_65_method_131_code (2 : Nat) (Option.none : Option Jvm.ClassFile.FieldType)).before args0 about1 = true := code_word (m := ⟨23, 2⟩) (meth := k23m2) (c := k23c2) (by decide +kernel) rfl rfl rfl (by decide +kernel)
set_option maxRecDepth 65536 in
theorem w_c45 : (Jvm.Cond.code ({ cls := "com/example/exact_rest/exactrest/PathSegmentsEncodePinLaw", name := "allowed", desc := "(I)Z" } : Jvm.MethodName) method_4_code (1 : Nat) (Option.some Jvm.ClassFile.FieldType.boolean)).before args0 about1 = true := code_word (m := ⟨1, 3⟩) (meth := k1m3) (c := k1c3) (by decide +kernel) rfl rfl rfl (by decide +kernel)
set_option maxRecDepth 65536 in
theorem w_c46 : (Jvm.Cond.code ({ cls := "com/example/exact_rest/exactrest/PathSegmentsEncodePinLaw", name := "hex", desc := "(I)C" } : Jvm.MethodName) method_3_code (1 : Nat) (Option.some Jvm.ClassFile.FieldType.char)).before args0 about1 = true := code_word (m := ⟨1, 2⟩) (meth := k1m2) (c := k1c2) (by decide +kernel) rfl rfl rfl (by decide +kernel)
set_option maxRecDepth 65536 in
theorem w_c47 : (Jvm.Cond.code ({ cls := "java/lang/String", name := "<init>", desc := "([C)V" } : Jvm.MethodName) jdk_42_method_3_code (2 : Nat) (Option.none : Option Jvm.ClassFile.FieldType)).before args0 about1 = true := code_word (m := ⟨7, 1⟩) (meth := k7m1) (c := k7c1) (by decide +kernel) rfl rfl rfl (by decide +kernel)
set_option maxRecDepth 65536 in
theorem w_c48 : (Jvm.Cond.code ({ cls := "java/lang/String", name := "<init>", desc := "([CIILjava/lang/Void;)V" } : Jvm.MethodName) jdk_42_method_149_code (6 : Nat) (Option.none : Option Jvm.ClassFile.FieldType)).before args0 about1 = true := code_word (m := ⟨7, 14⟩) (meth := k7m14) (c := k7c14) (by decide +kernel) rfl rfl rfl (by decide +kernel)
set_option maxRecDepth 65536 in
theorem w_c49 : (Jvm.Cond.code ({ cls := "java/lang/StringUTF16", name := "compress", desc := "([CII)[B" } : Jvm.MethodName) jdk_52_method_16_code (6 : Nat) (Option.some (Jvm.ClassFile.FieldType.array Jvm.ClassFile.FieldType.byte))).before args0 about1 = true := code_word (m := ⟨25, 6⟩) (meth := k25m6) (c := k25c6) (by decide +kernel) rfl rfl rfl (by decide +kernel)
set_option maxRecDepth 65536 in
theorem w_c50 : (Jvm.Cond.code ({ cls := "java/lang/StringUTF16", name := "compress", desc := "([CI[BII)I" } : Jvm.MethodName) jdk_52_method_21_code (7 : Nat) (Option.some Jvm.ClassFile.FieldType.int)).before args0 about1 = true := code_word (m := ⟨25, 7⟩) (meth := k25m7) (c := k25c7) (by decide +kernel) rfl rfl rfl (by decide +kernel)
set_option maxRecDepth 65536 in
theorem w_c51 : (Jvm.Cond.code ({ cls := "java/lang/StringUTF16", name := "coderFromArrayLen", desc := "([BI)B" } : Jvm.MethodName) jdk_52_method_15_code (2 : Nat) (Option.some Jvm.ClassFile.FieldType.byte)).before args0 about1 = true := code_word (m := ⟨25, 5⟩) (meth := k25m5) (c := k25c5) (by decide +kernel) rfl rfl rfl (by decide +kernel)
set_option maxRecDepth 65536 in
theorem w_c52 : (Jvm.Cond.code ({ cls := "java/lang/String", name := "equals", desc := "(Ljava/lang/Object;)Z" } : Jvm.MethodName) jdk_42_method_66_code (3 : Nat) (Option.some Jvm.ClassFile.FieldType.boolean)).before args0 about1 = true := code_word (m := ⟨7, 10⟩) (meth := k7m10) (c := k7c10) (by decide +kernel) rfl rfl rfl (by decide +kernel)
set_option maxRecDepth 65536 in
theorem w_c53 : (Jvm.Cond.code ({ cls := "java/lang/StringLatin1", name := "equals", desc := "([B[B)Z" } : Jvm.MethodName) jdk_43_method_13_code (3 : Nat) (Option.some Jvm.ClassFile.FieldType.boolean)).before args0 about1 = true := code_word (m := ⟨8, 4⟩) (meth := k8m4) (c := k8c4) (by decide +kernel) rfl rfl rfl (by decide +kernel)
set_option maxRecDepth 65536 in
theorem w_c54 : (Jvm.Cond.code ({ cls := "java/lang/String", name := "isEmpty", desc := "()Z" } : Jvm.MethodName) jdk_42_method_55_code (1 : Nat) (Option.some Jvm.ClassFile.FieldType.boolean)).before args0 about1 = true := code_word (m := ⟨7, 7⟩) (meth := k7m7) (c := k7c7) (by decide +kernel) rfl rfl rfl (by decide +kernel)
set_option maxRecDepth 65536 in
theorem w_c55 : (Jvm.Cond.code ({ cls := "java/lang/StringUTF16", name := "toBytes", desc := "(C)[B" } : Jvm.MethodName) jdk_52_method_24_code (2 : Nat) (Option.some (Jvm.ClassFile.FieldType.array Jvm.ClassFile.FieldType.byte))).before args0 about1 = true := code_word (m := ⟨25, 8⟩) (meth := k25m8) (c := k25c8) (by decide +kernel) rfl rfl rfl (by decide +kernel)
set_option maxRecDepth 65536 in
theorem w_c56 : (Jvm.Cond.code ({ cls := "java/lang/StringUTF16", name := "putChar", desc := "([BII)V" } : Jvm.MethodName) jdk_52_method_4_code (3 : Nat) (Option.none : Option Jvm.ClassFile.FieldType)).before args0 about1 = true := code_word (m := ⟨25, 3⟩) (meth := k25m3) (c := k25c3) (by decide +kernel) rfl rfl rfl (by decide +kernel)
set_option maxRecDepth 65536 in
theorem w_c57 : (Jvm.Cond.code ({ cls := "java/lang/String", name := "encodeUTF8_UTF16", desc := "([BZ)[B" } : Jvm.MethodName) jdk_42_method_47_code (9 : Nat) (Option.some (Jvm.ClassFile.FieldType.array Jvm.ClassFile.FieldType.byte))).before args0 about1 = true := code_word (m := ⟨7, 4⟩) (meth := k7m4) (c := k7c4) (by decide +kernel) rfl rfl rfl (by decide +kernel)
set_option maxRecDepth 65536 in
theorem w_c58 : (Jvm.Cond.code ({ cls := "java/lang/StringUTF16", name := "getChar", desc := "([BI)C" } : Jvm.MethodName) jdk_52_method_5_code (2 : Nat) (Option.some Jvm.ClassFile.FieldType.char)).before args0 about1 = true := code_word (m := ⟨25, 4⟩) (meth := k25m4) (c := k25c4) (by decide +kernel) rfl rfl rfl (by decide +kernel)
set_option maxRecDepth 65536 in
theorem w_c59 : (Jvm.Cond.code ({ cls := "java/lang/Character", name := "isSurrogate", desc := "(C)Z" } : Jvm.MethodName) jdk_89_method_16_code (1 : Nat) (Option.some Jvm.ClassFile.FieldType.boolean)).before args0 about1 = true := code_word (m := ⟨26, 0⟩) (meth := k26m0) (c := k26c0) (by decide +kernel) rfl rfl rfl (by decide +kernel)
set_option maxRecDepth 65536 in
theorem w_c60 : (Jvm.Cond.code ({ cls := "java/lang/StringUTF16", name := "newBytesFor", desc := "(I)[B" } : Jvm.MethodName) jdk_52_method_2_code (1 : Nat) (Option.some (Jvm.ClassFile.FieldType.array Jvm.ClassFile.FieldType.byte))).before args0 about1 = true := code_word (m := ⟨25, 1⟩) (meth := k25m1) (c := k25c1) (by decide +kernel) rfl rfl rfl (by decide +kernel)
set_option maxRecDepth 65536 in
theorem w_c61 : (Jvm.Cond.code ({ cls := "java/lang/StringUTF16", name := "newBytesLength", desc := "(I)I" } : Jvm.MethodName) jdk_52_method_3_code (1 : Nat) (Option.some Jvm.ClassFile.FieldType.int)).before args0 about1 = true := code_word (m := ⟨25, 2⟩) (meth := k25m2) (c := k25c2) (by decide +kernel) rfl rfl rfl (by decide +kernel)
def codes1 : List Jvm.Cond := [Jvm.Cond.code x code maxLocals ret, Jvm.Cond.code ({ cls := "java/lang/String", name := "valueOf", desc := "(C)Ljava/lang/String;" } : Jvm.MethodName) jdk_42_method_139_code (1 : Nat) (Option.some (Jvm.ClassFile.FieldType.object "java/lang/String")), Jvm.Cond.code ({ cls := "java/lang/StringLatin1", name := "canEncode", desc := "(C)Z" } : Jvm.MethodName) jdk_43_method_3_code (1 : Nat) (Option.some Jvm.ClassFile.FieldType.boolean), Jvm.Cond.code ({ cls := "java/lang/StringLatin1", name := "toBytes", desc := "(C)[B" } : Jvm.MethodName) jdk_43_method_46_code (1 : Nat) (Option.some (Jvm.ClassFile.FieldType.array Jvm.ClassFile.FieldType.byte)), Jvm.Cond.code ({ cls := "java/lang/String", name := "<init>", desc := "([BB)V" } : Jvm.MethodName) jdk_42_method_151_code (3 : Nat) (Option.none : Option Jvm.ClassFile.FieldType), Jvm.Cond.code ({ cls := "java/lang/Object", name := "<init>", desc := "()V" } : Jvm.MethodName) object_method_1_code (1 : Nat) (Option.none : Option Jvm.ClassFile.FieldType), Jvm.Cond.code ({ cls := "com/example/exact_rest/exactrest/PathSegments", name := "encode", desc := "(Ljava/lang/String;)Ljava/lang/String;" } : Jvm.MethodName) prog_13_method_3_code (7 : Nat) (Option.some (Jvm.ClassFile.FieldType.object "java/lang/String")), Jvm.Cond.code ({ cls := "java/lang/String", name := "length", desc := "()I" } : Jvm.MethodName) jdk_42_method_54_code (1 : Nat) (Option.some Jvm.ClassFile.FieldType.int), Jvm.Cond.code ({ cls := "java/lang/String", name := "coder", desc := "()B" } : Jvm.MethodName) jdk_42_method_152_code (1 : Nat) (Option.some Jvm.ClassFile.FieldType.byte), Jvm.Cond.code ({ cls := "java/lang/StringBuilder", name := "<init>", desc := "(I)V" } : Jvm.MethodName) jdk_67_method_2_code (2 : Nat) (Option.none : Option Jvm.ClassFile.FieldType), Jvm.Cond.code ({ cls := "java/lang/AbstractStringBuilder", name := "<init>", desc := "(I)V" } : Jvm.MethodName) jdk_68_method_2_code (2 : Nat) (Option.none : Option Jvm.ClassFile.FieldType), Jvm.Cond.code ({ cls := "java/lang/String", name := "getBytes", desc := "(Ljava/nio/charset/Charset;)[B" } : Jvm.MethodName) jdk_42_method_64_code (2 : Nat) (Option.some (Jvm.ClassFile.FieldType.array Jvm.ClassFile.FieldType.byte)), Jvm.Cond.code ({ cls := "java/lang/String", name := "encode", desc := "(Ljava/nio/charset/Charset;B[B)[B" } : Jvm.MethodName) jdk_42_method_18_code (3 : Nat) (Option.some (Jvm.ClassFile.FieldType.array Jvm.ClassFile.FieldType.byte)), Jvm.Cond.code ({ cls := "java/lang/String", name := "encodeUTF8", desc := "(B[BZ)[B" } : Jvm.MethodName) jdk_42_method_46_code (9 : Nat) (Option.some (Jvm.ClassFile.FieldType.array Jvm.ClassFile.FieldType.byte)), Jvm.Cond.code ({ cls := "java/lang/StringCoding", name := "hasNegatives", desc := "([BII)Z" } : Jvm.MethodName) jdk_123_method_2_code (3 : Nat) (Option.some Jvm.ClassFile.FieldType.boolean), Jvm.Cond.code ({ cls := "java/lang/StringCoding", name := "countPositives", desc := "([BII)I" } : Jvm.MethodName) jdk_123_method_3_code (5 : Nat) (Option.some Jvm.ClassFile.FieldType.int), Jvm.Cond.code ({ cls := "com/example/exact_rest/exactrest/PathSegments", name := "isPathCharacter", desc := "(C)Z" } : Jvm.MethodName) prog_13_method_4_code (1 : Nat) (Option.some Jvm.ClassFile.FieldType.boolean), Jvm.Cond.code ({ cls := "java/lang/String", name := "indexOf", desc := "(I)I" } : Jvm.MethodName) jdk_42_method_79_code (2 : Nat) (Option.some Jvm.ClassFile.FieldType.int), Jvm.Cond.code ({ cls := "java/lang/String", name := "indexOf", desc := "(II)I" } : Jvm.MethodName) jdk_42_method_80_code (3 : Nat) (Option.some Jvm.ClassFile.FieldType.int), Jvm.Cond.code ({ cls := "java/lang/String", name := "isLatin1", desc := "()Z" } : Jvm.MethodName) jdk_42_method_154_code (1 : Nat) (Option.some Jvm.ClassFile.FieldType.boolean), Jvm.Cond.code ({ cls := "java/lang/StringLatin1", name := "indexOf", desc := "([BIII)I" } : Jvm.MethodName) jdk_43_method_22_code (4 : Nat) (Option.some Jvm.ClassFile.FieldType.int), Jvm.Cond.code ({ cls := "java/lang/StringLatin1", name := "canEncode", desc := "(I)Z" } : Jvm.MethodName) jdk_43_method_4_code (1 : Nat) (Option.some Jvm.ClassFile.FieldType.boolean), Jvm.Cond.code ({ cls := "java/lang/Math", name := "max", desc := "(II)I" } : Jvm.MethodName) jdk_29_method_65_code (2 : Nat) (Option.some Jvm.ClassFile.FieldType.int), Jvm.Cond.code ({ cls := "java/lang/Math", name := "min", desc := "(II)I" } : Jvm.MethodName) jdk_29_method_69_code (2 : Nat) (Option.some Jvm.ClassFile.FieldType.int), Jvm.Cond.code ({ cls := "java/lang/StringLatin1", name := "indexOfChar", desc := "([BIII)I" } : Jvm.MethodName) jdk_43_method_23_code (6 : Nat) (Option.some Jvm.ClassFile.FieldType.int), Jvm.Cond.code ({ cls := "java/lang/StringBuilder", name := "append", desc := "(C)Ljava/lang/StringBuilder;" } : Jvm.MethodName) jdk_67_method_14_code (2 : Nat) (Option.some (Jvm.ClassFile.FieldType.object "java/lang/StringBuilder")), Jvm.Cond.code ({ cls := "java/lang/AbstractStringBuilder", name := "append", desc := "(C)Ljava/lang/AbstractStringBuilder;" } : Jvm.MethodName) jdk_68_method_31_code (2 : Nat) (Option.some (Jvm.ClassFile.FieldType.object "java/lang/AbstractStringBuilder")), Jvm.Cond.code ({ cls := "java/lang/AbstractStringBuilder", name := "ensureCapacityInternal", desc := "(I)V" } : Jvm.MethodName) jdk_68_method_9_code (3 : Nat) (Option.none : Option Jvm.ClassFile.FieldType), Jvm.Cond.code ({ cls := "java/lang/AbstractStringBuilder", name := "isLatin1", desc := "()Z" } : Jvm.MethodName) jdk_68_method_68_code (1 : Nat) (Option.some Jvm.ClassFile.FieldType.boolean), Jvm.Cond.code ({ cls := "java/lang/String", name := "charAt", desc := "(I)C" } : Jvm.MethodName) jdk_42_method_56_code (2 : Nat) (Option.some Jvm.ClassFile.FieldType.char), Jvm.Cond.code ({ cls := "java/lang/StringLatin1", name := "charAt", desc := "([BI)C" } : Jvm.MethodName) jdk_43_method_2_code (2 : Nat) (Option.some Jvm.ClassFile.FieldType.char), Jvm.Cond.code ({ cls := "java/lang/String", name := "checkIndex", desc := "(II)V" } : Jvm.MethodName) jdk_42_method_155_code (2 : Nat) (Option.none : Option Jvm.ClassFile.FieldType), Jvm.Cond.code ({ cls := "jdk/internal/util/Preconditions", name := "checkIndex", desc := "(IILjava/util/function/BiFunction;)I" } : Jvm.MethodName) jdk_41_method_11_code (3 : Nat) (Option.some Jvm.ClassFile.FieldType.int), Jvm.Cond.code ({ cls := "java/lang/AbstractStringBuilder", name := "newCapacity", desc := "(I)I" } : Jvm.MethodName) jdk_68_method_10_code (6 : Nat) (Option.some Jvm.ClassFile.FieldType.int), Jvm.Cond.code ({ cls := "jdk/internal/util/ArraysSupport", name := "newLength", desc := "(III)I" } : Jvm.MethodName) jdk_48_method_27_code (4 : Nat) (Option.some Jvm.ClassFile.FieldType.int), Jvm.Cond.code ({ cls := "java/util/Arrays", name := "copyOf", desc := "([BI)[B" } : Jvm.MethodName) jdk_65_method_121_code (3 : Nat) (Option.some (Jvm.ClassFile.FieldType.array Jvm.ClassFile.FieldType.byte)), Jvm.Cond.code ({ cls := "java/lang/StringBuilder", name := "toString", desc := "()Ljava/lang/String;" } : Jvm.MethodName) jdk_67_method_42_code (1 : Nat) (Option.some (Jvm.ClassFile.FieldType.object "java/lang/String")), Jvm.Cond.code ({ cls := "java/lang/String", name := "<init>", desc := "(Ljava/lang/StringBuilder;)V" } : Jvm.MethodName) jdk_42_method_53_code (2 : Nat) (Option.none : Option Jvm.ClassFile.FieldType), Jvm.Cond.code ({ cls := "java/lang/String", name := "<init>", desc := "(Ljava/lang/AbstractStringBuilder;Ljava/lang/Void;)V" } : Jvm.MethodName) jdk_42_method_150_code (5 : Nat) (Option.none : Option Jvm.ClassFile.FieldType), Jvm.Cond.code ({ cls := "java/lang/AbstractStringBuilder", name := "getValue", desc := "()[B" } : Jvm.MethodName) jdk_68_method_64_code (1 : Nat) (Option.some (Jvm.ClassFile.FieldType.array Jvm.ClassFile.FieldType.byte)), Jvm.Cond.code ({ cls := "java/lang/StringBuilder", name := "length", desc := "()I" } : Jvm.MethodName) jdk_67_method_93_code (1 : Nat) (Option.some Jvm.ClassFile.FieldType.int), Jvm.Cond.code ({ cls := "java/lang/AbstractStringBuilder", name := "length", desc := "()I" } : Jvm.MethodName) jdk_68_method_6_code (1 : Nat) (Option.some Jvm.ClassFile.FieldType.int), Jvm.Cond.code ({ cls := "java/util/Arrays", name := "copyOfRange", desc := "([BII)[B" } : Jvm.MethodName) jdk_65_method_132_code (3 : Nat) (Option.some (Jvm.ClassFile.FieldType.array Jvm.ClassFile.FieldType.byte)), Jvm.Cond.code ({ cls := "java/util/Arrays", name := "copyOfRangeByte", desc := "([BII)[B" } : Jvm.MethodName) jdk_65_method_133_code (5 : Nat) (Option.some (Jvm.ClassFile.FieldType.array Jvm.ClassFile.FieldType.byte)), Jvm.Cond.code ({ cls := "java/util/Arrays", name := "checkLength", desc := "(II)V" } : Jvm.MethodName) jdk_65_method_131_code (2 : Nat) (Option.none : Option Jvm.ClassFile.FieldType), Jvm.Cond.code ({ cls := "com/example/exact_rest/exactrest/PathSegmentsEncodePinLaw", name := "allowed", desc := "(I)Z" } : Jvm.MethodName) method_4_code (1 : Nat) (Option.some Jvm.ClassFile.FieldType.boolean), Jvm.Cond.code ({ cls := "com/example/exact_rest/exactrest/PathSegmentsEncodePinLaw", name := "hex", desc := "(I)C" } : Jvm.MethodName) method_3_code (1 : Nat) (Option.some Jvm.ClassFile.FieldType.char), Jvm.Cond.code ({ cls := "java/lang/String", name := "<init>", desc := "([C)V" } : Jvm.MethodName) jdk_42_method_3_code (2 : Nat) (Option.none : Option Jvm.ClassFile.FieldType), Jvm.Cond.code ({ cls := "java/lang/String", name := "<init>", desc := "([CIILjava/lang/Void;)V" } : Jvm.MethodName) jdk_42_method_149_code (6 : Nat) (Option.none : Option Jvm.ClassFile.FieldType), Jvm.Cond.code ({ cls := "java/lang/StringUTF16", name := "compress", desc := "([CII)[B" } : Jvm.MethodName) jdk_52_method_16_code (6 : Nat) (Option.some (Jvm.ClassFile.FieldType.array Jvm.ClassFile.FieldType.byte)), Jvm.Cond.code ({ cls := "java/lang/StringUTF16", name := "compress", desc := "([CI[BII)I" } : Jvm.MethodName) jdk_52_method_21_code (7 : Nat) (Option.some Jvm.ClassFile.FieldType.int), Jvm.Cond.code ({ cls := "java/lang/StringUTF16", name := "coderFromArrayLen", desc := "([BI)B" } : Jvm.MethodName) jdk_52_method_15_code (2 : Nat) (Option.some Jvm.ClassFile.FieldType.byte), Jvm.Cond.code ({ cls := "java/lang/String", name := "equals", desc := "(Ljava/lang/Object;)Z" } : Jvm.MethodName) jdk_42_method_66_code (3 : Nat) (Option.some Jvm.ClassFile.FieldType.boolean), Jvm.Cond.code ({ cls := "java/lang/StringLatin1", name := "equals", desc := "([B[B)Z" } : Jvm.MethodName) jdk_43_method_13_code (3 : Nat) (Option.some Jvm.ClassFile.FieldType.boolean), Jvm.Cond.code ({ cls := "java/lang/String", name := "isEmpty", desc := "()Z" } : Jvm.MethodName) jdk_42_method_55_code (1 : Nat) (Option.some Jvm.ClassFile.FieldType.boolean), Jvm.Cond.code ({ cls := "java/lang/StringUTF16", name := "toBytes", desc := "(C)[B" } : Jvm.MethodName) jdk_52_method_24_code (2 : Nat) (Option.some (Jvm.ClassFile.FieldType.array Jvm.ClassFile.FieldType.byte)), Jvm.Cond.code ({ cls := "java/lang/StringUTF16", name := "putChar", desc := "([BII)V" } : Jvm.MethodName) jdk_52_method_4_code (3 : Nat) (Option.none : Option Jvm.ClassFile.FieldType), Jvm.Cond.code ({ cls := "java/lang/String", name := "encodeUTF8_UTF16", desc := "([BZ)[B" } : Jvm.MethodName) jdk_42_method_47_code (9 : Nat) (Option.some (Jvm.ClassFile.FieldType.array Jvm.ClassFile.FieldType.byte)), Jvm.Cond.code ({ cls := "java/lang/StringUTF16", name := "getChar", desc := "([BI)C" } : Jvm.MethodName) jdk_52_method_5_code (2 : Nat) (Option.some Jvm.ClassFile.FieldType.char), Jvm.Cond.code ({ cls := "java/lang/Character", name := "isSurrogate", desc := "(C)Z" } : Jvm.MethodName) jdk_89_method_16_code (1 : Nat) (Option.some Jvm.ClassFile.FieldType.boolean), Jvm.Cond.code ({ cls := "java/lang/StringUTF16", name := "newBytesFor", desc := "(I)[B" } : Jvm.MethodName) jdk_52_method_2_code (1 : Nat) (Option.some (Jvm.ClassFile.FieldType.array Jvm.ClassFile.FieldType.byte)), Jvm.Cond.code ({ cls := "java/lang/StringUTF16", name := "newBytesLength", desc := "(I)I" } : Jvm.MethodName) jdk_52_method_3_code (1 : Nat) (Option.some Jvm.ClassFile.FieldType.int)]
set_option maxRecDepth 65536 in
theorem codes_eq : words1.filter isCode = codes1 := rfl
theorem w_codes : ∀ c ∈ words1.filter isCode, c.before args0 about1 = true := by
  rw [codes_eq]
  intro c hc
  simp only [codes1, List.mem_cons, List.not_mem_nil, or_false] at hc
  rcases hc with rfl | rfl | rfl | rfl | rfl | rfl | rfl | rfl | rfl | rfl | rfl | rfl | rfl | rfl | rfl | rfl | rfl | rfl | rfl | rfl | rfl | rfl | rfl | rfl | rfl | rfl | rfl | rfl | rfl | rfl | rfl | rfl | rfl | rfl | rfl | rfl | rfl | rfl | rfl | rfl | rfl | rfl | rfl | rfl | rfl | rfl | rfl | rfl | rfl | rfl | rfl | rfl | rfl | rfl | rfl | rfl | rfl | rfl | rfl | rfl | rfl | rfl
  · exact w_c0
  · exact w_c1
  · exact w_c2
  · exact w_c3
  · exact w_c4
  · exact w_c5
  · exact w_c6
  · exact w_c7
  · exact w_c8
  · exact w_c9
  · exact w_c10
  · exact w_c11
  · exact w_c12
  · exact w_c13
  · exact w_c14
  · exact w_c15
  · exact w_c16
  · exact w_c17
  · exact w_c18
  · exact w_c19
  · exact w_c20
  · exact w_c21
  · exact w_c22
  · exact w_c23
  · exact w_c24
  · exact w_c25
  · exact w_c26
  · exact w_c27
  · exact w_c28
  · exact w_c29
  · exact w_c30
  · exact w_c31
  · exact w_c32
  · exact w_c33
  · exact w_c34
  · exact w_c35
  · exact w_c36
  · exact w_c37
  · exact w_c38
  · exact w_c39
  · exact w_c40
  · exact w_c41
  · exact w_c42
  · exact w_c43
  · exact w_c44
  · exact w_c45
  · exact w_c46
  · exact w_c47
  · exact w_c48
  · exact w_c49
  · exact w_c50
  · exact w_c51
  · exact w_c52
  · exact w_c53
  · exact w_c54
  · exact w_c55
  · exact w_c56
  · exact w_c57
  · exact w_c58
  · exact w_c59
  · exact w_c60
  · exact w_c61
set_option maxRecDepth 65536 in
theorem w_t1 : (words1.take 24).all (fun c => isCode c || c.before args0 about1) = true := by decide +kernel
set_option maxRecDepth 65536 in
theorem w_t2 : ((words1.drop 24).take 24).all (fun c => isCode c || c.before args0 about1) = true := by decide +kernel
set_option maxRecDepth 65536 in
theorem w_t3 : (((words1.drop 24).drop 24).take 24).all (fun c => isCode c || c.before args0 about1) = true := by decide +kernel
set_option maxRecDepth 65536 in
theorem w_t4 : ((((words1.drop 24).drop 24).drop 24).take 24).all (fun c => isCode c || c.before args0 about1) = true := by decide +kernel
set_option maxRecDepth 65536 in
theorem w_t5 : (((((words1.drop 24).drop 24).drop 24).drop 24).take 24).all (fun c => isCode c || c.before args0 about1) = true := by decide +kernel
set_option maxRecDepth 65536 in
theorem w_t6 : ((((((words1.drop 24).drop 24).drop 24).drop 24).drop 24).take 24).all (fun c => isCode c || c.before args0 about1) = true := by decide +kernel
set_option maxRecDepth 65536 in
theorem w_t7 : (((((((words1.drop 24).drop 24).drop 24).drop 24).drop 24).drop 24).take 24).all (fun c => isCode c || c.before args0 about1) = true := by decide +kernel
set_option maxRecDepth 65536 in
theorem w_t8 : ((((((((words1.drop 24).drop 24).drop 24).drop 24).drop 24).drop 24).drop 24).take 24).all (fun c => isCode c || c.before args0 about1) = true := by decide +kernel
set_option maxRecDepth 65536 in
theorem w_t9 : (((((((((words1.drop 24).drop 24).drop 24).drop 24).drop 24).drop 24).drop 24).drop 24).take 24).all (fun c => isCode c || c.before args0 about1) = true := by decide +kernel
set_option maxRecDepth 65536 in
theorem w_t10 : ((((((((((words1.drop 24).drop 24).drop 24).drop 24).drop 24).drop 24).drop 24).drop 24).drop 24).take 24).all (fun c => isCode c || c.before args0 about1) = true := by decide +kernel
set_option maxRecDepth 65536 in
theorem w_t11 : (((((((((((words1.drop 24).drop 24).drop 24).drop 24).drop 24).drop 24).drop 24).drop 24).drop 24).drop 24).take 24).all (fun c => isCode c || c.before args0 about1) = true := by decide +kernel
set_option maxRecDepth 65536 in
theorem w_t12 : ((((((((((((words1.drop 24).drop 24).drop 24).drop 24).drop 24).drop 24).drop 24).drop 24).drop 24).drop 24).drop 24).take 24).all (fun c => isCode c || c.before args0 about1) = true := by decide +kernel
set_option maxRecDepth 65536 in
theorem w_t13 : ((((((((((((words1.drop 24).drop 24).drop 24).drop 24).drop 24).drop 24).drop 24).drop 24).drop 24).drop 24).drop 24).drop 24).all (fun c => isCode c || c.before args0 about1) = true := by decide +kernel
theorem w_tables : (allAtoms (Jvm.Cond.code x code maxLocals ret :: tables_1)).before args0 about1 = true := by
  rw [allAtoms_all]
  show words1.all (fun c => c.before args0 about1) = true
  refine all_split ?_ w_codes
  rw [← List.take_append_drop 24 words1, List.all_append, w_t1, ← List.take_append_drop 24 (words1.drop 24), List.all_append, w_t2, ← List.take_append_drop 24 ((words1.drop 24).drop 24), List.all_append, w_t3, ← List.take_append_drop 24 (((words1.drop 24).drop 24).drop 24), List.all_append, w_t4, ← List.take_append_drop 24 ((((words1.drop 24).drop 24).drop 24).drop 24), List.all_append, w_t5, ← List.take_append_drop 24 (((((words1.drop 24).drop 24).drop 24).drop 24).drop 24), List.all_append, w_t6, ← List.take_append_drop 24 ((((((words1.drop 24).drop 24).drop 24).drop 24).drop 24).drop 24), List.all_append, w_t7, ← List.take_append_drop 24 (((((((words1.drop 24).drop 24).drop 24).drop 24).drop 24).drop 24).drop 24), List.all_append, w_t8, ← List.take_append_drop 24 ((((((((words1.drop 24).drop 24).drop 24).drop 24).drop 24).drop 24).drop 24).drop 24), List.all_append, w_t9, ← List.take_append_drop 24 (((((((((words1.drop 24).drop 24).drop 24).drop 24).drop 24).drop 24).drop 24).drop 24).drop 24), List.all_append, w_t10, ← List.take_append_drop 24 ((((((((((words1.drop 24).drop 24).drop 24).drop 24).drop 24).drop 24).drop 24).drop 24).drop 24).drop 24), List.all_append, w_t11, ← List.take_append_drop 24 (((((((((((words1.drop 24).drop 24).drop 24).drop 24).drop 24).drop 24).drop 24).drop 24).drop 24).drop 24).drop 24), List.all_append, w_t12, w_t13]
  rfl
set_option maxRecDepth 65536 in
theorem w_rest : rest_1_c.before args0 about1 = true := by decide +kernel
set_option maxRecDepth 65536 in
theorem w_case : (Jvm.Cond.and given_1 narrow_1).before args0 about1 = true := by decide +kernel
set_option maxRecDepth 65536 in
theorem w_consts : constsHeld consts_1 about1 := Jvm.Lit.constsHeldB_iff.mp (by decide +kernel)
theorem w_applies : (headSpec (Jvm.Cond.code x code maxLocals ret :: tables_1) room_1).applies x e0.platform about1 = true :=
  (Spec.applies_iff w_frames).mpr ⟨w_running, w_runnable, w_alone, w_named, w_hears, w_ripe, w_room, w_tables⟩
theorem atStart : AtStart classFile x code maxLocals ret World_1 tables_1 room_1 Calls_1 rest_1 Pre_1 launch0 p0 e0 about1 theMethod args0 below0 :=
  ⟨lists_1, trivial, launch0.admits_env _ _ _, launch0.least_env, fairChoices_fair.cas, fairChoices_fair.clock, w_frames, w_args, w_heap, w_applies, ⟨w_consts, trivial⟩, w_rest, w_case⟩
end start1
theorem witness_1 : WitnessClaimed_1 := ⟨start1.p0, start1.e0, start1.about1, start1.theMethod, start1.args0, start1.below0, start1.atStart⟩
end Jvm.Pilot.@@N@@
