import JvmDerived
import JvmDerived.Pilot.@@N@@Statement
import JvmDerived.Pilot.@@N@@Code
set_option linter.unusedVariables false
set_option linter.unusedSimpArgs false
/- laws to paste: Road.backV, Road.lenW, Road.codOf (cut by pick.py; bodies as the Statement names them) -/
namespace Jvm.Pilot.@@N@@
namespace StrChars
open Jvm Sem ClassFile Op Lib Jvm.Stand Jvm.Free.XT Jvm.Free.ALB Jvm.Free.JM Jvm.Free
open Jvm.Lib.Cold (StaticIs)
/-- a char array whose places are chars -/
def Ch (a : Addr) (A : Cell) (U : State) : Prop := Arr .char a A U ∧ Typed .char A
theorem Ch.mv {a : Addr} {A : Cell} {U U' : State} (h : Ch a A U) (hal : U.vm.Alike U'.vm) (hh : U'.heap = U.heap) : Ch a A U' := ⟨h.1.mv hal hh, h.2⟩
theorem Ch.keep {a : Addr} {A : Cell} {U U' : State} (h : Ch a A U) (hal : U.vm.Alike U'.vm) (hk : U'.heap[a]? = some A) : Ch a A U' := ⟨h.1.keep hal hk, h.2⟩
/-- what place i of a char[]'s cell holds -/
def cv (A : Cell) (i : Nat) : Int32 := match A.slots[i]? with | some (.int x) => x | _ => 0
theorem Ch.get {a : Addr} {A : Cell} {U : State} (h : Ch a A U) {i : Nat} (hi : i < A.slots.size) : A.slots[i]? = some (.int (cv A i)) := by
  have e := Array.getElem?_eq_getElem hi
  have f := h.2 i _ e
  unfold cv; rw [e]
  generalize A.slots[i] = v at f
  cases v <;> simp [fits] at f ⊢
/-- the byte that i2b leaves of a char -/
def lo8 (x : Int32) : Int32 := x.toInt8.toInt32
theorem fits_lo8 (y : Int32) : fits .byte (.int (lo8 y)) = true := by
  have h1 := y.toInt8.le_toInt
  have h2 := y.toInt8.toInt_lt
  simp only [lo8, fits, Bool.and_eq_true, decide_eq_true_eq, Int32.le_iff_toInt_le, Int8.toInt_toInt32, show (-128 : Int32).toInt = -128 from by decide, show (127 : Int32).toInt = 127 from by decide]
  omega
/-- A' is A but that each place j of lo .. hi - 1 holds f j -/
def Laid (A A' : Cell) (lo hi : Nat) (f : Nat → Value) : Prop := A'.cls = A.cls ∧ A'.vm = A.vm ∧ A'.slots.size = A.slots.size ∧ ∀ i, A'.slots[i]? = if lo ≤ i ∧ i < hi then some (f i) else A.slots[i]?
theorem Laid.zero (A : Cell) (lo : Nat) (f : Nat → Value) : Laid A A lo (lo + 0) f := ⟨rfl, rfl, rfl, fun i => by rw [if_neg (by omega)]⟩
theorem Laid.step {A Ak : Cell} {lo k : Nat} {f : Nat → Value} {v : Value} (h : Laid A Ak lo k f) (hlo : lo ≤ k) (hk : k < Ak.slots.size) (hv : v = f k) : Laid A (Ak.setSlot k v) lo (k + 1) f := by
  refine ⟨h.1, h.2.1, by simpa [Cell.setSlot] using h.2.2.1, fun i => ?_⟩
  by_cases e : k = i
  · subst e; rw [Cell.slots_setSlot_self v hk, if_pos (by omega), hv]
  · rw [Cell.slots_setSlot_ne v e, h.2.2.2 i]
    by_cases q : lo ≤ i ∧ i < k
    · rw [if_pos q, if_pos (by omega)]
    · rw [if_neg q, if_neg (by omega)]
def U16 : String := "java/lang/StringUTF16"
namespace Cmp5
def yN : MethodName := ⟨"java/lang/StringUTF16", "compress", "([CI[BII)I"⟩
abbrev yB : ByteArray := jdk_52_method_21_code
theorem d0 : decode yB 0 = .ok (.iconst 0, 1) := by decide +kernel
theorem d1 : decode yB 1 = .ok (.istore 5, 2) := by decide +kernel
theorem d3 : decode yB 3 = .ok (.iload 5, 2) := by decide +kernel
theorem d5 : decode yB 5 = .ok (.iload 4, 2) := by decide +kernel
theorem d7 : decode yB 7 = .ok (.if_icmp (.ge) 37, 3) := by decide +kernel
theorem d10 : decode yB 10 = .ok (.aload_n 0, 1) := by decide +kernel
theorem d11 : decode yB 11 = .ok (.iload_n 1, 1) := by decide +kernel
theorem d12 : decode yB 12 = .ok (.caload, 1) := by decide +kernel
theorem d13 : decode yB 13 = .ok (.istore 6, 2) := by decide +kernel
theorem d15 : decode yB 15 = .ok (.iload 6, 2) := by decide +kernel
theorem d17 : decode yB 17 = .ok (.sipush 255, 3) := by decide +kernel
theorem d20 : decode yB 20 = .ok (.if_icmp (.le) 6, 3) := by decide +kernel
theorem d26 : decode yB 26 = .ok (.aload_n 2, 1) := by decide +kernel
theorem d27 : decode yB 27 = .ok (.iload_n 3, 1) := by decide +kernel
theorem d28 : decode yB 28 = .ok (.iload 6, 2) := by decide +kernel
theorem d30 : decode yB 30 = .ok (.i2b, 1) := by decide +kernel
theorem d31 : decode yB 31 = .ok (.bastore, 1) := by decide +kernel
theorem d32 : decode yB 32 = .ok (.iinc 1 1, 3) := by decide +kernel
theorem d35 : decode yB 35 = .ok (.iinc 3 1, 3) := by decide +kernel
theorem d38 : decode yB 38 = .ok (.iinc 5 1, 3) := by decide +kernel
theorem d41 : decode yB 41 = .ok (.goto (-38), 3) := by decide +kernel
theorem d44 : decode yB 44 = .ok (.iload 4, 2) := by decide +kernel
theorem d46 : decode yB 46 = .ok (.ireturn, 1) := by decide +kernel
def site : List Cond := []
def tab : Cond := tabOf yN yB 7 (some .int) site
def P (b : Addr) (A : Cell) (d : Addr) (B : Cell) (o q len : Nat) (args : Array Value) (s : State) : Prop := args = #[.ref b, .int (Int32.ofNat o), .ref d, .int (Int32.ofNat q), .int (Int32.ofNat len)] ∧ Ch b A s ∧ Arr .byte d B s ∧ b ≠ d ∧ o + len ≤ A.slots.size ∧ q + len ≤ B.slots.size ∧ ∀ i, i < len → ¬ 255 < cv A (o + i)
def E (b : Addr) (A : Cell) (d : Addr) (B : Cell) (o q len : Nat) (r : Option Value) (s u : State) : Prop := r = some (.int (Int32.ofNat len)) ∧ ∃ B', Put d B' s u ∧ Laid B B' q (q + len) (fun j => Value.int (lo8 (cv A (o + (j - q)))))
/-- no char of the range above 255: len; the places written hold each char's low byte -/
theorem law (l : Launch) (b : Addr) (A : Cell) (d : Addr) (B : Cell) (o q len : Nat) : Law l yN 5 5 0 0 yB 7 (some .int) site (P b A d B o q len) (E b A d B o q len) (copyLocs d q len) 0 0 := by
  refine Law.of_walk (plainFor_of_name (by decide +kernel)) (by decide +kernel) (by decide +kernel) (by decide) (fun _ _ h => by rw [h.1]; rfl) (fun _ U U' hal hh h => ⟨h.1, h.2.1.mv hal hh, h.2.2.1.mv hal hh, h.2.2.2⟩) (fun r U U' V V' h1 hal h2 h => ⟨h.1, h.2.elim fun B' q => ⟨B', q.1.mv h1 h2, q.2⟩⟩) ?_
  intro p e s m args below meth c s₁ X0 hexec hbytes hml hret hlk hnm hown hh0 W hP
  obtain ⟨rfl, hA, hB, hne, l1, l2, hp⟩ := hP
  have c1 : Steps p.tables e below (s₁.setTop (entryFrame m #[.ref b, .int (Int32.ofNat o), .ref d, .int (Int32.ofNat q), .int (Int32.ofNat len)] 7)) (s₁.setTop (mkF m 0 #[.val (.ref b), .val (.int (Int32.ofNat o)), .val (.ref d), .val (.int (Int32.ofNat q)), .val (.int (Int32.ofNat len)), .unset, .unset] [])) := entry rfl
  have hA0 := hA.1.mv X0.warmed.alike hh0
  have hB0 := hB.mv X0.warmed.alike hh0
  have a31 := hA.1.2.2.2
  have c2 : Steps p.tables e below (s₁.setTop (entryFrame m #[.ref b, .int (Int32.ofNat o), .ref d, .int (Int32.ofNat q), .int (Int32.ofNat len)] 7)) (s₁.setTop (mkF m 3 #[.val (.ref b), .val (.int (Int32.ofNat o)), .val (.ref d), .val (.int (Int32.ofNat q)), .val (.int (Int32.ofNat len)), .val (.int 0), .unset] [])) := c1.trans (by
    refine iconstV X0.here hexec rfl 0 (hb hbytes d0) (by decide) ?_
    refine XS.istore X0.here hexec rfl (hb hbytes d1) rfl rfl ?_
    exact Steps.refl _)
  have loop : ∀ (r i : Nat), i + r = len → ∀ (z : Slot), (z = .unset ∨ ∃ w, z = .val w ∧ w.category = 1) → ∀ (Tl : State) (Bk : Cell), Stand p l e { frames := 0, locals := 0, cells := 0, slots := 0 } s m #[.ref b, .int (Int32.ofNat o), .ref d, .int (Int32.ofNat q), .int (Int32.ofNat len)] below meth c Tl ([] ++ copyLocs d q i) 0 0 → Put d Bk s₁ Tl → Laid B Bk q (q + i) (fun j => Value.int (lo8 (cv A (o + (j - q))))) →
      Steps p.tables e below (s₁.setTop (entryFrame m #[.ref b, .int (Int32.ofNat o), .ref d, .int (Int32.ofNat q), .int (Int32.ofNat len)] 7)) (Tl.setTop (mkF m 3 #[.val (.ref b), .val (.int (Int32.ofNat (o + i))), .val (.ref d), .val (.int (Int32.ofNat (q + i))), .val (.int (Int32.ofNat len)), .val (.int (Int32.ofNat i)), z] [])) → ∃ (T' : State) (B' : Cell) (z' : Slot), Stand p l e { frames := 0, locals := 0, cells := 0, slots := 0 } s m #[.ref b, .int (Int32.ofNat o), .ref d, .int (Int32.ofNat q), .int (Int32.ofNat len)] below meth c T' ([] ++ copyLocs d q len) 0 0 ∧ Put d B' s₁ T' ∧ Laid B B' q (q + len) (fun j => Value.int (lo8 (cv A (o + (j - q))))) ∧
      Steps p.tables e below (s₁.setTop (entryFrame m #[.ref b, .int (Int32.ofNat o), .ref d, .int (Int32.ofNat q), .int (Int32.ofNat len)] 7)) (T'.setTop (mkF m 3 #[.val (.ref b), .val (.int (Int32.ofNat (o + len))), .val (.ref d), .val (.int (Int32.ofNat (q + len))), .val (.int (Int32.ofNat len)), .val (.int (Int32.ofNat len)), z'] [])) := by
    intro r
    induction r with
    | zero =>
      intro i hi z hz Tl Bk Xl pl fl cl
      have hil : i = len := by omega
      rw [hil] at Xl fl cl
      exact ⟨Tl, Bk, z, Xl, pl, fl, cl⟩
    | succ r ih =>
      intro i hi z hz Tl Bk Xl pl fl cl
      have all := X0.warmed.alike.symm.trans Xl.warmed.alike
      have hAl := hA0.keep all (pl.other hne hA0.1)
      have hBk := hB0.like all pl.1 fl.1 fl.2.1 fl.2.2.1
      have hlt : q + i < Bk.slots.size := by rw [fl.2.2.1]; omega
      have c3 : Steps p.tables e below (s₁.setTop (entryFrame m #[.ref b, .int (Int32.ofNat o), .ref d, .int (Int32.ofNat q), .int (Int32.ofNat len)] 7)) (Tl.setTop (mkF m 12 #[.val (.ref b), .val (.int (Int32.ofNat (o + i))), .val (.ref d), .val (.int (Int32.ofNat (q + i))), .val (.int (Int32.ofNat len)), .val (.int (Int32.ofNat i)), z] [.int (Int32.ofNat (o + i)), .ref b])) := cl.trans (by
        refine XS.iload Xl.here hexec rfl (hb hbytes d3) rfl ?_
        refine XS.iload Xl.here hexec rfl (hb hbytes d5) rfl ?_
        refine XS.icmpNo Xl.here hexec rfl (hb hbytes d7) rfl (ii_ge_f (lt32 (by omega) (by omega))) ?_
        refine XS.aloadN Xl.here hexec rfl (hb hbytes d10) rfl rfl ?_
        refine XS.iloadN Xl.here hexec rfl (hb hbytes d11) rfl ?_
        exact Steps.refl _)
      have c4 : Steps p.tables e below (s₁.setTop (entryFrame m #[.ref b, .int (Int32.ofNat o), .ref d, .int (Int32.ofNat q), .int (Int32.ofNat len)] 7)) (Tl.setTop (mkF m 13 #[.val (.ref b), .val (.int (Int32.ofNat (o + i))), .val (.ref d), .val (.int (Int32.ofNat (q + i))), .val (.int (Int32.ofNat len)), .val (.int (Int32.ofNat i)), z] [.int (cv A (o + i))])) := c3.trans (by
        refine Xl.aget hexec hAl rfl (hA.get (i := o + i) (by omega)) rfl rfl (hb hbytes d12) ?_
        exact Steps.refl _)
      have c5 : Steps p.tables e below (s₁.setTop (entryFrame m #[.ref b, .int (Int32.ofNat o), .ref d, .int (Int32.ofNat q), .int (Int32.ofNat len)] 7)) (Tl.setTop (mkF m 15 #[.val (.ref b), .val (.int (Int32.ofNat (o + i))), .val (.ref d), .val (.int (Int32.ofNat (q + i))), .val (.int (Int32.ofNat len)), .val (.int (Int32.ofNat i)), .val (.int (cv A (o + i)))] [])) := c4.trans (by
        refine XS.istoreS Xl.here hexec rfl (hb hbytes d13) rfl rfl hz ?_
        exact Steps.refl _)
      have c6 : Steps p.tables e below (s₁.setTop (entryFrame m #[.ref b, .int (Int32.ofNat o), .ref d, .int (Int32.ofNat q), .int (Int32.ofNat len)] 7)) (Tl.setTop (mkF m 31 #[.val (.ref b), .val (.int (Int32.ofNat (o + i))), .val (.ref d), .val (.int (Int32.ofNat (q + i))), .val (.int (Int32.ofNat len)), .val (.int (Int32.ofNat i)), .val (.int (cv A (o + i)))] [.int (lo8 (cv A (o + i))), .int (Int32.ofNat (q + i)), .ref d])) := c5.trans (by
        refine XS.iload Xl.here hexec rfl (hb hbytes d15) rfl ?_
        refine sipushV Xl.here hexec rfl 255 (hb hbytes d17) (by decide) ?_
        refine XS.icmpYes Xl.here hexec rfl (pc0 := 20) rfl (hb hbytes d20) rfl (ii_le_t (hp i (by omega))) (by decide) rfl ?_
        refine XS.aloadN Xl.here hexec rfl (hb hbytes d26) rfl rfl ?_
        refine XS.iloadN Xl.here hexec rfl (hb hbytes d27) rfl ?_
        refine XS.iload Xl.here hexec rfl (hb hbytes d28) rfl ?_
        refine i2b Xl.here hexec rfl (hb hbytes d30) rfl ?_
        exact Steps.refl _)
      obtain ⟨T7, X7, p7, st7⟩ := Xl.aput hexec hBk rfl hlt rfl (fits_lo8 (cv A (o + i))) (g := (mkF m 31 #[.val (.ref b), .val (.int (Int32.ofNat (o + i))), .val (.ref d), .val (.int (Int32.ofNat (q + i))), .val (.int (Int32.ofNat len)), .val (.int (Int32.ofNat i)), .val (.int (cv A (o + i)))] [.int (lo8 (cv A (o + i))), .int (Int32.ofNat (q + i)), .ref d])) rfl (rest := []) rfl (hb hbytes d31)
      have c8 : Steps p.tables e below (s₁.setTop (entryFrame m #[.ref b, .int (Int32.ofNat o), .ref d, .int (Int32.ofNat q), .int (Int32.ofNat len)] 7)) (T7.setTop (mkF m 32 #[.val (.ref b), .val (.int (Int32.ofNat (o + i))), .val (.ref d), .val (.int (Int32.ofNat (q + i))), .val (.int (Int32.ofNat len)), .val (.int (Int32.ofNat i)), .val (.int (cv A (o + i)))] [])) := c6.trans (st7 _ (Steps.refl _))
      have c9 : Steps p.tables e below (s₁.setTop (entryFrame m #[.ref b, .int (Int32.ofNat o), .ref d, .int (Int32.ofNat q), .int (Int32.ofNat len)] 7)) (T7.setTop (mkF m 3 #[.val (.ref b), .val (.int (Int32.ofNat (o + i) + 1)), .val (.ref d), .val (.int (Int32.ofNat (q + i) + 1)), .val (.int (Int32.ofNat len)), .val (.int (Int32.ofNat i + 1)), .val (.int (cv A (o + i)))] [])) := c8.trans (by
        refine iincV X7.here hexec rfl 1 (hb hbytes d32) (by decide) rfl rfl ?_
        refine iincV X7.here hexec rfl 1 (hb hbytes d35) (by decide) rfl rfl ?_
        refine iincV X7.here hexec rfl 1 (hb hbytes d38) (by decide) rfl rfl ?_
        refine XS.goto X7.here hexec rfl (pc0 := 41) rfl (hb hbytes d41) (by decide) rfl ?_
        exact Steps.refl _)
      have c10 : Steps p.tables e below (s₁.setTop (entryFrame m #[.ref b, .int (Int32.ofNat o), .ref d, .int (Int32.ofNat q), .int (Int32.ofNat len)] 7)) (T7.setTop (mkF m 3 #[.val (.ref b), .val (.int (Int32.ofNat (o + (i + 1)))), .val (.ref d), .val (.int (Int32.ofNat (q + (i + 1)))), .val (.int (Int32.ofNat len)), .val (.int (Int32.ofNat (i + 1))), .val (.int (cv A (o + i)))] [])) := by
        have := c9
        rw [succ32, succ32, succ32] at this
        exact this
      exact ih (i + 1) (by omega) _ (Or.inr ⟨_, rfl, rfl⟩) T7 _ (by rw [copyLocs_step, ← List.append_assoc]; exact X7) (pl.trans p7) (fl.step (by omega) hlt (by simp)) c10
  obtain ⟨T9, B9, z9, X9, p9, f9, g9⟩ := loop len 0 (by omega) .unset (Or.inl rfl) s₁ B (by simpa [copyLocs] using X0) ⟨hB0.1, fun _ _ => rfl, rfl⟩ (Laid.zero _ _ _) c2
  have c11 : Steps p.tables e below (s₁.setTop (entryFrame m #[.ref b, .int (Int32.ofNat o), .ref d, .int (Int32.ofNat q), .int (Int32.ofNat len)] 7)) (T9.setTop (mkF m 46 #[.val (.ref b), .val (.int (Int32.ofNat (o + len))), .val (.ref d), .val (.int (Int32.ofNat (q + len))), .val (.int (Int32.ofNat len)), .val (.int (Int32.ofNat len)), z9] [.int (Int32.ofNat len)])) := g9.trans (by
    refine XS.iload X9.here hexec rfl (hb hbytes d3) rfl ?_
    refine XS.iload X9.here hexec rfl (hb hbytes d5) rfl ?_
    refine XS.icmpYes X9.here hexec rfl (pc0 := 7) rfl (hb hbytes d7) rfl (ii_ge_t (nlt32 (by omega) (Nat.le_refl _))) (by decide) rfl ?_
    refine XS.iload X9.here hexec rfl (hb hbytes d44) rfl ?_
    exact Steps.refl _)
  exact ⟨T9, some (.int (Int32.ofNat len)), _, _, _, X9, by simp, rfl, rfl, (fun h => by cases h), ⟨rfl, B9, p9.from hh0, f9⟩, fun fs hl => c11.trans (X9.ireturnOut hexec hret rfl (Or.inl rfl) (hb hbytes d46) hl)⟩
end Cmp5
namespace Cmp3
def yN : MethodName := ⟨"java/lang/StringUTF16", "compress", "([CII)[B"⟩
abbrev yB : ByteArray := jdk_52_method_16_code
theorem d0 : decode yB 0 = .ok (.iload_n 2, 1) := by decide +kernel
theorem d1 : decode yB 1 = .ok (.newarray .byte, 2) := by decide +kernel
theorem d3 : decode yB 3 = .ok (.astore_n 3, 1) := by decide +kernel
theorem d4 : decode yB 4 = .ok (.aload_n 0, 1) := by decide +kernel
theorem d5 : decode yB 5 = .ok (.iload_n 1, 1) := by decide +kernel
theorem d6 : decode yB 6 = .ok (.aload_n 3, 1) := by decide +kernel
theorem d7 : decode yB 7 = .ok (.iconst 0, 1) := by decide +kernel
theorem d8 : decode yB 8 = .ok (.iload_n 2, 1) := by decide +kernel
theorem d9 : decode yB 9 = .ok (.invokestatic 115, 3) := by decide +kernel
theorem d12 : decode yB 12 = .ok (.istore 4, 2) := by decide +kernel
theorem d14 : decode yB 14 = .ok (.iload 4, 2) := by decide +kernel
theorem d16 : decode yB 16 = .ok (.iload_n 2, 1) := by decide +kernel
theorem d17 : decode yB 17 = .ok (.if_icmp (.eq) 40, 3) := by decide +kernel
theorem d57 : decode yB 57 = .ok (.aload_n 3, 1) := by decide +kernel
theorem d58 : decode yB 58 = .ok (.areturn, 1) := by decide +kernel
def site : List Cond := [.arrayClass .byte, Cmp5.tab] ++ staticW U16 115 Cmp5.yN
def tab : Cond := tabOf yN yB 6 (some (.array .byte)) site
def P (b : Addr) (A : Cell) (o len : Nat) (args : Array Value) (s : State) : Prop := args = #[.ref b, .int (Int32.ofNat o), .int (Int32.ofNat len)] ∧ Ch b A s ∧ o + len ≤ A.slots.size ∧ len ≤ 536870912 ∧ ∀ i, i < len → ¬ 255 < cv A (o + i)
def E (b : Addr) (A : Cell) (o len : Nat) (r : Option Value) (s u : State) : Prop := NewArr .byte "[B" len (fun j => .int (lo8 (cv A (o + j)))) r s u ∧ u.heap.size = s.heap.size + 1
/-- no char of the range above 255: a new byte[] of their low bytes -/
theorem law (l : Launch) (b : Addr) (A : Cell) (o len : Nat) : Law l yN 3 3 1 18 yB 6 (some (.array .byte)) site (P b A o len) (E b A o len) [] 1 len := by
  refine Law.of_walk (plainFor_of_name (by decide +kernel)) (by decide +kernel) (by decide +kernel) (by decide) (fun _ _ h => by rw [h.1]; rfl) (fun _ U U' hal hh h => ⟨h.1, h.2.1.mv hal hh, h.2.2⟩) (fun r U U' V V' h1 hal h2 h => ⟨NewArr.mv r U U' V V' h1 hal h2 h.1, by rw [h1, h2]; exact h.2⟩) ?_
  intro p e s m args below meth c s₁ X0 hexec hbytes hml hret hlk hnm hown hh0 W hP
  obtain ⟨rfl, hA, l1, l2, hp⟩ := hP
  have a31 := hA.1.2.2.2
  have c1 : Steps p.tables e below (s₁.setTop (entryFrame m #[.ref b, .int (Int32.ofNat o), .int (Int32.ofNat len)] 6)) (s₁.setTop (mkF m 0 #[.val (.ref b), .val (.int (Int32.ofNat o)), .val (.int (Int32.ofNat len)), .unset, .unset, .unset] [])) := entry rfl
  have c2 : Steps p.tables e below (s₁.setTop (entryFrame m #[.ref b, .int (Int32.ofNat o), .int (Int32.ofNat len)] 6)) (s₁.setTop (mkF m 1 #[.val (.ref b), .val (.int (Int32.ofNat o)), .val (.int (Int32.ofNat len)), .unset, .unset, .unset] [.int (Int32.ofNat len)])) := c1.trans (by
    refine XS.iloadN X0.here hexec rfl (hb hbytes d0) rfl ?_
    exact Steps.refl _)
  obtain ⟨T3, B3, X3, ba3, bs3, bv3, bh3, bf3, st3⟩ := X0.anew hexec (atype := .byte) (wk W (.arrayClass .byte)) rfl (by show len * 1 ≤ _; omega) (by omega) (g := (mkF m 1 #[.val (.ref b), .val (.int (Int32.ofNat o)), .val (.int (Int32.ofNat len)), .unset, .unset, .unset] [.int (Int32.ofNat len)])) rfl (hb hbytes d1) (rest := []) rfl (Nat.le_refl _) (by show 0 + len ≤ len; omega)
  rw [hh0] at ba3 st3
  have kp3 : XT.Kept s T3 := (XT.Kept.of_eq hh0).push bh3
  have hA3 := hA.keep X3.warmed.alike (kp3 _ _ hA.1.1)
  have hne : b ≠ s.heap.size := hA.1.ne
  have c4 : Steps p.tables e below (s₁.setTop (entryFrame m #[.ref b, .int (Int32.ofNat o), .int (Int32.ofNat len)] 6)) (T3.setTop (mkF m 3 #[.val (.ref b), .val (.int (Int32.ofNat o)), .val (.int (Int32.ofNat len)), .unset, .unset, .unset] [.ref s.heap.size])) := c2.trans (st3 _ (Steps.refl _))
  have c5 : Steps p.tables e below (s₁.setTop (entryFrame m #[.ref b, .int (Int32.ofNat o), .int (Int32.ofNat len)] 6)) (T3.setTop (mkF m 9 #[.val (.ref b), .val (.int (Int32.ofNat o)), .val (.int (Int32.ofNat len)), .val (.ref s.heap.size), .unset, .unset] [.int (Int32.ofNat len), .int 0, .ref s.heap.size, .int (Int32.ofNat o), .ref b])) := c4.trans (by
    refine XS.astoreN X3.here hexec rfl (hb hbytes d3) rfl rfl rfl ?_
    refine XS.aloadN X3.here hexec rfl (hb hbytes d4) rfl rfl ?_
    refine XS.iloadN X3.here hexec rfl (hb hbytes d5) rfl ?_
    refine XS.aloadN X3.here hexec rfl (hb hbytes d6) rfl rfl ?_
    refine iconstV X3.here hexec rfl 0 (hb hbytes d7) (by decide) ?_
    refine XS.iloadN X3.here hexec rfl (hb hbytes d8) rfl ?_
    exact Steps.refl _)
  obtain ⟨v6, T6, X6, E6, g6⟩ := X3.callS hexec (Cmp5.law l b A s.heap.size B3 o 0 len) hown (wks W (staticW U16 115 Cmp5.yN)) (wk W Cmp5.tab) (W := 0) (Nat.le_of_ble_eq_true rfl) (Nat.le_of_ble_eq_true rfl) (Nat.le_refl _) (by show 0 + len + 0 ≤ len; omega) (g := (mkF m 9 #[.val (.ref b), .val (.int (Int32.ofNat o)), .val (.int (Int32.ofNat len)), .val (.ref s.heap.size), .unset, .unset] [.int (Int32.ofNat len), .int (Int32.ofNat 0), .ref s.heap.size, .int (Int32.ofNat o), .ref b])) rfl (by rw [hml]; rfl) c5 (argsL := [.ref b, .int (Int32.ofNat o), .ref s.heap.size, .int (Int32.ofNat 0), .int (Int32.ofNat len)]) (rest := []) rfl rfl (by show 2 * 0 + 0 ≤ _; decide) (hb hbytes d9) (⟨rfl, hA3, ba3, hne, l1, by rw [bs3]; simp, hp⟩)
  obtain ⟨rfl, B6, p6, f6⟩ := E6
  have c7 : Steps p.tables e below (s₁.setTop (entryFrame m #[.ref b, .int (Int32.ofNat o), .int (Int32.ofNat len)] 6)) (T6.setTop (mkF m 12 #[.val (.ref b), .val (.int (Int32.ofNat o)), .val (.int (Int32.ofNat len)), .val (.ref s.heap.size), .unset, .unset] [.int (Int32.ofNat len)])) := g6
  have c8 : Steps p.tables e below (s₁.setTop (entryFrame m #[.ref b, .int (Int32.ofNat o), .int (Int32.ofNat len)] 6)) (T6.setTop (mkF m 58 #[.val (.ref b), .val (.int (Int32.ofNat o)), .val (.int (Int32.ofNat len)), .val (.ref s.heap.size), .val (.int (Int32.ofNat len)), .unset] [.ref s.heap.size])) := c7.trans (by
    refine XS.istore X6.here hexec rfl (hb hbytes d12) rfl rfl ?_
    refine XS.iload X6.here hexec rfl (hb hbytes d14) rfl ?_
    refine XS.iloadN X6.here hexec rfl (hb hbytes d16) rfl ?_
    refine XS.icmpYes X6.here hexec rfl (pc0 := 17) rfl (hb hbytes d17) rfl (ii_eq_t rfl) (by decide) rfl ?_
    refine XS.aloadN X6.here hexec rfl (hb hbytes d57) rfl rfl ?_
    exact Steps.refl _)
  have X8 := X6.wide (L' := []) (cells' := 1) (slots' := len) (fun x hx hlt => by
    simp only [List.nil_append, copyLocs, List.mem_map, List.mem_range] at hx
    obtain ⟨i, -, rfl⟩ := hx
    exact absurd hlt (Nat.lt_irrefl _)) (Nat.le_refl _) (by omega)
  exact ⟨T6, some (.ref s.heap.size), _, _, _, X8, rfl, rfl, rfl, (fun h => by cases h), ⟨⟨rfl, B6, ba3.like (X3.warmed.alike.symm.trans X6.warmed.alike) p6.1 f6.1 f6.2.1 f6.2.2.1, f6.2.1.trans bv3, by rw [X6.warmed.alike.findClass, f6.1]; exact bf3, by rw [f6.2.2.1, bs3]; simp, fun j hj => by rw [f6.2.2.2 j, if_pos (by omega)]; rfl, kp3.put p6 (Nat.le_refl _)⟩, by rw [p6.2.2, bh3, hh0]; simp⟩, fun fs hl => c8.trans (X8.areturnOut hexec rfl hret rfl (hb hbytes d58) hl)⟩
end Cmp3
namespace CodL
def yN : MethodName := ⟨"java/lang/StringUTF16", "coderFromArrayLen", "([BI)B"⟩
abbrev yB : ByteArray := jdk_52_method_15_code
theorem d0 : decode yB 0 = .ok (.iload_n 1, 1) := by decide +kernel
theorem d1 : decode yB 1 = .ok (.aload_n 0, 1) := by decide +kernel
theorem d2 : decode yB 2 = .ok (.arraylength, 1) := by decide +kernel
theorem d3 : decode yB 3 = .ok (.isub, 1) := by decide +kernel
theorem d4 : decode yB 4 = .ok (.bipush 31, 2) := by decide +kernel
theorem d6 : decode yB 6 = .ok (.iushr, 1) := by decide +kernel
theorem d7 : decode yB 7 = .ok (.i2b, 1) := by decide +kernel
theorem d8 : decode yB 8 = .ok (.ireturn, 1) := by decide +kernel
def site : List Cond := []
def tab : Cond := tabOf yN yB 2 (some .byte) site
def P (d : Addr) (B : Cell) (args : Array Value) (s : State) : Prop := args = #[.ref d, .int (Int32.ofNat B.slots.size)] ∧ Arr .byte d B s
def E (r : Option Value) (s u : State) : Prop := XT.PureE (some (.int 0)) r s u
/-- an array as long as the number of chars: LATIN1 -/
theorem law (l : Launch) (d : Addr) (B : Cell) : Law l yN 2 2 0 0 yB 2 (some .byte) site (P d B) E [] 0 0 := by
  refine Law.of_walk (plainFor_of_name (by decide +kernel)) (by decide +kernel) (by decide +kernel) (by decide) (fun _ _ h => by rw [h.1]; rfl) (fun _ U U' hal hh h => ⟨h.1, h.2.mv hal hh⟩) (fun r U U' V V' h1 hal h2 h => XT.PureE.mv r U U' V V' h1 hal h2 h) ?_
  intro p e s m args below meth c s₁ X0 hexec hbytes hml hret hlk hnm hown hh0 W hP
  obtain ⟨rfl, hB⟩ := hP
  have hB0 := hB.mv X0.warmed.alike hh0
  have c1 : Steps p.tables e below (s₁.setTop (entryFrame m #[.ref d, .int (Int32.ofNat B.slots.size)] 2)) (s₁.setTop (mkF m 0 #[.val (.ref d), .val (.int (Int32.ofNat B.slots.size))] [])) := entry rfl
  have c2 : Steps p.tables e below (s₁.setTop (entryFrame m #[.ref d, .int (Int32.ofNat B.slots.size)] 2)) (s₁.setTop (mkF m 2 #[.val (.ref d), .val (.int (Int32.ofNat B.slots.size))] [.ref d, .int (Int32.ofNat B.slots.size)])) := c1.trans (by
    refine XS.iloadN X0.here hexec rfl (hb hbytes d0) rfl ?_
    refine XS.aloadN X0.here hexec rfl (hb hbytes d1) rfl rfl ?_
    exact Steps.refl _)
  have c3 : Steps p.tables e below (s₁.setTop (entryFrame m #[.ref d, .int (Int32.ofNat B.slots.size)] 2)) (s₁.setTop (mkF m 8 #[.val (.ref d), .val (.int (Int32.ofNat B.slots.size))] [.int (lo8 (ushr (Int32.ofNat B.slots.size - Int32.ofNat B.slots.size) 31))])) := c2.trans (by
    refine X0.alen hexec hB0 rfl rfl (hb hbytes d2) ?_
    refine XS.isub X0.here hexec rfl (hb hbytes d3) rfl ?_
    refine bipushV X0.here hexec rfl 31 (hb hbytes d4) (by decide) ?_
    refine iushr X0.here hexec rfl (hb hbytes d6) rfl ?_
    refine i2b X0.here hexec rfl (hb hbytes d7) rfl ?_
    exact Steps.refl _)
  have e0 : lo8 (ushr (Int32.ofNat B.slots.size - Int32.ofNat B.slots.size) 31) = 0 := by rw [Int32.sub_self]; decide
  rw [e0] at c3
  exact ⟨s₁, some (.int 0), _, _, _, X0, rfl, rfl, rfl, (fun h => by cases h), ⟨rfl, hh0⟩, fun fs hl => c3.trans (X0.ireturnOut hexec hret rfl (Or.inr (Or.inr (Or.inl rfl))) (hb hbytes d8) hl)⟩
end CodL
/-- the String at a is Latin-1 over a new byte[] (the heap's one new cell): the low bytes of the len chars of A from o on; every cell but a is kept -/
def Got (a : Addr) (D : Cell) (fV fC : Field) (A : Cell) (o len : Nat) (r : Option Value) (s u : State) : Prop := r = none ∧ ∃ D' V : Cell, Blank "java/lang/String" a D' u ∧ Same D D' [fV.slot, fC.slot] ∧ D'.slots[fV.slot]? = some (.ref s.heap.size) ∧ D'.slots[fC.slot]? = some (.int 0) ∧ Arr .byte s.heap.size V u ∧ V.vm = .none ∧ u.vm.findClass "[B" = some V.cls ∧ V.slots.size = len ∧ (∀ j, j < len → V.slots[j]? = some (.int (lo8 (cv A (o + j))))) ∧ (∀ (y : Addr) (c : Cell), y ≠ a → s.heap[y]? = some c → u.heap[y]? = some c) ∧ u.heap.size = s.heap.size + 1
theorem Got.mv {a : Addr} {D A : Cell} {fV fC : Field} {o len : Nat} : ∀ r (U U' V V' : State), U'.heap = U.heap → V.vm.Alike V'.vm → V'.heap = V.heap → Got a D fV fC A o len r U V → Got a D fV fC A o len r U' V' :=
  fun r U U' V V' h1 hal h2 ⟨e0, D', X, a1, a2, a3, a4, a5, a6, a7, a8, a9, a10, a11⟩ => ⟨e0, D', X, a1.mv hal h2, a2, by rw [h1]; exact a3, a4, by rw [h1]; exact a5.mv hal h2, a6, by rw [hal.findClass]; exact a7, a8, a9, by rw [h1, h2]; exact a10, by rw [h1, h2]; exact a11⟩
namespace New4
def yN : MethodName := ⟨"java/lang/String", "<init>", "([CIILjava/lang/Void;)V"⟩
abbrev yB : ByteArray := jdk_42_method_149_code
theorem d0 : decode yB 0 = .ok (.aload_n 0, 1) := by decide +kernel
theorem d1 : decode yB 1 = .ok (.invokespecial 1, 3) := by decide +kernel
theorem d4 : decode yB 4 = .ok (.iload_n 3, 1) := by decide +kernel
theorem d5 : decode yB 5 = .ok (.ifCond (.ne) 22, 3) := by decide +kernel
theorem d27 : decode yB 27 = .ok (.getstatic 38, 3) := by decide +kernel
theorem d30 : decode yB 30 = .ok (.ifCond (.eq) 28, 3) := by decide +kernel
theorem d33 : decode yB 33 = .ok (.aload_n 1, 1) := by decide +kernel
theorem d34 : decode yB 34 = .ok (.iload_n 2, 1) := by decide +kernel
theorem d35 : decode yB 35 = .ok (.iload_n 3, 1) := by decide +kernel
theorem d36 : decode yB 36 = .ok (.invokestatic 177, 3) := by decide +kernel
theorem d39 : decode yB 39 = .ok (.astore 5, 2) := by decide +kernel
theorem d41 : decode yB 41 = .ok (.aload_n 0, 1) := by decide +kernel
theorem d42 : decode yB 42 = .ok (.aload 5, 2) := by decide +kernel
theorem d44 : decode yB 44 = .ok (.iload_n 3, 1) := by decide +kernel
theorem d45 : decode yB 45 = .ok (.invokestatic 47, 3) := by decide +kernel
theorem d48 : decode yB 48 = .ok (.putfield 15, 3) := by decide +kernel
theorem d51 : decode yB 51 = .ok (.aload_n 0, 1) := by decide +kernel
theorem d52 : decode yB 52 = .ok (.aload 5, 2) := by decide +kernel
theorem d54 : decode yB 54 = .ok (.putfield 9, 3) := by decide +kernel
theorem d57 : decode yB 57 = .ok (.return_, 1) := by decide +kernel
def site : List Cond := [.fieldLink "java/lang/String" 38 "java/lang/String" "COMPACT_STRINGS" "Z", Cmp3.tab, CodL.tab, .laysFinal "java/lang/String" "java/lang/String" "value" "[B", .fieldLink "java/lang/String" 9 "java/lang/String" "value" "[B", .laysFinal "java/lang/String" "java/lang/String" "coder" "B", .fieldLink "java/lang/String" 15 "java/lang/String" "coder" "B"] ++ objW "java/lang/String" 1 ++ staticW "java/lang/String" 177 Cmp3.yN ++ staticW "java/lang/String" 47 CodL.yN
def tab : Cond := tabOf yN yB 6 none site
def P (a : Addr) (D : Cell) (fV fC : Field) (b : Addr) (A : Cell) (z : Int32) (o len : Nat) (args : Array Value) (s : State) : Prop := args = #[.ref a, .ref b, .int (Int32.ofNat o), .int (Int32.ofNat len), .null] ∧ Blank "java/lang/String" a D s ∧ Found "java/lang/String" "value" "[B" fV s ∧ Found "java/lang/String" "coder" "B" fC s ∧ Ch b A s ∧ StaticIs s "java/lang/String" "COMPACT_STRINGS" "Z" (.int z) ∧ ¬ z = 0 ∧ 0 < len ∧ o + len ≤ A.slots.size ∧ len ≤ 536870912 ∧ ∀ i, i < len → ¬ 255 < cv A (o + i)
def E (a : Addr) (D : Cell) (fV fC : Field) (A : Cell) (o len : Nat) (r : Option Value) (s u : State) : Prop := Got a D fV fC A o len r s u
/-- len > 0, no char of the range above 255: a Latin-1 String of their low bytes -/
theorem law (l : Launch) (a : Addr) (D : Cell) (fV fC : Field) (b : Addr) (A : Cell) (z : Int32) (o len : Nat) : Law l yN 5 4 2 35 yB 6 none site (P a D fV fC b A z o len) (E a D fV fC A o len) [⟨a, fC.slot⟩, ⟨a, fV.slot⟩] 1 len := by
  refine Law.of_walk (plainFor_of_name (by decide +kernel)) (by decide +kernel) (by decide +kernel) (by decide) (fun _ _ h => by rw [h.1]; rfl) (fun _ U U' hal hh h => ⟨h.1, h.2.1.mv hal hh, h.2.2.1.al hal, h.2.2.2.1.al hal, h.2.2.2.2.1.mv hal hh, h.2.2.2.2.2.1.there hal hh, h.2.2.2.2.2.2⟩) (fun r U U' V V' h1 hal h2 h => Got.mv r U U' V V' h1 hal h2 h) ?_
  intro p e s m args below meth c s₁ X0 hexec hbytes hml hret hlk hnm hown hh0 W hP
  obtain ⟨rfl, hB, f1, f2, hA, s1, hz, l0, l1, l2, hp⟩ := hP
  have a31 := hA.1.2.2.2
  have c1 : Steps p.tables e below (s₁.setTop (entryFrame m #[.ref a, .ref b, .int (Int32.ofNat o), .int (Int32.ofNat len), .null] 6)) (s₁.setTop (mkF m 0 #[.val (.ref a), .val (.ref b), .val (.int (Int32.ofNat o)), .val (.int (Int32.ofNat len)), .val .null, .unset] [])) := entry rfl
  have c2 : Steps p.tables e below (s₁.setTop (entryFrame m #[.ref a, .ref b, .int (Int32.ofNat o), .int (Int32.ofNat len), .null] 6)) (s₁.setTop (mkF m 1 #[.val (.ref a), .val (.ref b), .val (.int (Int32.ofNat o)), .val (.int (Int32.ofNat len)), .val .null, .unset] [.ref a])) := c1.trans (by
    refine XS.aloadN X0.here hexec rfl (hb hbytes d0) rfl rfl ?_
    exact Steps.refl _)
  obtain ⟨T3, X3, q3, st3⟩ := X0.oinit hexec hown (wks W (objW "java/lang/String" 1)) (g := (mkF m 1 #[.val (.ref a), .val (.ref b), .val (.int (Int32.ofNat o)), .val (.int (Int32.ofNat len)), .val .null, .unset] [.ref a])) rfl (by rw [hml]; rfl) (rest := []) rfl (hb hbytes d1) (W := 0) (by show 2 * 0 + 0 ≤ _; decide) (Nat.le_of_ble_eq_true rfl) (Nat.le_of_ble_eq_true rfl)
  have hh3 := q3.trans hh0
  have c4 : Steps p.tables e below (s₁.setTop (entryFrame m #[.ref a, .ref b, .int (Int32.ofNat o), .int (Int32.ofNat len), .null] 6)) (T3.setTop (mkF m 27 #[.val (.ref a), .val (.ref b), .val (.int (Int32.ofNat o)), .val (.int (Int32.ofNat len)), .val .null, .unset] [])) := (c2.trans (st3 _ (Steps.refl _))).trans (by
    refine XS.iloadN X3.here hexec rfl (hb hbytes d4) rfl ?_
    refine XS.ifYes X3.here hexec rfl (pc0 := 5) rfl (hb hbytes d5) rfl (i0_ne_t (nz32 (by omega) l0)) (by decide) rfl ?_
    exact Steps.refl _)
  obtain ⟨T5, X5, q5, st5⟩ := X3.sget hexec hown (wk W (.fieldLink "java/lang/String" 38 "java/lang/String" "COMPACT_STRINGS" "Z")) s1 (fun _ _ h => by rw [hh3]; exact h) (g := (mkF m 27 #[.val (.ref a), .val (.ref b), .val (.int (Int32.ofNat o)), .val (.int (Int32.ofNat len)), .val .null, .unset] [])) rfl (hb hbytes d27)
  have hh5 := q5.trans hh3
  have c6 : Steps p.tables e below (s₁.setTop (entryFrame m #[.ref a, .ref b, .int (Int32.ofNat o), .int (Int32.ofNat len), .null] 6)) (T5.setTop (mkF m 30 #[.val (.ref a), .val (.ref b), .val (.int (Int32.ofNat o)), .val (.int (Int32.ofNat len)), .val .null, .unset] [.int z])) := c4.trans (st5 _ (Steps.refl _))
  have c7 : Steps p.tables e below (s₁.setTop (entryFrame m #[.ref a, .ref b, .int (Int32.ofNat o), .int (Int32.ofNat len), .null] 6)) (T5.setTop (mkF m 36 #[.val (.ref a), .val (.ref b), .val (.int (Int32.ofNat o)), .val (.int (Int32.ofNat len)), .val .null, .unset] [.int (Int32.ofNat len), .int (Int32.ofNat o), .ref b])) := c6.trans (by
    refine XS.ifNo X5.here hexec rfl (hb hbytes d30) rfl (i0_eq_f hz) ?_
    refine XS.aloadN X5.here hexec rfl (hb hbytes d33) rfl rfl ?_
    refine XS.iloadN X5.here hexec rfl (hb hbytes d34) rfl ?_
    refine XS.iloadN X5.here hexec rfl (hb hbytes d35) rfl ?_
    exact Steps.refl _)
  obtain ⟨v8, T8, X8, E8, g8⟩ := X5.callS hexec (Cmp3.law l b A o len) hown (wks W (staticW "java/lang/String" 177 Cmp3.yN)) (wk W Cmp3.tab) (W := 0) (Nat.le_of_ble_eq_true rfl) (Nat.le_of_ble_eq_true rfl) (Nat.le_refl _) (by show 0 + len ≤ len; omega) (g := (mkF m 36 #[.val (.ref a), .val (.ref b), .val (.int (Int32.ofNat o)), .val (.int (Int32.ofNat len)), .val .null, .unset] [.int (Int32.ofNat len), .int (Int32.ofNat o), .ref b])) rfl (by rw [hml]; rfl) c7 (argsL := [.ref b, .int (Int32.ofNat o), .int (Int32.ofNat len)]) (rest := []) rfl rfl (by show 2 * 0 + 0 ≤ _; decide) (hb hbytes d36) (⟨rfl, hA.mv X5.warmed.alike hh5, l1, l2, hp⟩)
  obtain ⟨e8, z8⟩ := E8
  obtain ⟨rfl, N, n1, n2, n3, n4, n5, n6⟩ := NewArr.mv _ T5 s _ _ hh5.symm (Vm.Alike.refl _) rfl e8
  rw [hh5] at z8
  have hB1 := hB.keep X8.warmed.alike (n6 _ _ hB.1)
  have hne : s.heap.size ≠ a := (Nat.ne_of_lt (Array.getElem?_eq_some_iff.mp hB.1).1).symm
  have c9 : Steps p.tables e below (s₁.setTop (entryFrame m #[.ref a, .ref b, .int (Int32.ofNat o), .int (Int32.ofNat len), .null] 6)) (T8.setTop (mkF m 39 #[.val (.ref a), .val (.ref b), .val (.int (Int32.ofNat o)), .val (.int (Int32.ofNat len)), .val .null, .unset] [.ref s.heap.size])) := g8
  have c10 : Steps p.tables e below (s₁.setTop (entryFrame m #[.ref a, .ref b, .int (Int32.ofNat o), .int (Int32.ofNat len), .null] 6)) (T8.setTop (mkF m 45 #[.val (.ref a), .val (.ref b), .val (.int (Int32.ofNat o)), .val (.int (Int32.ofNat len)), .val .null, .val (.ref s.heap.size)] [.int (Int32.ofNat N.slots.size), .ref s.heap.size, .ref a])) := by
    have hc : Steps p.tables e below (s₁.setTop (entryFrame m #[.ref a, .ref b, .int (Int32.ofNat o), .int (Int32.ofNat len), .null] 6)) (T8.setTop (mkF m 45 #[.val (.ref a), .val (.ref b), .val (.int (Int32.ofNat o)), .val (.int (Int32.ofNat len)), .val .null, .val (.ref s.heap.size)] [.int (Int32.ofNat len), .ref s.heap.size, .ref a])) := c9.trans (by
      refine XS.astore X8.here hexec rfl (hb hbytes d39) rfl rfl rfl ?_
      refine XS.aloadN X8.here hexec rfl (hb hbytes d41) rfl rfl ?_
      refine XS.aload X8.here hexec rfl (hb hbytes d42) rfl rfl ?_
      refine XS.iloadN X8.here hexec rfl (hb hbytes d44) rfl ?_
      exact Steps.refl _)
    rw [n4]; exact hc
  obtain ⟨v11, T11, X11, E11, g11⟩ := X8.callS hexec (CodL.law l s.heap.size N) hown (wks W (staticW "java/lang/String" 47 CodL.yN)) (wk W CodL.tab) (W := 1) (Nat.le_of_ble_eq_true rfl) (Nat.le_of_ble_eq_true rfl) (Nat.le_refl _) (by show 0 + len + 0 ≤ len; omega) (g := (mkF m 45 #[.val (.ref a), .val (.ref b), .val (.int (Int32.ofNat o)), .val (.int (Int32.ofNat len)), .val .null, .val (.ref s.heap.size)] [.int (Int32.ofNat N.slots.size), .ref s.heap.size, .ref a])) rfl (by rw [hml]; rfl) c10 (argsL := [.ref s.heap.size, .int (Int32.ofNat N.slots.size)]) (rest := [.ref a]) rfl rfl (by show 2 * 0 + (1 + 0) ≤ _; decide) (hb hbytes d45) (⟨rfl, n1⟩)
  obtain ⟨rfl, q11⟩ := E11
  have hB11 := hB1.mv (X8.warmed.alike.symm.trans X11.warmed.alike) q11
  have c12 : Steps p.tables e below (s₁.setTop (entryFrame m #[.ref a, .ref b, .int (Int32.ofNat o), .int (Int32.ofNat len), .null] 6)) (T11.setTop (mkF m 48 #[.val (.ref a), .val (.ref b), .val (.int (Int32.ofNat o)), .val (.int (Int32.ofNat len)), .val .null, .val (.ref s.heap.size)] [.int 0, .ref a])) := g11
  obtain ⟨T13, X13, p13, bl13, sl13, st13⟩ := X11.finit hexec hown (wk W (.fieldLink "java/lang/String" 15 "java/lang/String" "coder" "B")) (Or.inr ⟨_, (wk W (.laysFinal "java/lang/String" "java/lang/String" "coder" "B"))⟩) (Or.inl ⟨rfl, hnm⟩) f2 (Or.inl rfl) hB11 (t := .byte) (by decide +kernel) rfl (g := (mkF m 48 #[.val (.ref a), .val (.ref b), .val (.int (Int32.ofNat o)), .val (.int (Int32.ofNat len)), .val .null, .val (.ref s.heap.size)] [.int 0, .ref a])) rfl (rest := []) rfl (hb hbytes d48)
  have c14 : Steps p.tables e below (s₁.setTop (entryFrame m #[.ref a, .ref b, .int (Int32.ofNat o), .int (Int32.ofNat len), .null] 6)) (T13.setTop (mkF m 54 #[.val (.ref a), .val (.ref b), .val (.int (Int32.ofNat o)), .val (.int (Int32.ofNat len)), .val .null, .val (.ref s.heap.size)] [.ref s.heap.size, .ref a])) := (c12.trans (st13 _ (Steps.refl _))).trans (by
    refine XS.aloadN X13.here hexec rfl (hb hbytes d51) rfl rfl ?_
    refine XS.aload X13.here hexec rfl (hb hbytes d52) rfl rfl ?_
    exact Steps.refl _)
  obtain ⟨T15, X15, p15, bl15, sl15, st15⟩ := X13.finit hexec hown (wk W (.fieldLink "java/lang/String" 9 "java/lang/String" "value" "[B")) (Or.inr ⟨_, (wk W (.laysFinal "java/lang/String" "java/lang/String" "value" "[B"))⟩) (Or.inl ⟨rfl, hnm⟩) f1 (Or.inl rfl) bl13 (t := (.array .byte)) (by decide +kernel) rfl (g := (mkF m 54 #[.val (.ref a), .val (.ref b), .val (.int (Int32.ofNat o)), .val (.int (Int32.ofNat len)), .val .null, .val (.ref s.heap.size)] [.ref s.heap.size, .ref a])) rfl (rest := []) rfl (hb hbytes d54)
  have c16 : Steps p.tables e below (s₁.setTop (entryFrame m #[.ref a, .ref b, .int (Int32.ofNat o), .int (Int32.ofNat len), .null] 6)) (T15.setTop (mkF m 57 #[.val (.ref a), .val (.ref b), .val (.int (Int32.ofNat o)), .val (.int (Int32.ofNat len)), .val .null, .val (.ref s.heap.size)] [])) := c14.trans (st15 _ (Steps.refl _))
  have ap := apart (Or.inr ⟨_, (wk W (.laysFinal "java/lang/String" "java/lang/String" "value" "[B"))⟩) (Or.inr ⟨_, (wk W (.laysFinal "java/lang/String" "java/lang/String" "coder" "B"))⟩) f1 f2 (t₁ := .array .byte) (t₂ := .byte) (by decide +kernel) (by decide +kernel) (by decide)
  have al := X8.warmed.alike.symm.trans X15.warmed.alike
  have n7 : T11.heap[s.heap.size]? = some N := by rw [q11]; exact n1.1
  exact ⟨T15, none, _, _, _, X15, by simp, rfl, by omega, (fun _ => rfl), ⟨rfl, _, N, bl15, ((Same.refl D _).set _ (by simp)).set _ (by simp), sl15, (Cell.slots_setSlot_ne _ ap).trans sl13, n1.keep al (p15.other hne (p13.other hne n7)), n2, by rw [al.findClass]; exact n3, n4, n5, fun y c h1 h2 => p15.other h1 (p13.other h1 (by rw [q11]; exact n6 y c h2)), by rw [p15.2.2, p13.2.2, q11]; exact z8⟩, fun fs hl => c16.trans (X15.returnOut hexec hret (hb hbytes d57) hl)⟩
end New4
namespace New1
def yN : MethodName := ⟨"java/lang/String", "<init>", "([C)V"⟩
abbrev yB : ByteArray := jdk_42_method_3_code
theorem d0 : decode yB 0 = .ok (.aload_n 0, 1) := by decide +kernel
theorem d1 : decode yB 1 = .ok (.aload_n 1, 1) := by decide +kernel
theorem d2 : decode yB 2 = .ok (.iconst 0, 1) := by decide +kernel
theorem d3 : decode yB 3 = .ok (.aload_n 1, 1) := by decide +kernel
theorem d4 : decode yB 4 = .ok (.arraylength, 1) := by decide +kernel
theorem d5 : decode yB 5 = .ok (.aconst_null, 1) := by decide +kernel
theorem d6 : decode yB 6 = .ok (.invokespecial 27, 3) := by decide +kernel
theorem d9 : decode yB 9 = .ok (.return_, 1) := by decide +kernel
def site : List Cond := [New4.tab] ++ initW "java/lang/String" 27 New4.yN
def tab : Cond := tabOf yN yB 2 none site
def P (a : Addr) (D : Cell) (fV fC : Field) (b : Addr) (A : Cell) (z : Int32) (args : Array Value) (s : State) : Prop := args = #[.ref a, .ref b] ∧ Blank "java/lang/String" a D s ∧ Found "java/lang/String" "value" "[B" fV s ∧ Found "java/lang/String" "coder" "B" fC s ∧ Ch b A s ∧ StaticIs s "java/lang/String" "COMPACT_STRINGS" "Z" (.int z) ∧ ¬ z = 0 ∧ 0 < A.slots.size ∧ A.slots.size ≤ 536870912 ∧ ∀ i, i < A.slots.size → ¬ 255 < cv A i
def E (a : Addr) (D : Cell) (fV fC : Field) (A : Cell) (r : Option Value) (s u : State) : Prop := Got a D fV fC A 0 A.slots.size r s u
/-- new String(chars), not empty, no char above 255: a Latin-1 String of their low bytes -/
theorem law (l : Launch) (a : Addr) (D : Cell) (fV fC : Field) (b : Addr) (A : Cell) (z : Int32) : Law l yN 2 1 3 52 yB 2 none site (P a D fV fC b A z) (E a D fV fC A) [⟨a, fC.slot⟩, ⟨a, fV.slot⟩] 1 A.slots.size := by
  refine Law.of_walk (plainFor_of_name (by decide +kernel)) (by decide +kernel) (by decide +kernel) (by decide) (fun _ _ h => by rw [h.1]; rfl) (fun _ U U' hal hh h => ⟨h.1, h.2.1.mv hal hh, h.2.2.1.al hal, h.2.2.2.1.al hal, h.2.2.2.2.1.mv hal hh, h.2.2.2.2.2.1.there hal hh, h.2.2.2.2.2.2⟩) (fun r U U' V V' h1 hal h2 h => Got.mv r U U' V V' h1 hal h2 h) ?_
  intro p e s m args below meth c s₁ X0 hexec hbytes hml hret hlk hnm hown hh0 W hP
  obtain ⟨rfl, hB, f1, f2, hA, s1, hz, l0, l2, hp⟩ := hP
  have c1 : Steps p.tables e below (s₁.setTop (entryFrame m #[.ref a, .ref b] 2)) (s₁.setTop (mkF m 0 #[.val (.ref a), .val (.ref b)] [])) := entry rfl
  have c2 : Steps p.tables e below (s₁.setTop (entryFrame m #[.ref a, .ref b] 2)) (s₁.setTop (mkF m 6 #[.val (.ref a), .val (.ref b)] [.null, .int (Int32.ofNat A.slots.size), .int 0, .ref b, .ref a])) := c1.trans (by
    refine XS.aloadN X0.here hexec rfl (hb hbytes d0) rfl rfl ?_
    refine XS.aloadN X0.here hexec rfl (hb hbytes d1) rfl rfl ?_
    refine iconstV X0.here hexec rfl 0 (hb hbytes d2) (by decide) ?_
    refine XS.aloadN X0.here hexec rfl (hb hbytes d3) rfl rfl ?_
    refine X0.alen hexec (hA.1.mv X0.warmed.alike hh0) rfl rfl (hb hbytes d4) ?_
    refine XS.aconstNull X0.here hexec rfl (hb hbytes d5) ?_
    exact Steps.refl _)
  obtain ⟨v3, T3, X3, E3, g3⟩ := X0.callN hexec (New4.law l a D fV fC b A z 0 A.slots.size) rfl hown (wks W (initW "java/lang/String" 27 New4.yN)) (W New4.tab (by simp only [site, List.mem_cons, List.mem_append, true_or, or_true])) (W := 0) (Nat.le_of_ble_eq_true rfl) (Nat.le_of_ble_eq_true rfl) (Nat.le_refl _) (by show 0 + A.slots.size ≤ A.slots.size; omega) (g := (mkF m 6 #[.val (.ref a), .val (.ref b)] [.null, .int (Int32.ofNat A.slots.size), .int (Int32.ofNat 0), .ref b, .ref a])) rfl (by rw [hml]; rfl) c2 (argsL := [.ref b, .int (Int32.ofNat 0), .int (Int32.ofNat A.slots.size), .null]) (rest := []) rfl rfl (by show 2 * 0 + 0 ≤ _; decide) (hb hbytes d6) (⟨rfl, hB.mv X0.warmed.alike hh0, f1.al X0.warmed.alike, f2.al X0.warmed.alike, hA.mv X0.warmed.alike hh0, s1.there X0.warmed.alike hh0, hz, l0, by omega, l2, fun i hi => by rw [Nat.zero_add]; exact hp i hi⟩)
  have e0 := Got.mv _ s₁ s _ _ hh0.symm (Vm.Alike.refl _) rfl E3
  obtain rfl := e0.1
  have c4 : Steps p.tables e below (s₁.setTop (entryFrame m #[.ref a, .ref b] 2)) (T3.setTop (mkF m 9 #[.val (.ref a), .val (.ref b)] [])) := g3
  exact ⟨T3, none, _, _, _, X3, by simp, rfl, by omega, (fun _ => rfl), e0, fun fs hl => c4.trans (X3.returnOut hexec hret (hb hbytes d9) hl)⟩
theorem pays {l : Launch} {R : Room} {p : Program} {e : Env} {below : List Frame} {s : State} {sargs : Array Value} {len W : Nat} (a : Addr) (D : Cell) (fV fC : Field) (b : Addr) (A : Cell) (z : Int32) (htab : tab.before sargs s = true) (hfr : 4 ≤ R.frames) (hlo : W + 65 ≤ R.locals) :
    Back l R p e below s sargs yN len W (fun A₁ a₁ => A₁.cells + 1 ≤ R.cells ∧ A₁.slots + A.slots.size ≤ R.slots ∧ P a D fV fC b A z a₁ A₁.U) (fun A₁ _ v₁ B₁ => E a D fV fC A v₁ A₁.U B₁.U ∧ B₁.locs = A₁.locs ++ [⟨a, fC.slot⟩, ⟨a, fV.slot⟩] ∧ B₁.cells = A₁.cells + 1 ∧ B₁.slots = A₁.slots + A.slots.size) :=
  (law l a D fV fC b A z).pays htab hfr (by omega)
end New1
end StrChars
namespace StrChars.Road
open Jvm Sem ClassFile Op Lib Jvm.Stand Jvm.Free Jvm.Free.XT
open Jvm.Lib.Cold (StaticIs)
abbrev ST : String := "java/lang/String"
/-- every table word that New1's law asks, flat -/
abbrev words : List Jvm.Cond := [.code New1.yN New1.yB 2 none, .initialized ST, .methodLink ST 27 New4.yN, .instanceMethod New4.yN,
  .code New4.yN New4.yB 6 none, .fieldLink ST 38 ST "COMPACT_STRINGS" "Z", .laysFinal ST ST "value" "[B", .fieldLink ST 9 ST "value" "[B", .laysFinal ST ST "coder" "B", .fieldLink ST 15 ST "coder" "B",
  .methodLink ST 1 Lib.objectInit, .instanceMethod Lib.objectInit, .code Lib.objectInit ⟨#[0xb1]⟩ 1 none, .methodLink ST 177 Cmp3.yN, .static Cmp3.yN, .methodLink ST 47 CodL.yN, .static CodL.yN,
  .code Cmp3.yN Cmp3.yB 6 (some (.array .byte)), .initialized U16, .arrayClass .byte, .methodLink U16 115 Cmp5.yN, .static Cmp5.yN, .code Cmp5.yN Cmp5.yB 7 (some .int), .code CodL.yN CodL.yB 2 (some .byte)]
theorem tab_of {a : Array Value} {s : State} (h : ∀ w ∈ words, w.before a s = true) : New1.tab.before a s = true := by
  have h5 : Cmp5.tab.before a s = true := unparts (wk h (.code Cmp5.yN Cmp5.yB 7 (some .int))) (wks h (.initialized Cmp5.yN.cls :: Cmp5.site))
  have hc : CodL.tab.before a s = true := unparts (wk h (.code CodL.yN CodL.yB 2 (some .byte))) (wks h (.initialized CodL.yN.cls :: CodL.site))
  have q5 : ∀ w ∈ Cmp5.tab :: words, w.before a s = true := fun w hw => (List.mem_cons.mp hw).elim (fun e => e ▸ h5) (h w)
  have h3 : Cmp3.tab.before a s = true := unparts (wk q5 (.code Cmp3.yN Cmp3.yB 6 (some (.array .byte)))) (wks q5 (.initialized Cmp3.yN.cls :: Cmp3.site))
  have q3 : ∀ w ∈ Cmp3.tab :: CodL.tab :: words, w.before a s = true := fun w hw => (List.mem_cons.mp hw).elim (fun e => e ▸ h3) fun hw => (List.mem_cons.mp hw).elim (fun e => e ▸ hc) (h w)
  have h4 : New4.tab.before a s = true := unparts (wk q3 (.code New4.yN New4.yB 6 none)) (wks q3 (.initialized New4.yN.cls :: New4.site))
  have q4 : ∀ w ∈ New4.tab :: words, w.before a s = true := fun w hw => (List.mem_cons.mp hw).elim (fun e => e ▸ h4) (h w)
  exact unparts (wk q4 (.code New1.yN New1.yB 2 none)) (wks q4 (.initialized New1.yN.cls :: New1.site))
/-- the words ride from the start Z to the walk's own state -/
theorem moved {Z s : State} {a0 args : Array Value} (hZ : Z.Warmed39 s.vm) (hw : ∀ d ∈ words, d.before a0 Z = true) : ∀ d ∈ words, d.before args s = true := fun d hd => by
  have q := hw d hd
  have t : ∀ d ∈ words, d = .arrayClass .byte ∨ (d.onTables && d.keepsFace) = true := by decide +kernel
  rcases t d hd with rfl | t
  · exact RoadKit.mvA hZ q
  · exact RoadKit.mv hZ q t
/-- WHAT COMES BACK, over the tables of the start Z: h the heap at the call, h' behind it -/
def Q (Z : State) (x : Addr) (A : Cell) (h : Heap) (v : Option Value) (h' : Heap) (L : List Loc) : Prop := v = none ∧ (∀ y ∈ L, y.base = x) ∧ RoadKit.Keep h h' [x] ∧ h'.size = h.size + 1 ∧ RoadKit.Exa Z h' x ST ∧ RoadKit.Fld Z h' x ST "value" "[B" (.ref h.size) ∧ RoadKit.Fld Z h' x ST "coder" "B" (.int 0) ∧
  (∃ V : Cell, RoadKit.Arr Z h' h.size V .byte ∧ V.vm = .none ∧ Z.vm.findClass "[B" = some V.cls ∧ V.slots.size = A.slots.size ∧ ∀ j, j < A.slots.size → V.slots[j]? = some (.int (lo8 (cv A j)))) ∧
  ∀ (O n d : String) (w : Value), RoadKit.Fld Z h x O n d w → RoadKit.slotOf Z O n d ≠ RoadKit.slotOf Z ST "value" "[B" → RoadKit.slotOf Z O n d ≠ RoadKit.slotOf Z ST "coder" "B" → RoadKit.Fld Z h' x O n d w
/-- **new String(chars) AT A CALL, IN THE ROAD'S FORM**: for specialBack behind newO: x the fresh String, b the char[] with the cell A -/
theorem back {p : Program} {l : Launch} {e : Env} {R : Room} {s : State} {args : Array Value} {below : List Frame} {len W : Nat} {Z : State} {a0 : Array Value} {h : Heap} (hZ : Z.Warmed39 s.vm) (hw : ∀ d ∈ words, d.before a0 Z = true) {kI : Nat} (wi : (Jvm.Cond.instantiable ST kI).before a0 Z = true)
    {x b : Addr} {A : Cell} {z : Int32} {v0 c0 : Value} (E : RoadKit.Exa Z h x ST) (V : RoadKit.Fld Z h x ST "value" "[B" v0) (C : RoadKit.Fld Z h x ST "coder" "B" c0) (K : RoadKit.Arr Z h b A .char) (hty : Typed .char A) (S : RoadKit.Sta Z h ST "COMPACT_STRINGS" "Z" (.int z)) (hz : ¬ z = 0)
    (l0 : 0 < A.slots.size) (l2 : A.slots.size ≤ 536870912) (hp : ∀ i, i < A.slots.size → ¬ 255 < cv A i) (hfr : 4 ≤ R.frames) (hlo : W + 65 ≤ R.locals) :
    Back l R p e below s args New1.yN len W (fun P a => a = #[.ref x, .ref b] ∧ P.U.heap = h ∧ P.cells + 1 ≤ R.cells ∧ P.slots + A.slots.size ≤ R.slots)
      (fun P _ v B => ∃ L, Q Z x A h v B.U.heap L ∧ B.locs = P.locs ++ L ∧ B.cells = P.cells + 1 ∧ B.slots = P.slots + A.slots.size) := by
  intro m meth c P g ig mk a X hg hsize hdg hW hn hp'
  obtain ⟨rfl, rfl, r1, r2⟩ := hp'
  have al : Z.vm.Alike P.U.vm := hZ.alike.trans X.warmed.alike
  obtain ⟨D, cfV, kV, iV, fV, hD, gV, stV, knV, obV, asV, slV⟩ := id V
  obtain ⟨D', cfC, kC, iC, fC, hD', gC, stC, -, -, asC, slC⟩ := id C
  cases hD.symm.trans hD'
  obtain ⟨D2, kD, e1, e2, e3, e4, e5⟩ := id E
  cases hD.symm.trans e1
  obtain ⟨c2, k2, i1, i2, i3, -⟩ := Cond.instantiable_spec wi
  cases e2.symm.trans i1
  cases e3.symm.trans i2
  obtain ⟨kU, u1, u2⟩ := al.2.2 _ _ e3
  have hB : Blank ST x D P.U := ⟨hD, ⟨knV, fun q hq => by rw [hq] at obV; cases obV⟩, by rw [al.findClass]; exact e2, kU, u1, by rw [u2]; exact i3, by rw [u2]; exact e5 i3⟩
  have F1 : Found ST "value" "[B" fV P.U := ⟨SBG.found_only al ⟨cfV, kV, iV, gV⟩, stV⟩
  have F2 : Found ST "coder" "B" fC P.U := ⟨SBG.found_only al ⟨cfC, kC, iC, gC⟩, stC⟩
  have hA : Ch b A P.U := ⟨⟨K.1, State.isArrayOf_alike al K.2.1, K.2.2, by omega⟩, hty⟩
  have hS : StaticIs P.U ST "COMPACT_STRINGS" "Z" (.int z) := by
    obtain ⟨cfS, iS, kS, fS, st, cS, t1, t2, t3, t4, t5, t6, t7⟩ := S
    exact StaticIs.there (s := { Z with heap := P.U.heap }) ⟨cfS, iS, kS, fS, st, cS, t1, t2, t3, t4, t5, (fun q => by rw [q] at t6; cases t6), t7⟩ al rfl
  obtain ⟨v, B, X', ⟨⟨hv, E', V', q1, q2, q3, q4, q5, q6, q7, q8, q9, q10, q11⟩, hl, hc, hs⟩, st⟩ := New1.pays x D fV fC b A z (tab_of (moved hZ hw)) hfr hlo m meth c P g ig mk _ X hg hsize hdg hW hn ⟨r1, r2, rfl, hB, F1, F2, hA, hS, hz, l0, l2, hp⟩
  have al' : Z.vm.Alike B.U.vm := hZ.alike.trans X'.warmed.alike
  have hsz : E'.slots.size = D.slots.size := by
    obtain ⟨-, -, -, kB, w1, w2, w3⟩ := q1
    obtain ⟨kB', y1, y2⟩ := al'.2.2 _ _ e3
    rw [q2.2.1] at w1
    cases w1.symm.trans y1
    rw [w3, e5 i3, y2]
  refine ⟨v, B, X', ⟨_, ⟨hv, ?_, ⟨by omega, fun y cy hy hn' => q10 y cy (by simpa using hn') hy, fun y cy hy => ?_⟩, q11, ⟨E', _, q1.1, by rw [q2.2.1]; exact e2, by rw [q2.2.1]; exact e3, by rw [q2.1]; exact obV, fun _ => by rw [hsz]; exact e5 i3⟩,
    ⟨E', cfV, kV, iV, fV, q1.1, gV, stV, by rw [q2.1]; exact knV, by rw [q2.1]; exact obV, by rw [q2.2.1]; exact asV, q3⟩, ⟨E', cfC, kC, iC, fC, q1.1, gC, stC, by rw [q2.1]; exact knV, by rw [q2.1]; exact obV, by rw [q2.2.1]; exact asC, q4⟩,
    ⟨V', ⟨q5.1, State.isArrayOf_alike al'.symm q5.2.1, q5.2.2.1⟩, q6, by rw [← al'.findClass]; exact q7, q8, fun j hj => by have := q9 j hj; rwa [Nat.zero_add] at this⟩, fun O n d w F n1 n2 => ?_⟩, hl, hc, hs⟩, st⟩
  · intro y hy
    simp only [List.mem_cons, List.not_mem_nil, or_false] at hy
    rcases hy with rfl | rfl <;> rfl
  · by_cases q : y = x
    · subst q
      cases hD.symm.trans hy
      exact ⟨E', q1.1, q2.2.1, q2.1, hsz⟩
    · exact ⟨cy, q10 y cy q hy, rfl, rfl, rfl⟩
  · obtain ⟨D3, cf, k, i, f, g1, g2, g3, g4, g5, g6, g7⟩ := F
    cases hD.symm.trans g1
    simp only [RoadKit.slotOf, g2, gV, gC, Option.map_some, Option.getD_some] at n1 n2
    exact ⟨E', cf, k, i, f, q1.1, g2, g3, by rw [q2.1]; exact g4, by rw [q2.1]; exact g5, by rw [q2.2.1]; exact g6, by rw [q2.2.2 f.slot (by simp [n1, n2])]; exact g7⟩
end StrChars.Road
namespace StrChars.Road
open Jvm Sem ClassFile Op Lib Jvm.Stand Jvm.Free Jvm.Free.XT
/-- WHAT COMES BACK, the byte[] as a list of values -/
def QA (Z : State) (x : Addr) (zn : Int32) (cs : List Int32) (h : Heap) (v : Option Value) (h' : Heap) (L : List Loc) : Prop := v = none ∧ (∀ y ∈ L, y.base = x) ∧ RoadKit.Keep h h' [x] ∧ h'.size = h.size + 1 ∧ RoadKit.Exa Z h' x ST ∧ RoadKit.Fld Z h' x ST "value" "[B" (.ref h.size) ∧ RoadKit.Fld Z h' x ST "coder" "B" (.int 0) ∧
  (∃ kb, Z.vm.findClass "[B" = some kb ∧ RoadKit.Arv Z h' h.size kb .byte zn (cs.map fun c => .int (lo8 c)) (.int 0)) ∧
  ∀ (O n d : String) (w : Value), RoadKit.Fld Z h x O n d w → RoadKit.slotOf Z O n d ≠ RoadKit.slotOf Z ST "value" "[B" → RoadKit.slotOf Z O n d ≠ RoadKit.slotOf Z ST "coder" "B" → RoadKit.Fld Z h' x O n d w
/-- **new String(chars) AT A CALL, THE ARRAYS AS LISTS**: the char[] at b holds cs, not empty, no char above 255 -/
theorem backArv {p : Program} {l : Launch} {e : Env} {R : Room} {s : State} {args : Array Value} {below : List Frame} {len W : Nat} {Z : State} {a0 : Array Value} {h : Heap} (hZ : Z.Warmed39 s.vm) (hw : ∀ d ∈ words, d.before a0 Z = true) {kI : Nat} (wi : (Jvm.Cond.instantiable ST kI).before a0 Z = true)
    {x b : Addr} {k : ClassId} {zn z : Int32} {cs : List Int32} {dv v0 c0 : Value} (E : RoadKit.Exa Z h x ST) (V : RoadKit.Fld Z h x ST "value" "[B" v0) (C : RoadKit.Fld Z h x ST "coder" "B" c0) (K : RoadKit.Arv Z h b k .char zn (cs.map Value.int) dv) (S : RoadKit.Sta Z h ST "COMPACT_STRINGS" "Z" (.int z)) (hz : ¬ z = 0)
    (hlen : zn.toNatClampNeg = cs.length) (h0 : 0 < cs.length) (hbig : cs.length ≤ 536870912) (hall : ∀ c ∈ cs, ¬ 255 < c) (hfr : 4 ≤ R.frames) (hlo : W + 65 ≤ R.locals) :
    Back l R p e below s args New1.yN len W (fun P a => a = #[.ref x, .ref b] ∧ P.U.heap = h ∧ P.cells + 1 ≤ R.cells ∧ P.slots + cs.length ≤ R.slots)
      (fun P _ v B => ∃ L, QA Z x zn cs h v B.U.heap L ∧ B.locs = P.locs ++ L ∧ B.cells = P.cells + 1 ∧ B.slots = P.slots + cs.length) := by
  obtain ⟨A, K1, K2, K3, K4, K5, K6⟩ := K
  have e : A.slots.size = cs.length := K3.trans hlen
  have hat : ∀ (i : Nat) (hi : i < cs.length), A.slots[i]? = some (.int cs[i]) := fun i hi => by rw [K5 i (by omega)]; simp [List.getD_eq_getElem?_getD, hi]
  have hcv : ∀ (i : Nat) (hi : i < cs.length), cv A i = cs[i] := fun i hi => by unfold cv; rw [hat i hi]
  have hty : Typed .char A := fun i v hv => by
    have hi : i < A.slots.size := (Array.getElem?_eq_some_iff.mp hv).1
    have q := K5 i hi
    rw [hv] at q
    rw [Option.some.inj q]
    exact K6 i hi
  refine Back.mono (back hZ hw wi E V C K1 hty S hz (by omega) (by omega) (fun i hi => by rw [hcv i (by omega)]; exact hall _ (List.getElem_mem _)) hfr hlo) (fun P a hp => ⟨hp.1, hp.2.1, hp.2.2.1, by rw [e]; exact hp.2.2.2⟩) (fun P a v B hp hq => ?_)
  obtain ⟨L, ⟨q1, q2, q3, q4, q5, q6, q7, ⟨V', v1, v2, v3, v4, v5⟩, q9⟩, hl, hc, hs⟩ := hq
  refine ⟨L, ⟨q1, q2, q3, q4, q5, q6, q7, ⟨V'.cls, v3, V', v1, rfl, by rw [v4, e, hlen], K4, fun i hi => ?_, fun i hi => ?_⟩, q9⟩, hl, hc, by rw [hs, e]⟩
  · have hi' : i < cs.length := by omega
    rw [v5 i (by omega), hcv i hi']; simp [List.getD_eq_getElem?_getD, hi']
  · have hi' : i < cs.length := by omega
    simp only [List.getD_eq_getElem?_getD, List.getElem?_map, List.getElem?_eq_getElem hi', Option.map_some, Option.getD_some]
    exact fits_lo8 _
end StrChars.Road
namespace StrChars.Road
open Jvm Sem ClassFile Op Lib Jvm.Stand Jvm.Free Jvm.Free.XT
/-- WHAT COMES BACK, in the writer's own shape -/
def QV (Z : State) (x : Addr) (N : Int32) (bs : List Int32) (h : Heap) (n0 : Nat) (v : Option Value) (h' : Heap) (L : List Loc) : Prop := v = none ∧ RoadKit.Fr n0 L ∧ RoadKit.Keep h h' [x] ∧ RoadKit.Exa Z h' x ST ∧ RoadKit.Fld Z h' x ST "coder" "B" (.int 0) ∧
  ∃ (t : Addr) (kb : ClassId), n0 ≤ t ∧ h.size ≤ t ∧ ¬ t = x ∧ RoadKit.Fld Z h' x ST "value" "[B" (.ref t) ∧ RoadKit.Arv Z h' t kb .byte N (bs.map Value.int) (.int 0)
/-- **new String(chars) AT A CALL, FOR THE WRITER**: a char[] of n known ints, each 0 to 255 -/
theorem backV {p : Program} {l : Launch} {e : Env} {R : Room} {s : State} {args : Array Value} {below : List Frame} {len W : Nat} {Z : State} {a0 : Array Value} {h : Heap} (hZ : Z.Warmed39 s.vm) (hw : ∀ d ∈ words, d.before a0 Z = true) {kI : Nat} (wi : (Jvm.Cond.instantiable ST kI).before a0 Z = true)
    {x b : Addr} {kC : ClassId} {cs bs : List Int32} {d v0 c0 : Value} {z N : Int32} {n n0 : Nat} (hx0 : n0 ≤ x) (hh0 : n0 ≤ h.size) (E : RoadKit.Exa Z h x ST) (V : RoadKit.Fld Z h x ST "value" "[B" v0) (C : RoadKit.Fld Z h x ST "coder" "B" c0) (K : RoadKit.Arv Z h b kC .char N (cs.map Value.int) d) (S : RoadKit.Sta Z h ST "COMPACT_STRINGS" "Z" (.int z)) (hz : ¬ z = 0)
    (hn : cs.length = n) (hN : N = Int32.ofNat n) (l0 : 0 < n) (l2 : n ≤ 4000) (hp : ∀ c ∈ cs, ¬ c < 0 ∧ ¬ (255 : Int32) < c) (hb : bs = cs.map (fun c => c.toInt8.toInt32)) (hfr : 4 ≤ R.frames) (hlo : W + 65 ≤ R.locals) :
    Back l R p e below s args (⟨"java/lang/String", "<init>", "([C)V"⟩ : MethodName) len W (fun P a => a = #[.ref x, .ref b] ∧ P.U.heap = h ∧ P.cells + 1 ≤ R.cells ∧ P.slots + n ≤ R.slots)
      (fun P _ v B => ∃ L, QV Z x N bs h n0 v B.U.heap L ∧ B.locs = P.locs ++ L ∧ B.cells = P.cells + 1 ∧ B.slots = P.slots + n) := by
  subst hn hN hb
  refine Back.mono (backArv hZ hw wi E V C K S hz (n32 (by omega)) l0 (by omega) (fun c hc => (hp c hc).2) hfr hlo) (fun P a hp => hp) (fun P a v B hp hq => ?_)
  obtain ⟨L, ⟨q1, q2, q3, q4, q5, q6, q7, ⟨kb, v1, v2⟩, q9⟩, hl, hc, hs⟩ := hq
  exact ⟨L, ⟨q1, fun y hy => by rw [q2 y hy]; exact hx0, q3, q5, q7, h.size, kb, hh0, Nat.le_refl _, Nat.ne_of_gt E.lt, q6, by rw [List.map_map]; exact v2⟩, hl, hc, hs⟩
end StrChars.Road
namespace StrChars
open Jvm Sem ClassFile Op Lib Jvm.Stand Jvm.Free.XT Jvm.Free.ALB Jvm.Free.JM Jvm.Free
open Jvm.Lib.Cold (StaticIs)
def hi8 (x : Int32) : Int32 := lo8 (x >>> ((8 : Int32) &&& 31))
theorem shr0 (c : Int32) : c >>> ((0 : Int32) &&& 31) = c := by
  have e : ((0 : Int32) &&& 31) = 0 := by decide
  rw [e]
  apply Int32.toBitVec_inj.mp
  rw [Int32.toBitVec_shiftRight]
  have e1 : ((0 : Int32).toBitVec.smod 32) = 0#32 := by decide
  rw [e1, BitVec.sshiftRight_eq']
  exact BitVec.sshiftRight_zero
end StrChars
namespace StrChars
open Jvm Sem ClassFile Op Lib Jvm.Stand Jvm.Free.XT Jvm.Free.ALB Jvm.Free.JM Jvm.Free
open Jvm.Lib.Cold (StaticIs)
theorem shr1 {n : Nat} (h : 2 * n < 2 ^ 31) : Int32.ofNat (2 * n) >>> ((1 : Int32) &&& 31) = Int32.ofNat n := by
  have e : ((1 : Int32) &&& 31) = 1 := by decide
  rw [e]
  apply Int32.toBitVec_inj.mp
  rw [Int32.toBitVec_shiftRight]
  have e1 : ((1 : Int32).toBitVec.smod 32) = 1#32 := by decide
  have hm : (BitVec.ofNat 32 (2 * n)).toNat = 2 * n := by rw [BitVec.toNat_ofNat, Nat.mod_eq_of_lt (by omega)]
  rw [e1, BitVec.sshiftRight_eq']
  apply BitVec.eq_of_toNat_eq
  show ((BitVec.ofNat 32 (2 * n)).sshiftRight 1).toNat = (BitVec.ofNat 32 n).toNat
  rw [BitVec.toNat_sshiftRight_of_msb_false (by rw [BitVec.msb_eq_false_iff_two_mul_lt, hm]; omega), hm, BitVec.toNat_ofNat, Nat.shiftRight_eq_div_pow]
  omega
/-- the array's cell V codes the n chars f 0 .. f (n - 1) by the coder cd, as the JDK does: coder 1 just where some char is above 255 -/
def Cod (cd : Int32) (n : Nat) (f : Nat → Int32) (V : Cell) : Prop := (cd = 0 ∧ V.slots.size = n ∧ ∀ j, j < n → V.slots[j]? = some (.int (lo8 (f j))) ∧ ¬ 255 < f j) ∨ (cd = 1 ∧ V.slots.size = 2 * n ∧ (∀ j, j < n → V.slots[2 * j]? = some (.int (lo8 (f j))) ∧ V.slots[2 * j + 1]? = some (.int (hi8 (f j)))) ∧ ∃ j, j < n ∧ 255 < f j)
theorem Cod.cd {cd : Int32} {n : Nat} {f : Nat → Int32} {V : Cell} (h : Cod cd n f V) : cd = 0 ∨ cd = 1 := h.imp (fun q => q.1) fun q => q.1
theorem Cod.len {cd : Int32} {n : Nat} {f : Nat → Int32} {V : Cell} (h : Cod cd n f V) (hs : V.slots.size < 2 ^ 31) : Int32.ofNat V.slots.size >>> (cd &&& 31) = Int32.ofNat n := by
  rcases h with ⟨rfl, h, -⟩ | ⟨rfl, h, -⟩
  · rw [shr0, h]
  · rw [h, shr1 (by omega)]
/-- **x is a String of the n chars f 0 .. f (n - 1)**, Latin-1 or UTF-16; its array at t has the cell V -/
def Txt (x t : Addr) (V : Cell) (cd : Int32) (n : Nat) (f : Nat → Int32) (U : State) : Prop := Exact "java/lang/String" x U ∧ Has x "java/lang/String" "value" "[B" (.ref t) U ∧ Has x "java/lang/String" "coder" "B" (.int cd) U ∧ XT.Arr .byte t V U ∧ Cod cd n f V ∧ ∀ j, j < n → ¬ f j < 0 ∧ ¬ 65535 < f j
theorem Txt.mv {x t : Addr} {V : Cell} {cd : Int32} {n : Nat} {f : Nat → Int32} {U U' : State} (h : Txt x t V cd n f U) (hal : U.vm.Alike U'.vm) (hh : U'.heap = U.heap) : Txt x t V cd n f U' := ⟨h.1.mv hal hh, h.2.1.mv hal hh, h.2.2.1.mv hal hh, h.2.2.2.1.mv hal hh, h.2.2.2.2⟩
namespace Cdr
def yN : MethodName := ⟨"java/lang/String", "coder", "()B"⟩
abbrev yB : ByteArray := jdk_42_method_152_code
theorem d0 : decode yB 0 = .ok (.getstatic 38, 3) := by decide +kernel
theorem d3 : decode yB 3 = .ok (.ifCond (.eq) 10, 3) := by decide +kernel
theorem d6 : decode yB 6 = .ok (.aload_n 0, 1) := by decide +kernel
theorem d7 : decode yB 7 = .ok (.getfield 15, 3) := by decide +kernel
theorem d10 : decode yB 10 = .ok (.goto 4, 3) := by decide +kernel
theorem d14 : decode yB 14 = .ok (.ireturn, 1) := by decide +kernel
def site : List Cond := [.fieldLink "java/lang/String" 38 "java/lang/String" "COMPACT_STRINGS" "Z", .fieldLink "java/lang/String" 15 "java/lang/String" "coder" "B"]
def tab : Cond := tabOf yN yB 1 (some .byte) site
def P (x : Addr) (cd z : Int32) (args : Array Value) (s : State) : Prop := args = #[.ref x] ∧ Has x "java/lang/String" "coder" "B" (.int cd) s ∧ (cd = 0 ∨ cd = 1) ∧ StaticIs s "java/lang/String" "COMPACT_STRINGS" "Z" (.int z) ∧ ¬ z = 0
def E (cd : Int32) (r : Option Value) (s u : State) : Prop := XT.PureE (some (.int cd)) r s u
theorem law (l : Launch) (x : Addr) (cd z : Int32) : Law l yN 1 0 0 0 yB 1 (some .byte) site (P x cd z) (E cd) [] 0 0 := by
  refine Law.of_walk (plainFor_of_name (by decide +kernel)) (by decide +kernel) (by decide +kernel) (by decide) (fun _ _ h => by rw [h.1]; rfl) (fun _ U U' hal hh h => ⟨h.1, h.2.1.mv hal hh, h.2.2.1, h.2.2.2.1.there hal hh, h.2.2.2.2⟩) (fun r U U' V V' h1 hal h2 h => XT.PureE.mv r U U' V V' h1 hal h2 h) ?_
  intro p e s m args below meth c s₁ X0 hexec hbytes hml hret hlk hnm hown hh0 W hP
  obtain ⟨rfl, hx, hc, s1, hz⟩ := hP
  have c1 : Steps p.tables e below (s₁.setTop (entryFrame m #[.ref x] 1)) (s₁.setTop (mkF m 0 #[.val (.ref x)] [])) := entry rfl
  obtain ⟨T2, X2, q2, st2⟩ := X0.sget hexec hown (wk W (.fieldLink "java/lang/String" 38 "java/lang/String" "COMPACT_STRINGS" "Z")) s1 (fun _ _ h => by rw [hh0]; exact h) (g := (mkF m 0 #[.val (.ref x)] [])) rfl (hb hbytes d0)
  have hh2 := q2.trans hh0
  have c3 : Steps p.tables e below (s₁.setTop (entryFrame m #[.ref x] 1)) (T2.setTop (mkF m 7 #[.val (.ref x)] [.ref x])) := (c1.trans (st2 _ (Steps.refl _))).trans (by
    refine XS.ifNo X2.here hexec rfl (hb hbytes d3) rfl (i0_eq_f hz) ?_
    refine XS.aloadN X2.here hexec rfl (hb hbytes d6) rfl rfl ?_
    exact Steps.refl _)
  obtain ⟨T4, X4, q4, st4⟩ := X2.hget hexec hown (wk W (.fieldLink "java/lang/String" 15 "java/lang/String" "coder" "B")) (hx.mv X2.warmed.alike hh2) (g := (mkF m 7 #[.val (.ref x)] [.ref x])) rfl (rest := []) rfl (hb hbytes d7)
  have c5 : Steps p.tables e below (s₁.setTop (entryFrame m #[.ref x] 1)) (T4.setTop (mkF m 14 #[.val (.ref x)] [.int cd])) := (c3.trans (st4 _ (Steps.refl _))).trans (by
    refine XS.goto X4.here hexec rfl (pc0 := 10) rfl (hb hbytes d10) (by decide) rfl ?_
    exact Steps.refl _)
  exact ⟨T4, some (.int cd), _, _, _, X4, rfl, rfl, rfl, (fun h => by cases h), ⟨rfl, q4.trans hh2⟩, fun fs hl => c5.trans (X4.ireturnOut hexec hret (by rcases hc with rfl | rfl <;> rfl) (Or.inr (Or.inr (Or.inl rfl))) (hb hbytes d14) hl)⟩
end Cdr
namespace Len
def yN : MethodName := ⟨"java/lang/String", "length", "()I"⟩
abbrev yB : ByteArray := jdk_42_method_54_code
theorem d0 : decode yB 0 = .ok (.aload_n 0, 1) := by decide +kernel
theorem d1 : decode yB 1 = .ok (.getfield 9, 3) := by decide +kernel
theorem d4 : decode yB 4 = .ok (.arraylength, 1) := by decide +kernel
theorem d5 : decode yB 5 = .ok (.aload_n 0, 1) := by decide +kernel
theorem d6 : decode yB 6 = .ok (.invokevirtual 335, 3) := by decide +kernel
theorem d9 : decode yB 9 = .ok (.ishr, 1) := by decide +kernel
theorem d10 : decode yB 10 = .ok (.ireturn, 1) := by decide +kernel
def site : List Cond := [.fieldLink "java/lang/String" 9 "java/lang/String" "value" "[B", Cdr.tab] ++ virtW "java/lang/String" 335 "java/lang/String" Cdr.yN Cdr.yN
def tab : Cond := tabOf yN yB 1 (some .int) site
def P (x t : Addr) (V : Cell) (cd : Int32) (n : Nat) (f : Nat → Int32) (z : Int32) (args : Array Value) (s : State) : Prop := args = #[.ref x] ∧ Txt x t V cd n f s ∧ StaticIs s "java/lang/String" "COMPACT_STRINGS" "Z" (.int z) ∧ ¬ z = 0
def E (n : Nat) (r : Option Value) (s u : State) : Prop := XT.PureE (some (.int (Int32.ofNat n))) r s u
/-- length() of a String of n chars, in either coding -/
theorem law (l : Launch) (x t : Addr) (V : Cell) (cd : Int32) (n : Nat) (f : Nat → Int32) (z : Int32) : Law l yN 1 0 1 13 yB 1 (some .int) site (P x t V cd n f z) (E n) [] 0 0 := by
  refine Law.of_walk (plainFor_of_name (by decide +kernel)) (by decide +kernel) (by decide +kernel) (by decide) (fun _ _ h => by rw [h.1]; rfl) (fun _ U U' hal hh h => ⟨h.1, h.2.1.mv hal hh, h.2.2.1.there hal hh, h.2.2.2⟩) (fun r U U' V V' h1 hal h2 h => XT.PureE.mv r U U' V V' h1 hal h2 h) ?_
  intro p e s m args below meth c s₁ X0 hexec hbytes hml hret hlk hnm hown hh0 W hP
  obtain ⟨rfl, hx, s1, hz⟩ := hP
  have v31 := hx.2.2.2.1.2.2.2
  have c1 : Steps p.tables e below (s₁.setTop (entryFrame m #[.ref x] 1)) (s₁.setTop (mkF m 1 #[.val (.ref x)] [.ref x])) := Steps.trans (entry rfl) (by
    show Steps p.tables e below (s₁.setTop (mkF m 0 #[.val (.ref x)] [])) _
    refine XS.aloadN X0.here hexec rfl (hb hbytes d0) rfl rfl ?_
    exact Steps.refl _)
  obtain ⟨T2, X2, q2, st2⟩ := X0.hget hexec hown (wk W (.fieldLink "java/lang/String" 9 "java/lang/String" "value" "[B")) (hx.mv X0.warmed.alike hh0).2.1 (g := (mkF m 1 #[.val (.ref x)] [.ref x])) rfl (rest := []) rfl (hb hbytes d1)
  have hh2 := q2.trans hh0
  have hx2 := hx.mv X2.warmed.alike hh2
  have c3 : Steps p.tables e below (s₁.setTop (entryFrame m #[.ref x] 1)) (T2.setTop (mkF m 6 #[.val (.ref x)] [.ref x, .int (Int32.ofNat V.slots.size)])) := (c1.trans (st2 _ (Steps.refl _))).trans (by
    refine X2.alen hexec hx2.2.2.2.1 rfl rfl (hb hbytes d4) ?_
    refine XS.aloadN X2.here hexec rfl (hb hbytes d5) rfl rfl ?_
    exact Steps.refl _)
  obtain ⟨v4, T4, X4, E4, g4⟩ := X2.callV hexec (Cdr.law l x cd z) hown (wks W (virtW "java/lang/String" 335 "java/lang/String" Cdr.yN Cdr.yN)) rfl (by decide) (wk W Cdr.tab) (W := 1) (Nat.le_of_ble_eq_true rfl) (Nat.le_of_ble_eq_true rfl) (Nat.le_refl _) (Nat.le_refl _) (hx2.1.fc X2.warmed.alike) hx2.1.is (g := (mkF m 6 #[.val (.ref x)] [.ref x, .int (Int32.ofNat V.slots.size)])) rfl (by rw [hml]; rfl) c3 (argsL := []) (rest := [.int (Int32.ofNat V.slots.size)]) rfl rfl (by show 2 * 0 + (1 + 0) ≤ _; decide) (hb hbytes d6) (⟨rfl, hx2.2.2.1, hx.2.2.2.2.1.cd, s1.there X2.warmed.alike hh2, hz⟩)
  obtain ⟨rfl, q4⟩ := E4
  have c5 : Steps p.tables e below (s₁.setTop (entryFrame m #[.ref x] 1)) (T4.setTop (mkF m 10 #[.val (.ref x)] [.int (Int32.ofNat V.slots.size >>> (cd &&& 31))])) := Steps.trans g4 (by
    refine ishr X4.here hexec rfl (hb hbytes d9) rfl ?_
    exact Steps.refl _)
  rw [hx.2.2.2.2.1.len v31] at c5
  exact ⟨T4, some (.int (Int32.ofNat n)), _, _, _, X4, rfl, rfl, rfl, (fun h => by cases h), ⟨rfl, q4.trans hh2⟩, fun fs hl => c5.trans (X4.ireturnOut hexec hret rfl (Or.inl rfl) (hb hbytes d10) hl)⟩
theorem pays {l : Launch} {R : Room} {p : Program} {e : Env} {below : List Frame} {s : State} {sargs : Array Value} {len W : Nat} (x t : Addr) (V : Cell) (cd : Int32) (n : Nat) (f : Nat → Int32) (z : Int32) (htab : tab.before sargs s = true) (hfr : 2 ≤ R.frames) (hlo : W + 25 ≤ R.locals) :
    Back l R p e below s sargs yN len W (fun A₁ a₁ => A₁.cells + 0 ≤ R.cells ∧ A₁.slots + 0 ≤ R.slots ∧ P x t V cd n f z a₁ A₁.U) (fun A₁ _ v₁ B₁ => E n v₁ A₁.U B₁.U ∧ B₁.locs = A₁.locs ++ [] ∧ B₁.cells = A₁.cells + 0 ∧ B₁.slots = A₁.slots + 0) :=
  (law l x t V cd n f z).pays htab hfr (by omega)
end Len
end StrChars
namespace StrChars.Road
open Jvm Sem ClassFile Op Lib Jvm.Stand Jvm.Free Jvm.Free.XT
open Jvm.Lib.Cold (StaticIs)
theorem consq {a : Array Value} {s : State} {c : Jvm.Cond} {L : List Jvm.Cond} (h0 : c.before a s = true) (h : ∀ w ∈ L, w.before a s = true) : ∀ w ∈ c :: L, w.before a s = true := fun w hw => (List.mem_cons.mp hw).elim (fun e => e ▸ h0) (h w)
/-- the words of String.length(), either coding -/
abbrev wordsLen : List Jvm.Cond := [.code Len.yN Len.yB 1 (some .int), .initialized ST, .fieldLink ST 9 ST "value" "[B", .fieldLink ST 38 ST "COMPACT_STRINGS" "Z", .fieldLink ST 15 ST "coder" "B", .code Cdr.yN Cdr.yB 1 (some .byte), .methodLink ST 335 Cdr.yN, .declares Cdr.yN, .selects ST Cdr.yN Cdr.yN, .instanceMethod Cdr.yN]
theorem tabLen_of {a : Array Value} {s : State} (h : ∀ w ∈ wordsLen, w.before a s = true) : Len.tab.before a s = true := by
  have hc : Cdr.tab.before a s = true := unparts (wk h (.code Cdr.yN Cdr.yB 1 (some .byte))) (wks h (.initialized Cdr.yN.cls :: Cdr.site))
  have q := consq hc h
  exact unparts (wk q (.code Len.yN Len.yB 1 (some .int))) (wks q (.initialized Len.yN.cls :: Len.site))
theorem movedLen {Z s : State} {a0 args : Array Value} (hZ : Z.Warmed39 s.vm) (hw : ∀ d ∈ wordsLen, d.before a0 Z = true) : ∀ d ∈ wordsLen, d.before args s = true := fun d hd => by
  have q := hw d hd
  have t : ∀ d ∈ wordsLen, d = .arrayClass .byte ∨ (d.onTables && d.keepsFace) = true := by decide +kernel
  rcases t d hd with rfl | t
  · exact RoadKit.mvA hZ q
  · exact RoadKit.mv hZ q t
/-- the bytes of the chars cs, low before high -/
def wideBytes : List Int32 → List Value
  | [] => []
  | c :: cs => .int (lo8 c) :: .int (hi8 c) :: wideBytes cs
theorem wide_lo (d : Value) : ∀ (cs : List Int32) (j : Nat), j < cs.length → (wideBytes cs).getD (2 * j) d = .int (lo8 (cs.getD j 0))
  | [], j, h => absurd h (Nat.not_lt_zero j)
  | c :: cs, 0, _ => rfl
  | c :: cs, j + 1, h => by
    have q := wide_lo d cs j (by simpa using h)
    rw [show 2 * (j + 1) = 2 * j + 1 + 1 from by omega]
    simpa [wideBytes] using q
theorem wide_hi (d : Value) : ∀ (cs : List Int32) (j : Nat), j < cs.length → (wideBytes cs).getD (2 * j + 1) d = .int (hi8 (cs.getD j 0))
  | [], j, h => absurd h (Nat.not_lt_zero j)
  | c :: cs, 0, _ => rfl
  | c :: cs, j + 1, h => by
    have q := wide_hi d cs j (by simpa using h)
    rw [show 2 * (j + 1) + 1 = 2 * j + 1 + 1 + 1 from by omega]
    simpa [wideBytes] using q
theorem low_at (d : Value) (cs : List Int32) (j : Nat) (h : j < cs.length) : (cs.map fun c => Value.int (lo8 c)).getD j d = .int (lo8 (cs.getD j 0)) := by
  simp [List.getD_eq_getElem?_getD, h]
/-- an array of N2 bytes vs codes the chars cs by the coder cd -/
def CodA (cs : List Int32) (cd N2 : Int32) (vs : List Value) : Prop := (cd = 0 ∧ N2 = Int32.ofNat cs.length ∧ vs = (cs.map fun c => Value.int (lo8 c)) ∧ ∀ c ∈ cs, ¬ 255 < c) ∨ (cd = 1 ∧ N2 = Int32.ofNat (2 * cs.length) ∧ vs = wideBytes cs ∧ ∃ c ∈ cs, 255 < c)
theorem CodA.cod {cs : List Int32} {cd N2 : Int32} {vs : List Value} {V : Cell} (h : CodA cs cd N2 vs) (hn : 2 * cs.length < 2 ^ 31) (hs : V.slots.size = N2.toNatClampNeg) (hv : RoadKit.Has V vs (.int 0)) : Cod cd cs.length (fun j => cs.getD j 0) V := by
  rcases h with ⟨rfl, rfl, rfl, h⟩ | ⟨rfl, rfl, rfl, c, hc, hw⟩
  · rw [n32 (by omega)] at hs
    exact Or.inl ⟨rfl, hs, fun j hj => ⟨by rw [hv j (by omega), low_at _ _ _ hj], by
      have e : cs.getD j 0 = cs[j] := by simp [List.getD_eq_getElem?_getD, hj]
      show ¬ 255 < cs.getD j 0
      rw [e]; exact h _ (List.getElem_mem _)⟩⟩
  · rw [n32 (by omega)] at hs
    obtain ⟨j, hj, rfl⟩ := List.getElem_of_mem hc
    exact Or.inr ⟨rfl, hs, fun j hj => ⟨by rw [hv _ (by omega), wide_lo _ _ _ hj], by rw [hv _ (by omega), wide_hi _ _ _ hj]⟩, j, hj, by
      have e : cs.getD j 0 = cs[j] := by simp [List.getD_eq_getElem?_getD, hj]
      show 255 < cs.getD j 0
      rw [e]; exact hw⟩
/-- an object of exactly java/lang/String, its two fields found: as the laws ask it -/
theorem strObj {Z U : State} {a0 : Array Value} {kI : Nat} (wi : (Jvm.Cond.instantiable ST kI).before a0 Z = true) (al : Z.vm.Alike U.vm) {x : Addr} {v0 c0 : Value} (E : RoadKit.Exa Z U.heap x ST) (V : RoadKit.Fld Z U.heap x ST "value" "[B" v0) (C : RoadKit.Fld Z U.heap x ST "coder" "B" c0) :
    ∃ (D : Cell) (fV fC : Field), Blank ST x D U ∧ Found ST "value" "[B" fV U ∧ Found ST "coder" "B" fC U ∧ D.slots[fV.slot]? = some v0 ∧ D.slots[fC.slot]? = some c0 ∧ RoadKit.slotOf Z ST "value" "[B" = fV.slot ∧ RoadKit.slotOf Z ST "coder" "B" = fC.slot := by
  obtain ⟨D, cfV, kV, iV, fV, hD, gV, stV, knV, obV, asV, slV⟩ := V
  obtain ⟨D', cfC, kC, iC, fC, hD', gC, stC, -, -, asC, slC⟩ := C
  cases hD.symm.trans hD'
  obtain ⟨D2, kD, e1, e2, e3, e4, e5⟩ := E
  cases hD.symm.trans e1
  obtain ⟨c2, k2, i1, i2, i3, -⟩ := Cond.instantiable_spec wi
  cases e2.symm.trans i1
  cases e3.symm.trans i2
  obtain ⟨kU, u1, u2⟩ := al.2.2 _ _ e3
  exact ⟨D, fV, fC, ⟨hD, ⟨knV, fun q hq => by rw [hq] at obV; cases obV⟩, by rw [al.findClass]; exact e2, kU, u1, by rw [u2]; exact i3, by rw [u2]; exact e5 i3⟩, ⟨SBG.found_only al ⟨cfV, kV, iV, gV⟩, stV⟩, ⟨SBG.found_only al ⟨cfC, kC, iC, gC⟩, stC⟩, slV, slC, by simp [RoadKit.slotOf, gV], by simp [RoadKit.slotOf, gC]⟩
theorem sta_is {Z U : State} (al : Z.vm.Alike U.vm) {C n d : String} {v : Value} (S : RoadKit.Sta Z U.heap C n d v) : StaticIs U C n d v := by
  obtain ⟨cfS, iS, kS, fS, st, cS, t1, t2, t3, t4, t5, t6, t7⟩ := S
  exact StaticIs.there (s := { Z with heap := U.heap }) ⟨cfS, iS, kS, fS, st, cS, t1, t2, t3, t4, t5, (fun q => by rw [q] at t6; cases t6), t7⟩ al rfl
/-- **length() OF SUCH A STRING** -/
theorem lenW {p : Program} {l : Launch} {e : Env} {R : Room} {s : State} {args : Array Value} {below : List Frame} {len W : Nat} {Z : State} {a0 : Array Value} {h : Heap} (hZ : Z.Warmed39 s.vm) (hw : ∀ d ∈ wordsLen, d.before a0 Z = true) {kI : Nat} (wi : (Jvm.Cond.instantiable ST kI).before a0 Z = true)
    {x t : Addr} {kb : ClassId} {cs : List Int32} {cd N2 z : Int32} {vs : List Value} (E : RoadKit.Exa Z h x ST) (V : RoadKit.Fld Z h x ST "value" "[B" (.ref t)) (C : RoadKit.Fld Z h x ST "coder" "B" (.int cd)) (K : RoadKit.Arv Z h t kb .byte N2 vs (.int 0)) (hc : CodA cs cd N2 vs) (hb : ∀ c ∈ cs, ¬ c < 0 ∧ ¬ (65535 : Int32) < c)
    (S : RoadKit.Sta Z h ST "COMPACT_STRINGS" "Z" (.int z)) (hz : ¬ z = 0) (l2 : cs.length ≤ 4000) (hfr : 2 ≤ R.frames) (hlo : W + 25 ≤ R.locals) :
    Back l R p e below s args (⟨"java/lang/String", "length", "()I"⟩ : MethodName) len W (fun P a => a = #[.ref x] ∧ P.U.heap = h ∧ P.cells + 0 ≤ R.cells ∧ P.slots + 0 ≤ R.slots)
      (fun P _ v B => ∃ L, (v = some (.int (Int32.ofNat cs.length)) ∧ L = [] ∧ B.U.heap = h) ∧ B.locs = P.locs ++ L ∧ B.cells = P.cells + 0 ∧ B.slots = P.slots + 0) := by
  obtain ⟨A, K1, K2, K3, K4, K5, K6⟩ := K
  have hcod := hc.cod (by omega) K3 K5
  intro m meth c P g ig mk a X hg hsize hdg hW hn hp'
  obtain ⟨rfl, rfl, r1, r2⟩ := hp'
  have al : Z.vm.Alike P.U.vm := hZ.alike.trans X.warmed.alike
  obtain ⟨D, fV, fC, hB, F1, F2, g1, g2, -, -⟩ := strObj wi al E V C
  have hx : Txt x t A cd cs.length (fun j => cs.getD j 0) P.U := ⟨⟨_, hB.2.2.1, D, hB.1, rfl, by cases q : D.vm <;> first | rfl | exact absurd q (hB.2.1.2 _)⟩, Has.of hB F1 g1, Has.of hB F2 g2, ⟨K1.1, State.isArrayOf_alike al K1.2.1, K1.2.2, by rcases hcod with ⟨-, q, -⟩ | ⟨-, q, -⟩ <;> omega⟩, hcod, fun j hj => by
    have e : cs.getD j 0 = cs[j] := by simp [List.getD_eq_getElem?_getD, hj]
    show ¬ cs.getD j 0 < 0 ∧ ¬ 65535 < cs.getD j 0
    rw [e]; exact hb _ (List.getElem_mem _)⟩
  obtain ⟨v, B, X', ⟨⟨hv, hh⟩, hl, hk, hs⟩, st⟩ := Len.pays x t A cd cs.length (fun j => cs.getD j 0) z (tabLen_of (movedLen hZ hw)) hfr hlo m meth c P g ig mk _ X hg hsize hdg hW hn ⟨r1, r2, rfl, hx, sta_is al S, hz⟩
  exact ⟨v, B, X', ⟨[], ⟨hv, rfl, hh⟩, hl, hk, hs⟩, st⟩
end StrChars.Road
namespace StrChars.Road
open Jvm Sem ClassFile Op Lib Jvm.Stand Jvm.Free Jvm.Free.XT
open Jvm.Lib.Cold (StaticIs)
/-- what backV says of its String, as the contracts of this text ask it: cs's low bytes, coder 0 -/
theorem codOf {cs : List Int32} {n : Nat} (hn : cs.length = n) (hb : ∀ c ∈ cs, ¬ 255 < c) : CodA cs 0 (Int32.ofNat n) ((cs.map lo8).map Value.int) := Or.inl ⟨rfl, by rw [hn], by simp [List.map_map, Function.comp_def], hb⟩
end StrChars.Road
end Jvm.Pilot.@@N@@
namespace Jvm.Pilot.@@N@@
open Jvm Jvm.ClassFile Sem Op Lib Jvm.Free Jvm.Stand Jvm.LawKit Jvm.RoadKit Bundle Jvm.Pilot.@@N@@.Jvm.D
-- OWN KIT: walks in continuation style over the library's Stand laws (own text, pasted into each Proof.lean)
section OwnKit
variable {p : Program} {l : Launch} {e : Env} {R : Room} {s : State} {m : MethodId} {args : Array Value} {below : List Frame} {meth : Method} {c : Code} {T : State} {locs : List Loc} {cells slots : Nat} {Z : State} {a0 : Array Value} {h : Heap} {own : String} {cd : ByteArray} {maxL : Nat} {ret : Option FieldType} {nm : String} {n0 : Nat} {F : Option Value → Heap → Prop} {kc ks : Nat} {pc : Nat} {ls : Array Slot} {st : List Value}
/-- from the frame g over T the method runs to its end, returns v, leaves a heap, F holds of both; only new cells are written -/
def own_Go (p : Program) (e : Env) (below : List Frame) (s : State) (n0 : Nat) (F : Option Value → Heap → Prop) (kc ks : Nat) (T : State) (g : JFrame) : Prop :=
  ∃ s₂ o, Steps p.tables e below (T.setTop g) s₂ ∧ s₂.status = .running ∧ Ended s₂ below o ∧ ∃ v L, o = .returned v ∧ (F v s₂.heap ∧ Fr n0 L) ∧ FrameEnd s o s₂ L kc ks
theorem own_step {T' : State} {g g' : JFrame} (st : ∀ t, Steps p.tables e below (T'.setTop g') t → Steps p.tables e below (T.setTop g) t) (k : own_Go p e below s n0 F kc ks T' g') : own_Go p e below s n0 F kc ks T g := by
  obtain ⟨s₂, o, h1, h2⟩ := k
  exact ⟨s₂, o, st _ h1, h2⟩
theorem own_Go.mono {F' : Option Value → Heap → Prop} {g : JFrame} (k : own_Go p e below s n0 F kc ks T g) (hf : ∀ v h, F v h → F' v h) : own_Go p e below s n0 F' kc ks T g := by
  obtain ⟨s₂, o, h1, h2, h3, v, L, h4, ⟨h5, h6⟩, h7⟩ := k
  exact ⟨s₂, o, h1, h2, h3, v, L, h4, ⟨hf _ _ h5, h6⟩, h7⟩
/-- what stays the same in one body -/
def own_Cx (p : Program) (s : State) (m : MethodId) (meth : Method) (c : Code) (Z : State) (own : String) (cd : ByteArray) (maxL : Nat) (ret : Option FieldType) (nm : String) : Prop :=
  p.tables.exec = Jvm.exec ∧ c.code = cd ∧ c.maxLocals = maxL ∧ s.vm.findClass own = some m.cls ∧ meth.name = nm ∧ meth.sig.returnType = ret ∧ meth.locks = false ∧ Z.Warmed39 s.vm
/-- where the walk stands: the heap is h, at most so many cells and slots have been made, nothing old was written -/
def own_S (p : Program) (l : Launch) (e : Env) (R : Room) (s : State) (m : MethodId) (args : Array Value) (below : List Frame) (meth : Method) (c : Code) (n0 : Nat) (T : State) (h : Heap) (cells slots : Nat) : Prop :=
  ∃ locs k n, Stand p l e R s m args below meth c T locs k n ∧ T.heap = h ∧ Fr n0 locs ∧ k ≤ cells ∧ n ≤ slots
theorem own_S.mono {c' s' : Nat} (S : own_S p l e R s m args below meth c n0 T h cells slots) (h1 : cells ≤ c') (h2 : slots ≤ s') : own_S p l e R s m args below meth c n0 T h c' s' := by
  obtain ⟨locs, k, n, X, e1, N, q1, q2⟩ := S
  exact ⟨locs, k, n, X, e1, N, Nat.le_trans q1 h1, Nat.le_trans q2 h2⟩
theorem own_hd (C : own_Cx p s m meth c Z own cd maxL ret nm) {i : Instr} {len : Nat} (hd : decode cd pc = .ok (i, len)) : decode c.code pc = .ok (i, len) := by rw [C.2.1]; exact hd
theorem own_hsz (C : own_Cx p s m meth c Z own cd maxL ret nm) (hsz : ls.size = maxL) : ls.size = c.maxLocals := by rw [C.2.2.1]; exact hsz
/-- the k-th table word -/
theorem own_wd {L : List Jvm.Cond} (hw : ∀ d ∈ L, d.before a0 Z = true) (i : Nat) {d : Jvm.Cond} (hi : L[i]? = some d) : d.before a0 Z = true := hw d (List.mem_of_getElem? hi)
/-- one plain instruction -/
def own_st (i : Instr) (len pc : Nat) (ls : Array Slot) (st : List Value) : Option (Nat × Array Slot × List Value) :=
  match i with
  | .iload_n k => match len, ls[k.val]? with | 1, some (.val (.int v)) => some (pc + 1, ls, .int v :: st) | _, _ => none
  | .iload k => match len, ls[k]? with | 2, some (.val (.int v)) => some (pc + 2, ls, .int v :: st) | _, _ => none
  | .lload_n k => match len, ls[k.val]? with | 1, some (.val (.long v)) => some (pc + 1, ls, .long v :: st) | _, _ => none
  | .lload k => match len, ls[k]? with | 2, some (.val (.long v)) => some (pc + 2, ls, .long v :: st) | _, _ => none
  | .dload_n k => match len, ls[k.val]? with | 1, some (.val (.double v)) => some (pc + 1, ls, .double v :: st) | _, _ => none
  | .dload k => match len, ls[k]? with | 2, some (.val (.double v)) => some (pc + 2, ls, .double v :: st) | _, _ => none
  | .aload_n k => match len, ls[k.val]? with | 1, some (.val (.ref v)) => some (pc + 1, ls, .ref v :: st) | 1, some (.val .null) => some (pc + 1, ls, .null :: st) | _, _ => none
  | .aload k => match len, ls[k]? with | 2, some (.val (.ref v)) => some (pc + 2, ls, .ref v :: st) | 2, some (.val .null) => some (pc + 2, ls, .null :: st) | _, _ => none
  | .istore_n k => match len, st with | 1, .int x :: r => (match storeLocals ls k.val (.int x) with | some l' => some (pc + 1, l', r) | none => none) | _, _ => none
  | .istore k => match len, st with | 2, .int x :: r => (match storeLocals ls k (.int x) with | some l' => some (pc + 2, l', r) | none => none) | _, _ => none
  | .lstore_n k => match len, st with | 1, .long x :: r => (match storeLocals ls k.val (.long x) with | some l' => some (pc + 1, l', r) | none => none) | _, _ => none
  | .lstore k => match len, st with | 2, .long x :: r => (match storeLocals ls k (.long x) with | some l' => some (pc + 2, l', r) | none => none) | _, _ => none
  | .dstore_n k => match len, st with | 1, .double x :: r => (match storeLocals ls k.val (.double x) with | some l' => some (pc + 1, l', r) | none => none) | _, _ => none
  | .dstore k => match len, st with | 2, .double x :: r => (match storeLocals ls k (.double x) with | some l' => some (pc + 2, l', r) | none => none) | _, _ => none
  | .astore_n k => match len, st with
    | 1, .ref x :: r => (match storeLocals ls k.val (.ref x) with | some l' => some (pc + 1, l', r) | none => none)
    | 1, .null :: r => (match storeLocals ls k.val .null with | some l' => some (pc + 1, l', r) | none => none)
    | _, _ => none
  | .astore k => match len, st with
    | 2, .ref x :: r => (match storeLocals ls k (.ref x) with | some l' => some (pc + 2, l', r) | none => none)
    | 2, .null :: r => (match storeLocals ls k .null with | some l' => some (pc + 2, l', r) | none => none)
    | _, _ => none
  | .iinc k d => match len, ls[k]? with | 3, some (.val (.int x)) => (match storeLocals ls k (.int (x + Int32.ofInt d)) with | some l' => some (pc + 3, l', st) | none => none) | _, _ => none
  | .iconst i => match len with | 1 => some (pc + 1, ls, .int (Int32.ofInt i) :: st) | _ => none
  | .bipush i => match len with | 2 => some (pc + 2, ls, .int (Int8.ofInt i).toInt32 :: st) | _ => none
  | .sipush i => match len with | 3 => some (pc + 3, ls, .int (Int16.ofInt i).toInt32 :: st) | _ => none
  | .lconst k => match len with | 1 => some (pc + 1, ls, .long (Int64.ofNat k) :: st) | _ => none
  | .aconst_null => match len with | 1 => some (pc + 1, ls, .null :: st) | _ => none
  | .iadd => match len, st with | 1, .int y :: .int x :: r => some (pc + 1, ls, .int (x + y) :: r) | _, _ => none
  | .isub => match len, st with | 1, .int y :: .int x :: r => some (pc + 1, ls, .int (x - y) :: r) | _, _ => none
  | .imul => match len, st with | 1, .int y :: .int x :: r => some (pc + 1, ls, .int (x * y) :: r) | _, _ => none
  | .iand => match len, st with | 1, .int y :: .int x :: r => some (pc + 1, ls, .int (x &&& y) :: r) | _, _ => none
  | .ior => match len, st with | 1, .int y :: .int x :: r => some (pc + 1, ls, .int (x ||| y) :: r) | _, _ => none
  | .ixor => match len, st with | 1, .int y :: .int x :: r => some (pc + 1, ls, .int (x ^^^ y) :: r) | _, _ => none
  | .ishl => match len, st with | 1, .int y :: .int x :: r => some (pc + 1, ls, .int (x <<< (y &&& 31)) :: r) | _, _ => none
  | .ishr => match len, st with | 1, .int y :: .int x :: r => some (pc + 1, ls, .int (x >>> (y &&& 31)) :: r) | _, _ => none
  | .iushr => match len, st with | 1, .int y :: .int x :: r => some (pc + 1, ls, .int (Jvm.Free.XT.ushr x y) :: r) | _, _ => none
  | .ineg => match len, st with | 1, .int x :: r => some (pc + 1, ls, .int (-x) :: r) | _, _ => none
  | .ladd => match len, st with | 1, .long y :: .long x :: r => some (pc + 1, ls, .long (x + y) :: r) | _, _ => none
  | .lsub => match len, st with | 1, .long y :: .long x :: r => some (pc + 1, ls, .long (x - y) :: r) | _, _ => none
  | .lmul => match len, st with | 1, .long y :: .long x :: r => some (pc + 1, ls, .long (x * y) :: r) | _, _ => none
  | .land => match len, st with | 1, .long y :: .long x :: r => some (pc + 1, ls, .long (x &&& y) :: r) | _, _ => none
  | .lor => match len, st with | 1, .long y :: .long x :: r => some (pc + 1, ls, .long (x ||| y) :: r) | _, _ => none
  | .lshl => match len, st with | 1, .int y :: .long x :: r => some (pc + 1, ls, .long (x <<< (y.toInt64 &&& 63)) :: r) | _, _ => none
  | .lshr => match len, st with | 1, .int y :: .long x :: r => some (pc + 1, ls, .long (x >>> (y.toInt64 &&& 63)) :: r) | _, _ => none
  | .lushr => match len, st with | 1, .int y :: .long x :: r => some (pc + 1, ls, .long (Jvm.Free.XT.ushrL x y) :: r) | _, _ => none
  | .lcmp => match len, st with | 1, .long y :: .long x :: r => some (pc + 1, ls, .int (Jvm.Free.XT.cmpL x y) :: r) | _, _ => none
  | .i2l => match len, st with | 1, .int x :: r => some (pc + 1, ls, .long x.toInt64 :: r) | _, _ => none
  | .l2i => match len, st with | 1, .long x :: r => some (pc + 1, ls, .int x.toInt32 :: r) | _, _ => none
  | .i2b => match len, st with | 1, .int x :: r => some (pc + 1, ls, .int x.toInt8.toInt32 :: r) | _, _ => none
  | .i2c => match len, st with | 1, .int x :: r => some (pc + 1, ls, .int x.toUInt32.toUInt16.toUInt32.toInt32 :: r) | _, _ => none
  | .i2s => match len, st with | 1, .int x :: r => some (pc + 1, ls, .int x.toInt16.toInt32 :: r) | _, _ => none
  | .i2d => match len, st with | 1, .int x :: r => some (pc + 1, ls, .double (FP.i2d x) :: r) | _, _ => none
  | .dup => match len, st with | 1, .int x :: r => some (pc + 1, ls, .int x :: .int x :: r) | 1, .ref x :: r => some (pc + 1, ls, .ref x :: .ref x :: r) | 1, .null :: r => some (pc + 1, ls, .null :: .null :: r) | _, _ => none
  | .pop => match len, st with | 1, .int x :: r => some (pc + 1, ls, r) | 1, .ref x :: r => some (pc + 1, ls, r) | 1, .null :: r => some (pc + 1, ls, r) | _, _ => none
  | .dup_x1 => match len, st with | 1, .int x :: .ref y :: r => some (pc + 1, ls, .int x :: .ref y :: .int x :: r) | 1, .int x :: .int y :: r => some (pc + 1, ls, .int x :: .int y :: .int x :: r) | 1, .ref x :: .ref y :: r => some (pc + 1, ls, .ref x :: .ref y :: .ref x :: r) | _, _ => none
  | .dup2 => match len, st with | 1, .int x :: .ref y :: r => some (pc + 1, ls, .int x :: .ref y :: .int x :: .ref y :: r) | 1, .int x :: .int y :: r => some (pc + 1, ls, .int x :: .int y :: .int x :: .int y :: r) | 1, .long x :: r => some (pc + 1, ls, .long x :: .long x :: r) | _, _ => none
  | .goto o => match len, decide (0 ≤ (pc : Int) + o) with | 3, true => some (((pc : Int) + o).toNat, ls, st) | _, _ => none
  | .ifnull o => match len, st, decide (0 ≤ (pc : Int) + o) with | 3, .null :: r, true => some (((pc : Int) + o).toNat, ls, r) | 3, .ref _ :: r, _ => some (pc + 3, ls, r) | _, _, _ => none
  | .ifnonnull o => match len, st, decide (0 ≤ (pc : Int) + o) with | 3, .ref _ :: r, true => some (((pc : Int) + o).toNat, ls, r) | 3, .null :: r, _ => some (pc + 3, ls, r) | _, _, _ => none
  | _ => none
theorem own_st_ok (X : Stand p l e R s m args below meth c T locs cells slots) (hx : p.tables.exec = Jvm.exec) {i : Instr} {len pc' : Nat} {ls' : Array Slot} {st' : List Value} (hd : decode c.code pc = .ok (i, len)) (hs : own_st i len pc ls st = some (pc', ls', st')) (t : State)
    (k : Steps p.tables e below (T.setTop (mkF m pc' ls' st')) t) : Steps p.tables e below (T.setTop (mkF m pc ls st)) t := by
  unfold own_st at hs
  split at hs
  · split at hs <;> first | cases hs | skip
    rename_i q; exact XS.iloadN X.here hx rfl hd q k
  · split at hs <;> first | cases hs | skip
    rename_i q; exact XS.iload X.here hx rfl hd q k
  · split at hs <;> first | cases hs | skip
    rename_i q; exact Jvm.Free.XT.lloadN X.here hx rfl hd q k
  · split at hs <;> first | cases hs | skip
    rename_i q; exact Jvm.Free.XT.lload X.here hx rfl hd q k
  · split at hs <;> first | cases hs | skip
    rename_i q; exact XS.dloadN X.here hx rfl hd q k
  · split at hs <;> first | cases hs | skip
    rename_i q; exact XS.dload X.here hx rfl hd q k
  · split at hs <;> first | cases hs | skip
    · rename_i q; exact XS.aloadN X.here hx rfl hd q rfl k
    · rename_i q; exact XS.aloadN X.here hx rfl hd q rfl k
  · split at hs <;> first | cases hs | skip
    · rename_i q; exact XS.aload X.here hx rfl hd q rfl k
    · rename_i q; exact XS.aload X.here hx rfl hd q rfl k
  · split at hs <;> first | cases hs | skip
    split at hs <;> first | cases hs | skip
    rename_i q; exact XS.istoreN X.here hx rfl hd rfl q k
  · split at hs <;> first | cases hs | skip
    split at hs <;> first | cases hs | skip
    rename_i q; exact XS.istore X.here hx rfl hd rfl q k
  · split at hs <;> first | cases hs | skip
    split at hs <;> first | cases hs | skip
    rename_i q; exact Jvm.Free.XT.lstoreN X.here hx rfl hd rfl q k
  · split at hs <;> first | cases hs | skip
    split at hs <;> first | cases hs | skip
    rename_i q; exact Jvm.Free.XT.lstore X.here hx rfl hd rfl q k
  · split at hs <;> first | cases hs | skip
    split at hs <;> first | cases hs | skip
    rename_i q; exact XS.dstoreN X.here hx rfl hd rfl q k
  · split at hs <;> first | cases hs | skip
    split at hs <;> first | cases hs | skip
    rename_i q; exact XS.dstore X.here hx rfl hd rfl q k
  · split at hs <;> first | cases hs | skip
    all_goals
      split at hs <;> first | cases hs | skip
      rename_i q; exact XS.astoreN X.here hx rfl hd rfl rfl q k
  · split at hs <;> first | cases hs | skip
    all_goals
      split at hs <;> first | cases hs | skip
      rename_i q; exact XS.astore X.here hx rfl hd rfl rfl q k
  · split at hs <;> first | cases hs | skip
    rename_i q0
    split at hs <;> first | cases hs | skip
    rename_i q; exact XS.iinc X.here hx rfl hd q0 q k
  · split at hs <;> first | cases hs | skip
    exact XS.iconst X.here hx rfl hd k
  · split at hs <;> first | cases hs | skip
    exact XS.bipush X.here hx rfl hd k
  · split at hs <;> first | cases hs | skip
    exact XS.sipush X.here hx rfl hd k
  · split at hs <;> first | cases hs | skip
    exact Jvm.Free.XT.lconst X.here hx rfl hd k
  · split at hs <;> first | cases hs | skip
    exact XS.aconstNull X.here hx rfl hd k
  · split at hs <;> first | cases hs | skip
    exact XS.iadd X.here hx rfl hd rfl k
  · split at hs <;> first | cases hs | skip
    exact XS.isub X.here hx rfl hd rfl k
  · split at hs <;> first | cases hs | skip
    exact XS.imul X.here hx rfl hd rfl k
  · split at hs <;> first | cases hs | skip
    exact XS.iand X.here hx rfl hd rfl k
  · split at hs <;> first | cases hs | skip
    exact Jvm.Free.XT.ior X.here hx rfl hd rfl k
  · split at hs <;> first | cases hs | skip
    exact Jvm.Free.XT.ixor X.here hx rfl hd rfl k
  · split at hs <;> first | cases hs | skip
    exact Jvm.Free.XT.ishl X.here hx rfl hd rfl k
  · split at hs <;> first | cases hs | skip
    exact Jvm.Free.XT.ishr X.here hx rfl hd rfl k
  · split at hs <;> first | cases hs | skip
    exact Jvm.Free.XT.iushr X.here hx rfl hd rfl k
  · split at hs <;> first | cases hs | skip
    exact XS.ineg X.here hx rfl hd rfl k
  · split at hs <;> first | cases hs | skip
    exact Jvm.Free.XT.ladd X.here hx rfl hd rfl k
  · split at hs <;> first | cases hs | skip
    exact Jvm.Free.XT.lsub X.here hx rfl hd rfl k
  · split at hs <;> first | cases hs | skip
    exact Jvm.Free.XT.lmul X.here hx rfl hd rfl k
  · split at hs <;> first | cases hs | skip
    exact Jvm.Free.XT.land X.here hx rfl hd rfl k
  · split at hs <;> first | cases hs | skip
    exact Jvm.Free.XT.lor X.here hx rfl hd rfl k
  · split at hs <;> first | cases hs | skip
    exact Jvm.Free.XT.lshl X.here hx rfl hd rfl k
  · split at hs <;> first | cases hs | skip
    exact Jvm.Free.XT.lshr X.here hx rfl hd rfl k
  · split at hs <;> first | cases hs | skip
    exact Jvm.Free.XT.lushr X.here hx rfl hd rfl k
  · split at hs <;> first | cases hs | skip
    exact Jvm.Free.XT.lcmp X.here hx rfl hd rfl k
  · split at hs <;> first | cases hs | skip
    exact Jvm.Free.XT.i2l X.here hx rfl hd rfl k
  · split at hs <;> first | cases hs | skip
    exact Jvm.Free.XT.l2i X.here hx rfl hd rfl k
  · split at hs <;> first | cases hs | skip
    exact Jvm.Free.XT.i2b X.here hx rfl hd rfl k
  · split at hs <;> first | cases hs | skip
    exact Jvm.Free.XT.i2c X.here hx rfl hd rfl k
  · split at hs <;> first | cases hs | skip
    exact Jvm.Free.XT.i2s X.here hx rfl hd rfl k
  · split at hs <;> first | cases hs | skip
    exact XS.i2dS X.here hx rfl hd rfl rfl k
  · split at hs <;> first | cases hs | skip
    all_goals exact XS.dup X.here hx rfl hd rfl rfl k
  · split at hs <;> first | cases hs | skip
    all_goals exact Jvm.Free.XT.pop X.here hx rfl hd rfl rfl k
  · split at hs <;> first | cases hs | skip
    all_goals exact Jvm.Free.XT.dupX1 X.here hx rfl hd rfl rfl rfl k
  · split at hs <;> first | cases hs | skip
    · exact Jvm.Free.XT.dup2 X.here hx rfl hd rfl rfl rfl k
    · exact Jvm.Free.XT.dup2 X.here hx rfl hd rfl rfl rfl k
    · exact Jvm.Free.XT.dup2L X.here hx rfl hd rfl k
  · split at hs <;> first | cases hs | skip
    rename_i q; exact XS.goto X.here hx rfl rfl hd (of_decide_eq_true q) rfl k
  · split at hs <;> first | cases hs | skip
    · rename_i q; exact XS.ifnullYes X.here hx rfl rfl hd rfl (of_decide_eq_true q) rfl k
    · exact XS.ifnullNo X.here hx rfl hd rfl k
  · split at hs <;> first | cases hs | skip
    · rename_i q; exact Jvm.Free.XT.ifnonnullYes X.here hx rfl rfl hd rfl (of_decide_eq_true q) rfl k
    · exact Jvm.Free.XT.ifnonnullNo X.here hx rfl hd rfl k
  · cases hs
/-- a row of plain instructions -/
def own_run : List (Nat × Instr × Nat) → Nat → Array Slot → List Value → Option (Nat × Array Slot × List Value)
  | [], pc, ls, st => some (pc, ls, st)
  | x :: seg, pc, ls, st => match decide (pc = x.1) with
    | true => (match own_st x.2.1 x.2.2 x.1 ls st with | some (pc', ls', st') => own_run seg pc' ls' st' | none => none)
    | false => none
def own_dec (cd : ByteArray) (seg : List (Nat × Instr × Nat)) : Bool := seg.all fun x => decide (decode cd x.1 = .ok x.2)
theorem own_run_ok (X : Stand p l e R s m args below meth c T locs cells slots) (hx : p.tables.exec = Jvm.exec) (hby : c.code = cd) : ∀ (seg : List (Nat × Instr × Nat)) {pc pc' : Nat} {ls ls' : Array Slot} {st st' : List Value}, own_dec cd seg = true → own_run seg pc ls st = some (pc', ls', st') → ∀ t,
    Steps p.tables e below (T.setTop (mkF m pc' ls' st')) t → Steps p.tables e below (T.setTop (mkF m pc ls st)) t := by
  intro seg
  induction seg with
  | nil =>
    intro pc pc' ls ls' st st' _ hr t k
    simp only [own_run, Option.some.injEq, Prod.mk.injEq] at hr
    obtain ⟨rfl, rfl, rfl⟩ := hr
    exact k
  | cons x seg ih =>
    intro pc pc' ls ls' st st' hd hr t k
    simp only [own_dec, List.all_cons, Bool.and_eq_true, decide_eq_true_eq] at hd
    simp only [own_run] at hr
    split at hr
    · rename_i q
      have q' : pc = x.1 := of_decide_eq_true q
      subst q'
      split at hr
      · rename_i a1 b1 c1 q2
        exact own_st_ok X hx (by rw [hby]; exact hd.1) q2 t (ih hd.2 hr t k)
      · cases hr
    · cases hr
theorem own_seg (C : own_Cx p s m meth c Z own cd maxL ret nm) (S : own_S p l e R s m args below meth c n0 T h cells slots) (seg : List (Nat × Instr × Nat)) (hd : own_dec cd seg = true) (pc' : Nat) (ls' : Array Slot) (st' : List Value)
    (hr : own_run seg pc ls st = some (pc', ls', st')) (k : own_Go p e below s n0 F kc ks T (mkF m pc' ls' st')) : own_Go p e below s n0 F kc ks T (mkF m pc ls st) := by
  obtain ⟨locs, kk, n, X, -⟩ := S
  exact own_step (own_run_ok X C.1 C.2.1 seg hd hr) k
/-! branches -/
def own_P : ClassFile.Cond → Int32 → Int32 → Prop
  | .eq, x, y => x = y | .ne, x, y => ¬ x = y | .lt, x, y => x < y | .ge, x, y => ¬ x < y | .gt, x, y => y < x | .le, x, y => ¬ y < x
def own_N : ClassFile.Cond → Int32 → Int32 → Prop
  | .eq, x, y => ¬ x = y | .ne, x, y => x = y | .lt, x, y => ¬ x < y | .ge, x, y => x < y | .gt, x, y => ¬ y < x | .le, x, y => y < x
theorem own_holds (q : ClassFile.Cond) (x y : Int32) : (own_P q x y ∧ if_icmp.holds q x y = true) ∨ (own_N q x y ∧ if_icmp.holds q x y = false) := by
  cases q
  · by_cases g : x = y
    · exact Or.inl ⟨g, (teq g).1⟩
    · exact Or.inr ⟨g, (feq g).1⟩
  · by_cases g : x = y
    · exact Or.inr ⟨g, (teq g).2⟩
    · exact Or.inl ⟨g, (feq g).2⟩
  · by_cases g : x < y
    · exact Or.inl ⟨g, (tlt g).1⟩
    · exact Or.inr ⟨g, (flt g).1⟩
  · by_cases g : x < y
    · exact Or.inr ⟨g, (tlt g).2.1⟩
    · exact Or.inl ⟨g, (flt g).2.1⟩
  · by_cases g : y < x
    · exact Or.inl ⟨g, (tlt g).2.2.1⟩
    · exact Or.inr ⟨g, (flt g).2.2.1⟩
  · by_cases g : y < x
    · exact Or.inr ⟨g, (tlt g).2.2.2⟩
    · exact Or.inl ⟨g, (flt g).2.2.2⟩
theorem own_icmp (C : own_Cx p s m meth c Z own cd maxL ret nm) (S : own_S p l e R s m args below meth c n0 T h cells slots) {q : ClassFile.Cond} {o : Int} {x y : Int32} (hd : decode cd pc = .ok (.if_icmp q o, 3)) (pc' : Nat) (ho : 0 ≤ (pc : Int) + o) (hp : ((pc : Int) + o).toNat = pc')
    (k1 : own_P q x y → own_Go p e below s n0 F kc ks T (mkF m pc' ls st)) (k2 : own_N q x y → own_Go p e below s n0 F kc ks T (mkF m (pc + 3) ls st)) : own_Go p e below s n0 F kc ks T (mkF m pc ls (.int y :: .int x :: st)) := by
  obtain ⟨locs, kk, n, X, -⟩ := S
  rcases own_holds q x y with ⟨g, hc⟩ | ⟨g, hc⟩
  · exact own_step (fun t k => XS.icmpYes X.here C.1 rfl rfl (own_hd C hd) rfl hc ho hp k) (k1 g)
  · exact own_step (fun t k => XS.icmpNo X.here C.1 rfl (own_hd C hd) rfl hc k) (k2 g)
theorem own_if (C : own_Cx p s m meth c Z own cd maxL ret nm) (S : own_S p l e R s m args below meth c n0 T h cells slots) {q : ClassFile.Cond} {o : Int} {x : Int32} (hd : decode cd pc = .ok (.ifCond q o, 3)) (pc' : Nat) (ho : 0 ≤ (pc : Int) + o) (hp : ((pc : Int) + o).toNat = pc')
    (k1 : own_P q x 0 → own_Go p e below s n0 F kc ks T (mkF m pc' ls st)) (k2 : own_N q x 0 → own_Go p e below s n0 F kc ks T (mkF m (pc + 3) ls st)) : own_Go p e below s n0 F kc ks T (mkF m pc ls (.int x :: st)) := by
  obtain ⟨locs, kk, n, X, -⟩ := S
  rcases own_holds q x 0 with ⟨g, hc⟩ | ⟨g, hc⟩ <;> rw [← if0] at hc
  · exact own_step (fun t k => XS.ifYes X.here C.1 rfl rfl (own_hd C hd) rfl hc ho hp k) (k1 g)
  · exact own_step (fun t k => XS.ifNo X.here C.1 rfl (own_hd C hd) rfl hc k) (k2 g)
def own_A : ClassFile.ACond → Value → Value → Prop
  | .eq, x, y => x = y | .ne, x, y => ¬ x = y
def own_B : ClassFile.ACond → Value → Value → Prop
  | .eq, x, y => ¬ x = y | .ne, x, y => x = y
theorem own_acmp (C : own_Cx p s m meth c Z own cd maxL ret nm) (S : own_S p l e R s m args below meth c n0 T h cells slots) {q : ClassFile.ACond} {o : Int} {x y : Value} (hx' : x.isRef = true) (hy' : y.isRef = true) (hd : decode cd pc = .ok (.if_acmp q o, 3)) (pc' : Nat) (ho : 0 ≤ (pc : Int) + o) (hp : ((pc : Int) + o).toNat = pc')
    (k1 : own_A q x y → own_Go p e below s n0 F kc ks T (mkF m pc' ls st)) (k2 : own_B q x y → own_Go p e below s n0 F kc ks T (mkF m (pc + 3) ls st)) : own_Go p e below s n0 F kc ks T (mkF m pc ls (y :: x :: st)) := by
  obtain ⟨locs, kk, n, X, -⟩ := S
  cases q <;> by_cases g : x = y
  · exact own_step (fun t k => Jvm.Free.XT.acmpYes X.here C.1 rfl rfl (own_hd C hd) rfl hx' hy' (Jvm.Free.XT.aa_eq_t g) ho hp k) (k1 g)
  · exact own_step (fun t k => Jvm.Free.XT.acmpNo X.here C.1 rfl (own_hd C hd) rfl hx' hy' (Jvm.Free.XT.aa_eq_f g) k) (k2 g)
  · exact own_step (fun t k => Jvm.Free.XT.acmpNo X.here C.1 rfl (own_hd C hd) rfl hx' hy' (Jvm.Free.XT.aa_ne_f g) k) (k2 g)
  · exact own_step (fun t k => Jvm.Free.XT.acmpYes X.here C.1 rfl rfl (own_hd C hd) rfl hx' hy' (Jvm.Free.XT.aa_ne_t g) ho hp k) (k1 g)
/-! arithmetic with premises -/
theorem own_idiv (C : own_Cx p s m meth c Z own cd maxL ret nm) (S : own_S p l e R s m args below meth c n0 T h cells slots) {x y : Int32} (hd : decode cd pc = .ok (.idiv, 1)) (hy : y ≠ 0) (k : own_Go p e below s n0 F kc ks T (mkF m (pc + 1) ls (.int (x / y) :: st))) : own_Go p e below s n0 F kc ks T (mkF m pc ls (.int y :: .int x :: st)) := by
  obtain ⟨locs, kk, n, X, -⟩ := S
  exact own_step (fun t k => XS.idiv X.here C.1 rfl (own_hd C hd) rfl hy k) k
theorem own_irem (C : own_Cx p s m meth c Z own cd maxL ret nm) (S : own_S p l e R s m args below meth c n0 T h cells slots) {x y : Int32} (hd : decode cd pc = .ok (.irem, 1)) (hy : y ≠ 0) (k : own_Go p e below s n0 F kc ks T (mkF m (pc + 1) ls (.int (x % y) :: st))) : own_Go p e below s n0 F kc ks T (mkF m pc ls (.int y :: .int x :: st)) := by
  obtain ⟨locs, kk, n, X, -⟩ := S
  exact own_step (fun t k => iremM X C.1 rfl (own_hd C hd) rfl hy k) k
theorem own_dcmp (C : own_Cx p s m meth c Z own cd maxL ret nm) (S : own_S p l e R s m args below meth c n0 T h cells slots) {o : CmpOp} {x y : UInt64} (v : Int32) (hd : decode cd pc = .ok (.dcmp o, 1)) (hv : cmpValue (FP.dcmp x y) o = v) (k : own_Go p e below s n0 F kc ks T (mkF m (pc + 1) ls (.int v :: st))) : own_Go p e below s n0 F kc ks T (mkF m pc ls (.double y :: .double x :: st)) := by
  obtain ⟨locs, kk, n, X, -⟩ := S
  exact own_step (fun t k => XS.dcmpS X.here C.1 rfl (own_hd C hd) rfl hv k) k
theorem own_ddiv (C : own_Cx p s m meth c Z own cd maxL ret nm) (S : own_S p l e R s m args below meth c n0 T h cells slots) {x y : UInt64} (v : UInt64) (hd : decode cd pc = .ok (.ddiv, 1)) (hn : Jvm.Free.Fl.NoNaN64 (FP.ddiv x y)) (hv : FP.ddiv x y = v) (k : own_Go p e below s n0 F kc ks T (mkF m (pc + 1) ls (.double v :: st))) : own_Go p e below s n0 F kc ks T (mkF m pc ls (.double y :: .double x :: st)) := by
  obtain ⟨locs, kk, n, X, -⟩ := S
  exact own_step (fun t k => XS.ddivS X.here C.1 rfl (own_hd C hd) rfl hn hv k) k
theorem own_dmul (C : own_Cx p s m meth c Z own cd maxL ret nm) (S : own_S p l e R s m args below meth c n0 T h cells slots) {x y : UInt64} (v : UInt64) (hd : decode cd pc = .ok (.dmul, 1)) (hn : Jvm.Free.Fl.NoNaN64 (FP.dmul x y)) (hv : FP.dmul x y = v) (k : own_Go p e below s n0 F kc ks T (mkF m (pc + 1) ls (.double v :: st))) : own_Go p e below s n0 F kc ks T (mkF m pc ls (.double y :: .double x :: st)) := by
  obtain ⟨locs, kk, n, X, -⟩ := S
  exact own_step (fun t k => XS.dmulS X.here C.1 rfl (own_hd C hd) rfl hn hv k) k
theorem own_dadd (C : own_Cx p s m meth c Z own cd maxL ret nm) (S : own_S p l e R s m args below meth c n0 T h cells slots) {x y : UInt64} (v : UInt64) (hd : decode cd pc = .ok (.dadd, 1)) (hn : Jvm.Free.Fl.NoNaN64 (FP.dadd x y)) (hv : FP.dadd x y = v) (k : own_Go p e below s n0 F kc ks T (mkF m (pc + 1) ls (.double v :: st))) : own_Go p e below s n0 F kc ks T (mkF m pc ls (.double y :: .double x :: st)) := by
  obtain ⟨locs, kk, n, X, -⟩ := S
  exact own_step (fun t k => XS.daddS X.here C.1 rfl (own_hd C hd) rfl hn hv k) k
theorem own_dconst0 (C : own_Cx p s m meth c Z own cd maxL ret nm) (S : own_S p l e R s m args below meth c n0 T h cells slots) (hd : decode cd pc = .ok (.dconst 0, 1)) (k : own_Go p e below s n0 F kc ks T (mkF m (pc + 1) ls (.double 0 :: st))) : own_Go p e below s n0 F kc ks T (mkF m pc ls st) := by
  obtain ⟨locs, kk, n, X, -⟩ := S
  exact own_step (fun t k => XS.dconst0 X.here C.1 rfl (own_hd C hd) rfl k) k
/-! constants -/
theorem own_ldc (C : own_Cx p s m meth c Z own cd maxL ret nm) (S : own_S p l e R s m args below meth c n0 T h cells slots) {index : Nat} {v : Int32} (w : (Jvm.Cond.constant own index v).before a0 Z = true) (hd : decode cd pc = .ok (.ldc index, 2)) (k : own_Go p e below s n0 F kc ks T (mkF m (pc + 2) ls (.int v :: st))) : own_Go p e below s n0 F kc ks T (mkF m pc ls st) := by
  obtain ⟨locs, kk, n, X, -⟩ := S
  exact own_step (fun t k => X.ldcInt C.1 C.2.2.2.1 (mv C.2.2.2.2.2.2.2 w) (g := mkF m pc ls st) rfl (own_hd C hd) t k) k
theorem own_ldc2D (C : own_Cx p s m meth c Z own cd maxL ret nm) (S : own_S p l e R s m args below meth c n0 T h cells slots) {index : Nat} {v : UInt64} (w : (Jvm.Cond.constantDouble own index v).before a0 Z = true) (hd : decode cd pc = .ok (.ldc2_w index, 3)) (k : own_Go p e below s n0 F kc ks T (mkF m (pc + 3) ls (.double v :: st))) : own_Go p e below s n0 F kc ks T (mkF m pc ls st) := by
  obtain ⟨locs, kk, n, X, -⟩ := S
  exact own_step (fun t k => X.ldc2DoubleC C.1 C.2.2.2.1 (mv C.2.2.2.2.2.2.2 w) (g := mkF m pc ls st) rfl (own_hd C hd) t k) k
theorem own_ldc2J (C : own_Cx p s m meth c Z own cd maxL ret nm) (S : own_S p l e R s m args below meth c n0 T h cells slots) {index : Nat} {v : Int64} (w : (Jvm.Cond.constantLong own index v).before a0 Z = true) (hd : decode cd pc = .ok (.ldc2_w index, 3)) (k : own_Go p e below s n0 F kc ks T (mkF m (pc + 3) ls (.long v :: st))) : own_Go p e below s n0 F kc ks T (mkF m pc ls st) := by
  obtain ⟨locs, kk, n, X, -⟩ := S
  exact own_step (fun t k => X.ldc2Long C.1 C.2.2.2.1 (mv C.2.2.2.2.2.2.2 w) (g := mkF m pc ls st) rfl (own_hd C hd) t k) k
/-! fields and objects -/
theorem own_getF (C : own_Cx p s m meth c Z own cd maxL ret nm) (S : own_S p l e R s m args below meth c n0 T h cells slots) {index : Nat} {R0 O n d host : String} {a : Addr} {v : Value} (w : (Jvm.Cond.fieldLink own index R0 n d).before a0 Z = true ∨ (Jvm.Cond.fieldLinkNest own index R0 n d host).before a0 Z = true) (via : Via Z R0 O n d) (FF : Fld Z h a O n d v) (hd : decode cd pc = .ok (.getfield index, 3))
    (k : ∀ T', own_S p l e R s m args below meth c n0 T' h cells slots → own_Go p e below s n0 F kc ks T' (mkF m (pc + 3) ls (v :: st))) : own_Go p e below s n0 F kc ks T (mkF m pc ls (.ref a :: st)) := by
  obtain ⟨locs, kk, nn, X, eT, N, q1, q2⟩ := S
  obtain ⟨T', X', e', stp⟩ := getF X C.1 C.2.2.2.2.2.2.2 C.2.2.2.1 w via eT FF (g := mkF m pc ls (.ref a :: st)) rfl rfl (own_hd C hd)
  exact own_step stp (k T' ⟨_, _, _, X', e', N, q1, q2⟩)
theorem own_getS (C : own_Cx p s m meth c Z own cd maxL ret nm) (S : own_S p l e R s m args below meth c n0 T h cells slots) {index : Nat} {R0 O n d : String} {v : Value} (w : (Jvm.Cond.fieldLink own index R0 n d).before a0 Z = true) (via : Via Z R0 O n d) (FF : Sta Z h O n d v) (hd : decode cd pc = .ok (.getstatic index, 3))
    (k : ∀ T', own_S p l e R s m args below meth c n0 T' h cells slots → own_Go p e below s n0 F kc ks T' (mkF m (pc + 3) ls (v :: st))) : own_Go p e below s n0 F kc ks T (mkF m pc ls st) := by
  obtain ⟨locs, kk, nn, X, eT, N, q1, q2⟩ := S
  obtain ⟨T', X', e', stp⟩ := getS X C.1 C.2.2.2.2.2.2.2 (host := "") C.2.2.2.1 w via eT FF (g := mkF m pc ls st) rfl (own_hd C hd)
  exact own_step stp (k T' ⟨_, _, _, X', e', N, q1, q2⟩)
theorem own_putF (C : own_Cx p s m meth c Z own cd maxL ret nm) (S : own_S p l e R s m args below meth c n0 T h cells slots) {index ki : Nat} {R0 O n d host Cl : String} {a : Addr} {v old : Value} {ty : FieldType} (w : (Jvm.Cond.fieldLink own index R0 n d).before a0 Z = true ∨ (Jvm.Cond.fieldLinkNest own index R0 n d host).before a0 Z = true) (via : Via Z R0 O n d) (FF : Fld Z h a O n d old) (E : Exa Z h a Cl)
    (L : (Jvm.Cond.lays Cl O n d).before a0 Z = true ∨ ((Jvm.Cond.laysFinal Cl O n d).before a0 Z = true ∧ own = O ∧ nm = "<init>")) (wi : (Jvm.Cond.instantiable Cl ki).before a0 Z = true) (hty : parseFieldDescriptor d = some ty) (hn : narrow ty v = v) (hf : fits ty v = true) (hge : n0 ≤ a) (hd : decode cd pc = .ok (.putfield index, 3))
    (k : ∀ T' h', own_S p l e R s m args below meth c n0 T' h' cells slots → Wr h h' a (Jvm.RoadKit.slotOf Z O n d) v → own_Go p e below s n0 F kc ks T' (mkF m (pc + 3) ls st)) : own_Go p e below s n0 F kc ks T (mkF m pc ls (v :: .ref a :: st)) := by
  obtain ⟨locs, kk, nn, X, eT, N, q1, q2⟩ := S
  obtain ⟨T', h', X', e', W, stp⟩ := putF X C.1 C.2.2.2.2.2.2.2 C.2.2.2.1 w via eT FF E (L.imp id (fun q => ⟨q.1, q.2.1, C.2.2.2.2.1.trans q.2.2⟩)) wi hty hn hf (g := mkF m pc ls (v :: .ref a :: st)) rfl rfl (own_hd C hd)
  exact own_step stp (k T' h' ⟨_, _, _, X', e', Fr.snoc X' N hge, q1, q2⟩ W)
theorem own_new (C : own_Cx p s m meth c Z own cd maxL ret nm) (S : own_S p l e R s m args below meth c n0 T h cells slots) {index ki : Nat} {Cl : String} (w : (Jvm.Cond.classLink own index Cl).before a0 Z = true) (wi : (Jvm.Cond.instantiable Cl ki).before a0 Z = true) (wz : (Jvm.Cond.initialized Cl).before a0 Z = true) (hd : decode cd pc = .ok (.new index, 3)) (hc : cells + 1 ≤ R.cells) (hl : slots + ki ≤ R.slots)
    (k : ∀ T' h' a, own_S p l e R s m args below meth c n0 T' h' (cells + 1) (slots + ki) → a = h.size → Ext h h' → Exa Z h' a Cl → (∀ {O nm d : String} {ty : FieldType}, Laid Z a0 Cl O nm d → parseFieldDescriptor d = some ty → Fld Z h' a O nm d (defaultValue ty)) → own_Go p e below s n0 F kc ks T' (mkF m (pc + 3) ls (.ref a :: st))) : own_Go p e below s n0 F kc ks T (mkF m pc ls st) := by
  obtain ⟨locs, kk, nn, X, eT, N, q1, q2⟩ := S
  obtain ⟨T', h', X', e', E, A, D, -, stp⟩ := newO X C.1 C.2.2.2.2.2.2.2 C.2.2.2.1 w wi wz eT (g := mkF m pc ls st) rfl (own_hd C hd) (by omega) (by omega)
  exact own_step stp (k T' h' _ ⟨_, _, _, X', e', N, by omega, by omega⟩ rfl E A D)
theorem own_initO (C : own_Cx p s m meth c Z own cd maxL ret nm) (S : own_S p l e R s m args below meth c n0 T h cells slots) {index : Nat} (w1 : (Jvm.Cond.methodLink own index Lib.objectInit).before a0 Z = true) (w2 : (Jvm.Cond.instanceMethod Lib.objectInit).before a0 Z = true) (w3 : (Jvm.Cond.code Lib.objectInit ⟨#[0xb1]⟩ 1 none).before a0 Z = true) {a : Addr} (hsz : ls.size = maxL) (hd : decode cd pc = .ok (.invokespecial index, 3)) (hf : 1 ≤ R.frames) (W : Nat) (hW : (st.map fun v => v.category).sum ≤ W) (hl : W + 12 ≤ R.locals)
    (k : ∀ T', own_S p l e R s m args below meth c n0 T' h cells slots → own_Go p e below s n0 F kc ks T' (mkF m (pc + 3) ls st)) : own_Go p e below s n0 F kc ks T (mkF m pc ls (.ref a :: st)) := by
  obtain ⟨locs, kk, nn, X, eT, N, q1, q2⟩ := S
  obtain ⟨T', X', e', stp⟩ := initO X C.1 C.2.2.2.2.2.2.2 C.2.2.2.1 w1 w2 w3 eT (g := mkF m pc ls (.ref a :: st)) rfl (own_hsz C hsz) rfl (own_hd C hd) hf (W := W) (by show 2 * 0 + _ ≤ W; omega) hl
  exact own_step stp (k T' ⟨_, _, _, X', e', N, q1, q2⟩)
/-! arrays -/
theorem own_newP (C : own_Cx p s m meth c Z own cd maxL ret nm) (S : own_S p l e R s m args below meth c n0 T h cells slots) {aty : ArrayType} (w : (Jvm.Cond.arrayClass (newarray.typeOf aty)).before a0 Z = true) (hd : decode cd pc = .ok (.newarray aty, 2)) {n : Int32} (hn : ¬ n < 0) (cap : Nat) (hcap : n.toNatClampNeg ≤ cap) (hb : cap * 8 ≤ 536870912) (hc : cells + 1 ≤ R.cells) (hl : slots + cap ≤ R.slots)
    (k : ∀ T' h' a cA, own_S p l e R s m args below meth c n0 T' h' (cells + 1) (slots + cap) → a = h.size → Ext h h' → Arv Z h' a cA (newarray.typeOf aty) n [] (defaultValue (newarray.typeOf aty)) → own_Go p e below s n0 F kc ks T' (mkF m (pc + 2) ls (.ref a :: st))) : own_Go p e below s n0 F kc ks T (mkF m pc ls (.int n :: st)) := by
  obtain ⟨locs, kk, nn, X, eT, N, q1, q2⟩ := S
  obtain ⟨T', h', cA, X', e', E, A, stp⟩ := newP X C.1 C.2.2.2.2.2.2.2 w eT (g := mkF m pc ls (.int n :: st)) rfl (own_hd C hd) rfl hn hcap hb (by omega) (by omega)
  exact own_step stp (k T' h' _ cA ⟨_, _, _, X', e', N, by omega, by omega⟩ rfl E (Arv.new A hn))
theorem own_alen (C : own_Cx p s m meth c Z own cd maxL ret nm) (S : own_S p l e R s m args below meth c n0 T h cells slots) {a : Addr} {ka : ClassId} {ty : FieldType} {N : Int32} {vs : List Value} {dv : Value} (FF : Arv Z h a ka ty N vs dv) (hd : decode cd pc = .ok (.arraylength, 1)) (k : own_Go p e below s n0 F kc ks T (mkF m (pc + 1) ls (.int N :: st))) : own_Go p e below s n0 F kc ks T (mkF m pc ls (.ref a :: st)) := by
  obtain ⟨locs, kk, nn, X, eT, -⟩ := S
  obtain ⟨cl, A, -, sz, hN, -⟩ := FF
  rw [← len_of sz hN] at k
  exact own_step (fun t k => X.arraylength C.1 (by rw [eT]; exact A.1) (State.isArrayOf_alike C.2.2.2.2.2.2.2.alike A.2.1) (g := mkF m pc ls (.ref a :: st)) rfl rfl (own_hd C hd) t k) k
theorem own_caload (C : own_Cx p s m meth c Z own cd maxL ret nm) (S : own_S p l e R s m args below meth c n0 T h cells slots) {a : Addr} {ka : ClassId} {N j : Int32} {vs : List Value} {dv : Value} (FF : Arv Z h a ka .char N vs dv) (hin : ¬ j < 0 ∧ j < N) (v : Value) (hv : vs.getD j.toNatClampNeg dv = v) (hd : decode cd pc = .ok (.caload, 1)) (k : own_Go p e below s n0 F kc ks T (mkF m (pc + 1) ls (v :: st))) : own_Go p e below s n0 F kc ks T (mkF m pc ls (.int j :: .ref a :: st)) := by
  obtain ⟨locs, kk, nn, X, eT, -⟩ := S
  obtain ⟨cl, A, -, sz, hN, H, -⟩ := FF
  exact own_step (fun t k => X.caload C.1 (by rw [eT]; exact A.1) (State.isArrayOf_alike C.2.2.2.2.2.2.2.alike A.2.1) A.2.2 (inb_of sz hin) (Has.at H (inb_of sz hin) hv) (g := mkF m pc ls (.int j :: .ref a :: st)) rfl rfl (own_hd C hd) t k) k
theorem own_iaload (C : own_Cx p s m meth c Z own cd maxL ret nm) (S : own_S p l e R s m args below meth c n0 T h cells slots) {a : Addr} {ka : ClassId} {N j : Int32} {vs : List Value} {dv : Value} (FF : Arv Z h a ka .int N vs dv) (hin : ¬ j < 0 ∧ j < N) (v : Value) (hv : vs.getD j.toNatClampNeg dv = v) (hd : decode cd pc = .ok (.iaload, 1)) (k : own_Go p e below s n0 F kc ks T (mkF m (pc + 1) ls (v :: st))) : own_Go p e below s n0 F kc ks T (mkF m pc ls (.int j :: .ref a :: st)) := by
  obtain ⟨locs, kk, nn, X, eT, -⟩ := S
  obtain ⟨cl, A, -, sz, hN, H, -⟩ := FF
  exact own_step (fun t k => X.iaload C.1 (by rw [eT]; exact A.1) (State.isArrayOf_alike C.2.2.2.2.2.2.2.alike A.2.1) A.2.2 (inb_of sz hin) (Has.at H (inb_of sz hin) hv) (g := mkF m pc ls (.int j :: .ref a :: st)) rfl rfl (own_hd C hd) t k) k
theorem own_baload (C : own_Cx p s m meth c Z own cd maxL ret nm) (S : own_S p l e R s m args below meth c n0 T h cells slots) {a : Addr} {ka : ClassId} {N j : Int32} {vs : List Value} {dv : Value} (FF : Arv Z h a ka .byte N vs dv) (hin : ¬ j < 0 ∧ j < N) (v : Value) (hv : vs.getD j.toNatClampNeg dv = v) (hd : decode cd pc = .ok (.baload, 1)) (k : own_Go p e below s n0 F kc ks T (mkF m (pc + 1) ls (v :: st))) : own_Go p e below s n0 F kc ks T (mkF m pc ls (.int j :: .ref a :: st)) := by
  obtain ⟨locs, kk, nn, X, eT, -⟩ := S
  obtain ⟨cl, A, -, sz, hN, H, -⟩ := FF
  exact own_step (fun t k => X.baloadBytes C.1 (by rw [eT]; exact A.1) (State.isArrayOf_alike C.2.2.2.2.2.2.2.alike A.2.1) A.2.2 (inb_of sz hin) (Has.at H (inb_of sz hin) hv) (g := mkF m pc ls (.int j :: .ref a :: st)) rfl rfl (own_hd C hd) t k) k
theorem own_daload (C : own_Cx p s m meth c Z own cd maxL ret nm) (S : own_S p l e R s m args below meth c n0 T h cells slots) {a : Addr} {ka : ClassId} {N j : Int32} {vs : List Value} {dv : Value} (FF : Arv Z h a ka .double N vs dv) (hin : ¬ j < 0 ∧ j < N) (v : Value) (hv : vs.getD j.toNatClampNeg dv = v) (hd : decode cd pc = .ok (.daload, 1)) (k : own_Go p e below s n0 F kc ks T (mkF m (pc + 1) ls (v :: st))) : own_Go p e below s n0 F kc ks T (mkF m pc ls (.int j :: .ref a :: st)) := by
  obtain ⟨locs, kk, nn, X, eT, -⟩ := S
  obtain ⟨cl, A, -, sz, hN, H, -⟩ := FF
  exact own_step (fun t k => X.daload C.1 (by rw [eT]; exact A.1) (State.isArrayOf_alike C.2.2.2.2.2.2.2.alike A.2.1) A.2.2 (inb_of sz hin) (Has.at H (inb_of sz hin) hv) (g := mkF m pc ls (.int j :: .ref a :: st)) rfl rfl (own_hd C hd) t k) k
theorem own_castore (C : own_Cx p s m meth c Z own cd maxL ret nm) (S : own_S p l e R s m args below meth c n0 T h cells slots) {a : Addr} {ka : ClassId} {N j x : Int32} {vs : List Value} {dv : Value} (FF : Arv Z h a ka .char N vs dv) (hin : ¬ j < 0 ∧ j < N) (i : Nat) (hj : j.toNatClampNeg = i) (hi : i < vs.length) (x' : Int32) (hx' : nar .char x = x') (hge : n0 ≤ a) (hd : decode cd pc = .ok (.castore, 1))
    (k : ∀ T' h', own_S p l e R s m args below meth c n0 T' h' cells slots → Wr h h' a j.toNatClampNeg (.int x') → Arv Z h' a ka .char N (vs.set i (.int x')) dv → own_Go p e below s n0 F kc ks T' (mkF m (pc + 1) ls st)) : own_Go p e below s n0 F kc ks T (mkF m pc ls (.int x :: .int j :: .ref a :: st)) := by
  subst hx'
  obtain ⟨locs, kk, nn, X, eT, N, q1, q2⟩ := S
  obtain ⟨cl, A, ck, sz, hN, H, G⟩ := FF
  obtain ⟨T', h', X', e', W, stp⟩ := stC X C.1 C.2.2.2.2.2.2.2 eT A (inb_of sz hin) (g := mkF m pc ls (.int x :: .int j :: .ref a :: st)) rfl rfl (own_hd C hd)
  exact own_step stp (k T' h' ⟨_, _, _, X', e', Fr.snoc X' N hge, q1, q2⟩ W (Arv.set A ck sz hN H G (fits_nar_char x) W i hj hi))
theorem own_bastore (C : own_Cx p s m meth c Z own cd maxL ret nm) (S : own_S p l e R s m args below meth c n0 T h cells slots) {a : Addr} {ka : ClassId} {N j x : Int32} {vs : List Value} {dv : Value} (FF : Arv Z h a ka .byte N vs dv) (hin : ¬ j < 0 ∧ j < N) (i : Nat) (hj : j.toNatClampNeg = i) (hi : i < vs.length) (x' : Int32) (hx' : nar .byte x = x') (hge : n0 ≤ a) (hd : decode cd pc = .ok (.bastore, 1))
    (k : ∀ T' h', own_S p l e R s m args below meth c n0 T' h' cells slots → Wr h h' a j.toNatClampNeg (.int x') → Arv Z h' a ka .byte N (vs.set i (.int x')) dv → own_Go p e below s n0 F kc ks T' (mkF m (pc + 1) ls st)) : own_Go p e below s n0 F kc ks T (mkF m pc ls (.int x :: .int j :: .ref a :: st)) := by
  subst hx'
  obtain ⟨locs, kk, nn, X, eT, N, q1, q2⟩ := S
  obtain ⟨cl, A, ck, sz, hN, H, G⟩ := FF
  obtain ⟨T', h', X', e', W, stp⟩ := stB X C.1 C.2.2.2.2.2.2.2 eT A (inb_of sz hin) (g := mkF m pc ls (.int x :: .int j :: .ref a :: st)) rfl rfl (own_hd C hd)
  exact own_step stp (k T' h' ⟨_, _, _, X', e', Fr.snoc X' N hge, q1, q2⟩ W (Arv.set A ck sz hN H G (fits_nar_byte x) W i hj hi))
theorem own_iastore (C : own_Cx p s m meth c Z own cd maxL ret nm) (S : own_S p l e R s m args below meth c n0 T h cells slots) {a : Addr} {ka : ClassId} {N j x : Int32} {vs : List Value} {dv : Value} (FF : Arv Z h a ka .int N vs dv) (hin : ¬ j < 0 ∧ j < N) (i : Nat) (hj : j.toNatClampNeg = i) (hi : i < vs.length) (hge : n0 ≤ a) (hd : decode cd pc = .ok (.iastore, 1))
    (k : ∀ T' h', own_S p l e R s m args below meth c n0 T' h' cells slots → Wr h h' a j.toNatClampNeg (.int x) → Arv Z h' a ka .int N (vs.set i (.int x)) dv → own_Go p e below s n0 F kc ks T' (mkF m (pc + 1) ls st)) : own_Go p e below s n0 F kc ks T (mkF m pc ls (.int x :: .int j :: .ref a :: st)) := by
  obtain ⟨locs, kk, nn, X, eT, N, q1, q2⟩ := S
  obtain ⟨cl, A, ck, sz, hN, H, G⟩ := FF
  obtain ⟨T', h', X', e', W, stp⟩ := stI X C.1 C.2.2.2.2.2.2.2 eT A (inb_of sz hin) (g := mkF m pc ls (.int x :: .int j :: .ref a :: st)) rfl rfl (own_hd C hd)
  exact own_step stp (k T' h' ⟨_, _, _, X', e', Fr.snoc X' N hge, q1, q2⟩ W (Arv.set A ck sz hN H G rfl W i hj hi))
theorem own_dastore (C : own_Cx p s m meth c Z own cd maxL ret nm) (S : own_S p l e R s m args below meth c n0 T h cells slots) {a : Addr} {ka : ClassId} {N j : Int32} {x : UInt64} {vs : List Value} {dv : Value} (FF : Arv Z h a ka .double N vs dv) (hin : ¬ j < 0 ∧ j < N) (i : Nat) (hj : j.toNatClampNeg = i) (hi : i < vs.length) (hge : n0 ≤ a) (hd : decode cd pc = .ok (.dastore, 1))
    (k : ∀ T' h', own_S p l e R s m args below meth c n0 T' h' cells slots → Wr h h' a j.toNatClampNeg (.double x) → Arv Z h' a ka .double N (vs.set i (.double x)) dv → own_Go p e below s n0 F kc ks T' (mkF m (pc + 1) ls st)) : own_Go p e below s n0 F kc ks T (mkF m pc ls (.double x :: .int j :: .ref a :: st)) := by
  obtain ⟨locs, kk, nn, X, eT, N, q1, q2⟩ := S
  obtain ⟨cl, A, ck, sz, hN, H, G⟩ := FF
  obtain ⟨T', h', X', e', W, stp⟩ := stD X C.1 C.2.2.2.2.2.2.2 eT A (inb_of sz hin) (g := mkF m pc ls (.double x :: .int j :: .ref a :: st)) rfl rfl (own_hd C hd)
  exact own_step stp (k T' h' ⟨_, _, _, X', e', Fr.snoc X' N hge, q1, q2⟩ W (Arv.set A ck sz hN H G rfl W i hj hi))
/-! arrays of objects, casts -/
theorem own_newR (C : own_Cx p s m meth c Z own cd maxL ret nm) (S : own_S p l e R s m args below meth c n0 T h cells slots) {index : Nat} {Cl : String} (w1 : (Jvm.Cond.classLink own index Cl).before a0 Z = true) (w2 : (Jvm.Cond.arrayOver (.object Cl)).before a0 Z = true) (hd : decode cd pc = .ok (.anewarray index, 3)) {n : Int32} (hn : ¬ n < 0) (cap : Nat) (hcap : n.toNatClampNeg ≤ cap) (hb : cap * 8 ≤ 536870912) (hc : cells + 1 ≤ R.cells) (hl : slots + cap ≤ R.slots)
    (k : ∀ T' h' a cA, own_S p l e R s m args below meth c n0 T' h' (cells + 1) (slots + cap) → a = h.size → Ext h h' → Arv Z h' a cA (.object Cl) n [] .null → Ovr Z cA Cl → own_Go p e below s n0 F kc ks T' (mkF m (pc + 3) ls (.ref a :: st))) : own_Go p e below s n0 F kc ks T (mkF m pc ls (.int n :: st)) := by
  obtain ⟨locs, kk, nn, X, eT, N, q1, q2⟩ := S
  obtain ⟨T', h', cA, X', e', E, A, O, stp⟩ := newR X C.1 C.2.2.2.2.2.2.2 C.2.2.2.1 w1 w2 eT (g := mkF m pc ls (.int n :: st)) rfl (own_hd C hd) rfl hn hcap hb (by omega) (by omega)
  exact own_step stp (k T' h' _ cA ⟨_, _, _, X', e', N, by omega, by omega⟩ rfl E (Arv.new A hn) O)
theorem own_aaload (C : own_Cx p s m meth c Z own cd maxL ret nm) (S : own_S p l e R s m args below meth c n0 T h cells slots) {a : Addr} {ka : ClassId} {ty : FieldType} {N j : Int32} {vs : List Value} {dv : Value} (FF : Arv Z h a ka ty N vs dv) (hty : ty.isReference = true) (hin : ¬ j < 0 ∧ j < N) (v : Value) (hv : vs.getD j.toNatClampNeg dv = v) (hd : decode cd pc = .ok (.aaload, 1)) (k : own_Go p e below s n0 F kc ks T (mkF m (pc + 1) ls (v :: st))) : own_Go p e below s n0 F kc ks T (mkF m pc ls (.int j :: .ref a :: st)) := by
  obtain ⟨locs, kk, nn, X, eT, -⟩ := S
  obtain ⟨cl, A, -, sz, hN, H, -⟩ := FF
  exact own_step (fun t k => X.aaload C.1 (by rw [eT]; exact A.1) (State.isArrayOf_alike C.2.2.2.2.2.2.2.alike A.2.1) hty A.2.2 (inb_of sz hin) (Has.at H (inb_of sz hin) hv) (g := mkF m pc ls (.int j :: .ref a :: st)) rfl rfl (own_hd C hd) t k) k
theorem own_aastore (C : own_Cx p s m meth c Z own cd maxL ret nm) (S : own_S p l e R s m args below meth c n0 T h cells slots) {a y : Addr} {ka : ClassId} {Cl : String} {N j : Int32} {vs : List Value} {dv : Value} (FF : Arv Z h a ka (.object Cl) N vs dv) (O : Ovr Z ka Cl) (I : Ins Z h y Cl true) (hin : ¬ j < 0 ∧ j < N) (i : Nat) (hj : j.toNatClampNeg = i) (hi : i < vs.length) (hge : n0 ≤ a) (hd : decode cd pc = .ok (.aastore, 1))
    (k : ∀ T' h', own_S p l e R s m args below meth c n0 T' h' cells slots → Wr h h' a j.toNatClampNeg (.ref y) → Arv Z h' a ka (.object Cl) N (vs.set i (.ref y)) dv → own_Go p e below s n0 F kc ks T' (mkF m (pc + 1) ls st)) : own_Go p e below s n0 F kc ks T (mkF m pc ls (.ref y :: .int j :: .ref a :: st)) := by
  obtain ⟨locs, kk, nn, X, eT, N, q1, q2⟩ := S
  obtain ⟨cl, A, ck, sz, hN, H, G⟩ := FF
  obtain ⟨T', h', X', e', W, stp⟩ := stR X C.1 C.2.2.2.2.2.2.2 eT A (inb_of sz hin) rfl (Sto.ofV A ck O I) (g := mkF m pc ls (.ref y :: .int j :: .ref a :: st)) rfl rfl (own_hd C hd)
  exact own_step stp (k T' h' ⟨_, _, _, X', e', Fr.snoc X' N hge, q1, q2⟩ W (Arv.set A ck sz hN H G rfl W i hj hi))
theorem own_cast (C : own_Cx p s m meth c Z own cd maxL ret nm) (S : own_S p l e R s m args below meth c n0 T h cells slots) {index : Nat} {K : String} {a : Addr} (w : (Jvm.Cond.classLink own index K).before a0 Z = true) (FF : Ins Z h a K true) (hd : decode cd pc = .ok (.checkcast index, 3))
    (k : ∀ T', own_S p l e R s m args below meth c n0 T' h cells slots → own_Go p e below s n0 F kc ks T' (mkF m (pc + 3) ls (.ref a :: st))) : own_Go p e below s n0 F kc ks T (mkF m pc ls (.ref a :: st)) := by
  obtain ⟨locs, kk, nn, X, eT, N, q1, q2⟩ := S
  obtain ⟨T', X', e', stp⟩ := castY X C.1 C.2.2.2.2.2.2.2 C.2.2.2.1 w eT FF (g := mkF m pc ls (.ref a :: st)) rfl rfl (own_hd C hd)
  exact own_step stp (k T' ⟨_, _, _, X', e', N, q1, q2⟩)
theorem own_inst (C : own_Cx p s m meth c Z own cd maxL ret nm) (S : own_S p l e R s m args below meth c n0 T h cells slots) {index : Nat} {K : String} {a : Addr} (w : (Jvm.Cond.classLink own index K).before a0 Z = true) (FF : Ins Z h a K true) (hd : decode cd pc = .ok (.instanceof index, 3))
    (k : ∀ T', own_S p l e R s m args below meth c n0 T' h cells slots → own_Go p e below s n0 F kc ks T' (mkF m (pc + 3) ls (.int 1 :: st))) : own_Go p e below s n0 F kc ks T (mkF m pc ls (.ref a :: st)) := by
  obtain ⟨locs, kk, nn, X, eT, N, q1, q2⟩ := S
  obtain ⟨T', X', e', stp⟩ := instY X C.1 C.2.2.2.2.2.2.2 C.2.2.2.1 w eT FF (g := mkF m pc ls (.ref a :: st)) rfl rfl (own_hd C hd)
  exact own_step stp (k T' ⟨_, _, _, X', e', N, q1, q2⟩)
/-! the end -/
theorem own_ret {t : FieldType} (C : own_Cx p s m meth c Z own cd maxL (some t) nm) (S : own_S p l e R s m args below meth c n0 T h cells slots) {i : Instr} {w : Value} (hd : decode cd pc = .ok (i, 1)) (hn : narrow t w = w)
    (hi : (i = .ireturn ∧ (t = .int ∨ t = .boolean ∨ t = .byte ∨ t = .char ∨ t = .short) ∧ ∃ z, w = .int z) ∨ (i = .lreturn ∧ t = .long ∧ ∃ z, w = .long z) ∨ (i = .dreturn ∧ t = .double ∧ ∃ z, w = .double z) ∨ (i = .freturn ∧ t = .float ∧ ∃ z, w = .float z) ∨ (i = .areturn ∧ t.isReference = true ∧ w.isRef = true))
    (hc : cells ≤ kc) (hs : slots ≤ ks) (hF : F (some w) h) : own_Go p e below s n0 F kc ks T (mkF m pc ls (w :: st)) := by
  obtain ⟨locs, kk, nn, X, eT, N, q1, q2⟩ := S
  obtain ⟨fs, hr, hrun, hended, hW, hsame⟩ := X.leave (v := some w) (fun q => by rw [C.2.2.2.2.2.1] at q; cases q) C.2.2.2.2.2.2.1
  refine ⟨_, _, retOut X C.1 C.2.2.2.2.2.1 hn hi (own_hd C hd) hr, hrun, hended, _, _, rfl, ⟨?_, N⟩, ⟨_, rfl⟩, hW, hsame.mono (Nat.le_trans q1 hc) (Nat.le_trans q2 hs)⟩
  show F (some w) T.heap
  rw [eT]; exact hF
theorem own_retI (C : own_Cx p s m meth c Z own cd maxL (some .int) nm) (S : own_S p l e R s m args below meth c n0 T h cells slots) {z : Int32} (hd : decode cd pc = .ok (.ireturn, 1)) (hc : cells ≤ kc) (hs : slots ≤ ks) (hF : F (some (.int z)) h) : own_Go p e below s n0 F kc ks T (mkF m pc ls (.int z :: st)) :=
  own_ret C S hd rfl (Or.inl ⟨rfl, Or.inl rfl, z, rfl⟩) hc hs hF
theorem own_retZ (C : own_Cx p s m meth c Z own cd maxL (some .boolean) nm) (S : own_S p l e R s m args below meth c n0 T h cells slots) {z : Int32} (hd : decode cd pc = .ok (.ireturn, 1)) (hz : z &&& 1 = z) (hc : cells ≤ kc) (hs : slots ≤ ks) (hF : F (some (.int z)) h) : own_Go p e below s n0 F kc ks T (mkF m pc ls (.int z :: st)) :=
  own_ret C S hd (by show Value.int (z &&& 1) = _; rw [hz]) (Or.inl ⟨rfl, Or.inr (Or.inl rfl), z, rfl⟩) hc hs hF
theorem own_retC (C : own_Cx p s m meth c Z own cd maxL (some .char) nm) (S : own_S p l e R s m args below meth c n0 T h cells slots) {z : Int32} (hd : decode cd pc = .ok (.ireturn, 1)) (hz : z.toUInt32.toUInt16.toUInt32.toInt32 = z) (hc : cells ≤ kc) (hs : slots ≤ ks) (hF : F (some (.int z)) h) : own_Go p e below s n0 F kc ks T (mkF m pc ls (.int z :: st)) :=
  own_ret C S hd (by show Value.int (z.toUInt32.toUInt16.toUInt32.toInt32) = _; rw [hz]) (Or.inl ⟨rfl, by simp, z, rfl⟩) hc hs hF
theorem own_retA {t : FieldType} (C : own_Cx p s m meth c Z own cd maxL (some t) nm) (S : own_S p l e R s m args below meth c n0 T h cells slots) {w : Value} (ht : t.isReference = true) (hr : w.isRef = true) (hd : decode cd pc = .ok (.areturn, 1)) (hc : cells ≤ kc) (hs : slots ≤ ks) (hF : F (some w) h) : own_Go p e below s n0 F kc ks T (mkF m pc ls (w :: st)) :=
  own_ret C S hd (by cases w <;> simp [Value.isRef] at hr <;> cases t <;> first | rfl | (simp [FieldType.isReference] at ht)) (by simp [ht, hr]) hc hs hF
theorem own_retD (C : own_Cx p s m meth c Z own cd maxL (some .double) nm) (S : own_S p l e R s m args below meth c n0 T h cells slots) {z : UInt64} (hd : decode cd pc = .ok (.dreturn, 1)) (hc : cells ≤ kc) (hs : slots ≤ ks) (hF : F (some (.double z)) h) : own_Go p e below s n0 F kc ks T (mkF m pc ls (.double z :: st)) :=
  own_ret C S hd rfl (by simp) hc hs hF
theorem own_retV (C : own_Cx p s m meth c Z own cd maxL none nm) (S : own_S p l e R s m args below meth c n0 T h cells slots) (hd : decode cd pc = .ok (.return_, 1)) (hc : cells ≤ kc) (hs : slots ≤ ks) (hF : F none h) : own_Go p e below s n0 F kc ks T (mkF m pc ls []) := by
  obtain ⟨locs, kk, nn, X, eT, N, q1, q2⟩ := S
  obtain ⟨fs, hr, hrun, hended, hW, hsame⟩ := X.leave (v := none) (fun _ => rfl) C.2.2.2.2.2.2.1
  refine ⟨_, _, X.returnOut C.1 C.2.2.2.2.2.1 (own_hd C hd) hr, hrun, hended, _, _, rfl, ⟨?_, N⟩, ⟨_, rfl⟩, hW, hsame.mono (Nat.le_trans q1 hc) (Nat.le_trans q2 hs)⟩
  show F none T.heap
  rw [eT]; exact hF
/-! contracts -/
def own_Met (l : Launch) (Z : State) (y : MethodName) (cd : ByteArray) (maxL : Nat) (ret : Option FieldType) (rm : Room) (n0 : Nat) (as' : Array Value) (h0 : Heap) (Q : Option Value → Heap → Prop) : Prop :=
  ∀ ws, MetFree l y (head1 (Jvm.Cond.code y cd maxL ret :: ws) rm) (fun a U => a = as' ∧ Z.Warmed39 U.vm ∧ U.heap = h0) (fun _ _ _ _ _ => True) (fun _ U o U' => ∃ v L, o = .returned v ∧ (Q v U'.heap ∧ Fr n0 L) ∧ FrameEnd U o U' L rm.cells rm.slots)
theorem own_met {y : MethodName} {rm : Room} {as' : Array Value} {h0 : Heap} {Q : Option Value → Heap → Prop} (hp : plainFor y = true) (ls : Array Slot) (hef : ∀ m, entryFrame m as' maxL = mkF m 0 ls [])
    (H : ∀ (p : Program) (e : Env) (s : State) (m : MethodId) (below : List Frame) (meth : Method) (c : Code) (T : State), own_Cx p s m meth c Z y.cls cd maxL ret y.name → own_S p l e rm s m as' below meth c n0 T h0 0 0 → own_Go p e below s n0 Q rm.cells rm.slots T (mkF m 0 ls [])) : own_Met l Z y cd maxL ret rm n0 as' h0 Q := by
  intro ws
  refine MetFree.of_bodySF hp hisR ?_
  intro p e s m args below meth c s₁ Bd hml hP hK
  obtain ⟨rfl, hZ, hh⟩ := hP
  have e0 : s₁.heap = h0 := by rw [← hh, Bd.state]; rfl
  have G := H p e s m below meth c s₁ ⟨Bd.exec, Bd.bytes, hml, findClass_of_methodNamed Bd.named, (name_of_methodNamed Bd.named Bd.method).1, Bd.returns, BodyLoose.notSynchronized Bd, hZ⟩ ⟨_, _, _, Stand.of_body Bd, e0, Fr.nil n0, Nat.le_refl _, Nat.le_refl _⟩
  rw [← hef m] at G
  exact G
/-! calls -/
/-- who pays a call -/
abbrev own_Pay (l : Launch) (R : Room) (p : Program) (e : Env) (below : List Frame) (s : State) (args : Array Value) (y : MethodName) (len W : Nat) (as' : Array Value) (h : Heap) (k1 k2 : Nat) (Q : Option Value → Heap → List Loc → Prop) : Prop :=
  Back l R p e below s args y len W (fun P a => a = as' ∧ P.U.heap = h ∧ P.cells + k1 ≤ R.cells ∧ P.slots + k2 ≤ R.slots) (fun P _ v B => ∃ L, Q v B.U.heap L ∧ B.locs = P.locs ++ L ∧ B.cells = P.cells + k1 ∧ B.slots = P.slots + k2)
theorem own_Met.pay {y : MethodName} {cdy : ByteArray} {maxy : Nat} {rety : Option FieldType} {rm : Room} {as' : Array Value} {Q : Option Value → Heap → Prop} (M : own_Met l Z y cdy maxy rety rm n0 as' h Q) (C : own_Cx p s m meth c Z own cd maxL ret nm) {len : Nat} (W : Nat) (wc : (Jvm.Cond.code y cdy maxy rety).before a0 Z = true) (wz : (Jvm.Cond.initialized y.cls).before a0 Z = true) (hf : rm.frames + 1 ≤ R.frames) (hl : W + (maxy + 11) + rm.locals ≤ R.locals) :
    own_Pay l R p e below s args y len W as' h rm.cells rm.slots (fun v h' L => Q v h' ∧ Fr n0 L) := backOf (Q := fun v h' L => Q v h' ∧ Fr n0 L) (M []) C.2.2.2.2.2.2.2 wc wz hf hl
theorem own_callS (C : own_Cx p s m meth c Z own cd maxL ret nm) (S : own_S p l e R s m args below meth c n0 T h cells slots) {y : MethodName} {index : Nat} {cdy : ByteArray} {maxy : Nat} {rety : Option FieldType} {W k1 k2 : Nat} {as' : Array Value} {Q : Option Value → Heap → List Loc → Prop}
    (w1 : (Jvm.Cond.methodLink own index y).before a0 Z = true) (w2 : (Jvm.Cond.static y).before a0 Z = true) (w3 : (Jvm.Cond.initialized y.cls).before a0 Z = true) (w4 : (Jvm.Cond.code y cdy maxy rety).before a0 Z = true) (hy : y.cls ≠ "java/lang/invoke/MethodHandle" ∧ y.cls ≠ "java/lang/invoke/VarHandle")
    (hK : own_Pay l R p e below s args y 3 W as' h k1 k2 Q) (hfr : ∀ v h' L, Q v h' L → Fr n0 L) (argsL rest : List Value) {ps : List FieldType} {rr : Option FieldType} (has : argsL.toArray = as') (hpd : parseMethodDescriptor y.desc = some ⟨ps, rr⟩) (hlen : argsL.length = ps.length) (hstk : st = argsL.reverse ++ rest) (hsz : ls.size = maxL) (hW : (rest.map fun v => v.category).sum ≤ W)
    (hc : cells + k1 ≤ R.cells) (hs : slots + k2 ≤ R.slots) (hd : decode cd pc = .ok (.invokestatic index, 3))
    (k : ∀ T' h' v L, own_S p l e R s m args below meth c n0 T' h' (cells + k1) (slots + k2) → Q v h' L → own_Go p e below s n0 F kc ks T' (mkF m (pc + 3) ls (v.toList ++ rest))) : own_Go p e below s n0 F kc ks T (mkF m pc ls st) := by
  obtain ⟨locs, kk, nn, X, eT, N, q1, q2⟩ := S
  have hZ := C.2.2.2.2.2.2.2
  obtain ⟨v, vm1, B, -, X', ⟨L, hQ, l1, l2, l3⟩, stp⟩ := Jvm.LawKit.callS X C.1 C.2.2.2.1 (mvT hZ w1) (mvT hZ w2) (mvT hZ w3) (mvT hZ w4) hy hK (g := mkF m pc ls st) rfl (own_hsz C hsz) (argsL := argsL) (rest := rest) (lenOf hpd hlen) hstk (by show 2 * 0 + _ ≤ W; omega) (own_hd C hd) (fun _ _ => ⟨has, eT, by show kk + k1 ≤ _; omega, by show nn + k2 ≤ _; omega⟩)
  refine own_step stp (k B.U _ v L ⟨B.locs, B.cells, B.slots, X', rfl, ?_, ?_, ?_⟩ hQ)
  · rw [l1]; exact Fr.app N (hfr _ _ _ hQ)
  · rw [l2]; show kk + k1 ≤ _; omega
  · rw [l3]; show nn + k2 ≤ _; omega
theorem own_callI (C : own_Cx p s m meth c Z own cd maxL ret nm) (S : own_S p l e R s m args below meth c n0 T h cells slots) {y : MethodName} {index : Nat} {cdy : ByteArray} {maxy : Nat} {W k1 k2 : Nat} {as' : Array Value} {Q : Option Value → Heap → List Loc → Prop}
    (hy1 : y.name = "<init>") (w1 : (Jvm.Cond.methodLink own index y).before a0 Z = true) (w2 : (Jvm.Cond.instanceMethod y).before a0 Z = true) (w4 : (Jvm.Cond.code y cdy maxy none).before a0 Z = true) (hy : y.cls ≠ "java/lang/invoke/MethodHandle" ∧ y.cls ≠ "java/lang/invoke/VarHandle")
    (hK : own_Pay l R p e below s args y 3 W as' h k1 k2 Q) (hfr : ∀ v h' L, Q v h' L → Fr n0 L) {a : Addr} (argsL rest : List Value) {ps : List FieldType} {rr : Option FieldType} (has : (.ref a :: argsL).toArray = as') (hpd : parseMethodDescriptor y.desc = some ⟨ps, rr⟩) (hlen : argsL.length = ps.length) (hstk : st = argsL.reverse ++ .ref a :: rest) (hsz : ls.size = maxL) (hW : (rest.map fun v => v.category).sum ≤ W)
    (hc : cells + k1 ≤ R.cells) (hs : slots + k2 ≤ R.slots) (hd : decode cd pc = .ok (.invokespecial index, 3))
    (k : ∀ T' h' v L, own_S p l e R s m args below meth c n0 T' h' (cells + k1) (slots + k2) → Q v h' L → own_Go p e below s n0 F kc ks T' (mkF m (pc + 3) ls (v.toList ++ rest))) : own_Go p e below s n0 F kc ks T (mkF m pc ls st) := by
  obtain ⟨locs, kk, nn, X, eT, N, q1, q2⟩ := S
  have hZ := C.2.2.2.2.2.2.2
  obtain ⟨v, vm1, B, -, X', ⟨L, hQ, l1, l2, l3⟩, stp⟩ := X.specialBack C.1 hy1 C.2.2.2.1 (mvT hZ w1) (mvT hZ w2) (mvT hZ w4) hy hK (g := mkF m pc ls st) rfl (own_hsz C hsz) (Steps.refl _) (a := a) (argsL := argsL) (rest := rest) (lenOf hpd hlen) hstk (by show 2 * 0 + _ ≤ W; omega) (own_hd C hd) (fun _ _ => ⟨has, eT, by show kk + k1 ≤ _; omega, by show nn + k2 ≤ _; omega⟩)
  refine own_step (fun t k => stp.trans k) (k B.U _ v L ⟨B.locs, B.cells, B.slots, X', rfl, ?_, ?_, ?_⟩ hQ)
  · rw [l1]; exact Fr.app N (hfr _ _ _ hQ)
  · rw [l2]; show kk + k1 ≤ _; omega
  · rw [l3]; show nn + k2 ≤ _; omega
theorem own_callV (C : own_Cx p s m meth c Z own cd maxL ret nm) (S : own_S p l e R s m args below meth c n0 T h cells slots) {y z : MethodName} {Cl : String} {index : Nat} {W k1 k2 : Nat} {as' : Array Value} {Q : Option Value → Heap → List Loc → Prop}
    (w1 : (Jvm.Cond.methodLink own index y).before a0 Z = true) (w2 : (Jvm.Cond.declares y).before a0 Z = true) (w3 : (Jvm.Cond.selects Cl y z).before a0 Z = true) {Cl' : String} (w3' : (Jvm.Cond.selects Cl' y y).before a0 Z = true) (w4 : (Jvm.Cond.instanceMethod z).before a0 Z = true) (hy : y.cls ≠ "java/lang/invoke/MethodHandle" ∧ y.cls ≠ "java/lang/invoke/VarHandle")
    (hK : own_Pay l R p e below s args z 3 W as' h k1 k2 Q) (hfr : ∀ v h' L, Q v h' L → Fr n0 L) {a : Addr} (E : Exa Z h a Cl) (argsL rest : List Value) {ps : List FieldType} {rr : Option FieldType} (has : (.ref a :: argsL).toArray = as') (hpd : parseMethodDescriptor y.desc = some ⟨ps, rr⟩) (hlen : argsL.length = ps.length) (hstk : st = argsL.reverse ++ .ref a :: rest) (hsz : ls.size = maxL) (hW : (rest.map fun v => v.category).sum ≤ W)
    (hc : cells + k1 ≤ R.cells) (hs : slots + k2 ≤ R.slots) (hd : decode cd pc = .ok (.invokevirtual index, 3))
    (k : ∀ T' h' v L, own_S p l e R s m args below meth c n0 T' h' (cells + k1) (slots + k2) → Q v h' L → own_Go p e below s n0 F kc ks T' (mkF m (pc + 3) ls (v.toList ++ rest))) : own_Go p e below s n0 F kc ks T (mkF m pc ls st) := by
  obtain ⟨locs, kk, nn, X, eT, N, q1, q2⟩ := S
  have hZ := C.2.2.2.2.2.2.2
  obtain ⟨cq, kq, qa, qb, qc⟩ := isOf (T := T) hZ eT E
  obtain ⟨v, vm1, B, -, X', ⟨L, hQ, l1, l2, l3⟩, stp⟩ := X.virtualBack C.1 C.2.2.2.1 (mvT hZ w1) (mvT hZ w2) (notFace_of_selects (args := #[]) (mvT hZ w3')) (mvT hZ w3) (mvT hZ w4) hy hK qa qc (g := mkF m pc ls st) rfl (own_hsz C hsz) (Steps.refl _) (argsL := argsL) (rest := rest) (lenOf hpd hlen) hstk (by show 2 * 0 + _ ≤ W; omega) (own_hd C hd) (fun _ _ => ⟨has, eT, by show kk + k1 ≤ _; omega, by show nn + k2 ≤ _; omega⟩)
  refine own_step (fun t k => stp.trans k) (k B.U _ v L ⟨B.locs, B.cells, B.slots, X', rfl, ?_, ?_, ?_⟩ hQ)
  · rw [l1]; exact Fr.app N (hfr _ _ _ hQ)
  · rw [l2]; show kk + k1 ≤ _; omega
  · rw [l3]; show nn + k2 ≤ _; omega
theorem own_callP (C : own_Cx p s m meth c Z own cd maxL ret nm) (S : own_S p l e R s m args below meth c n0 T h cells slots) {y : MethodName} {index : Nat} {cdy : ByteArray} {maxy : Nat} {rety : Option FieldType} {W k1 k2 : Nat} {as' : Array Value} {Q : Option Value → Heap → List Loc → Prop}
    (w1 : (Jvm.Cond.methodLink own index y).before a0 Z = true) (w2 : (Jvm.Cond.instanceMethod y).before a0 Z = true) (w3 : (Jvm.Cond.selects y.cls y y).before a0 Z = true) (w4 : (Jvm.Cond.privateMethod y).before a0 Z = true) (w5 : (Jvm.Cond.code y cdy maxy rety).before a0 Z = true) (hy : y.cls ≠ "java/lang/invoke/MethodHandle" ∧ y.cls ≠ "java/lang/invoke/VarHandle")
    (hK : own_Pay l R p e below s args y 3 W as' h k1 k2 Q) (hfr : ∀ v h' L, Q v h' L → Fr n0 L) {a : Addr} {Cl : String} (E : Exa Z h a Cl) (argsL rest : List Value) {ps : List FieldType} {rr : Option FieldType} (has : (.ref a :: argsL).toArray = as') (hpd : parseMethodDescriptor y.desc = some ⟨ps, rr⟩) (hlen : argsL.length = ps.length) (hstk : st = argsL.reverse ++ .ref a :: rest) (hsz : ls.size = maxL) (hW : (rest.map fun v => v.category).sum ≤ W)
    (hc : cells + k1 ≤ R.cells) (hs : slots + k2 ≤ R.slots) (hd : decode cd pc = .ok (.invokevirtual index, 3))
    (k : ∀ T' h' v L, own_S p l e R s m args below meth c n0 T' h' (cells + k1) (slots + k2) → Q v h' L → own_Go p e below s n0 F kc ks T' (mkF m (pc + 3) ls (v.toList ++ rest))) : own_Go p e below s n0 F kc ks T (mkF m pc ls st) := by
  obtain ⟨locs, kk, nn, X, eT, N, q1, q2⟩ := S
  have hZ := C.2.2.2.2.2.2.2
  obtain ⟨cl, hcl, hns⟩ := E.cell
  obtain ⟨v, vm1, B, -, X', ⟨L, hQ, l1, l2, l3⟩, stp⟩ := X.privateBack C.1 C.2.2.2.1 (mvT hZ w1) (mvT hZ w2) (mvT hZ w3) (Cond.privateMethod_at (mvP (args := args) hZ w4)) (mvT hZ w5) hy hK (g := mkF m pc ls st) rfl (own_hsz C hsz) (Steps.refl _) (a := a) (cell := cl) (by rw [eT]; exact hcl) hns (argsL := argsL) (rest := rest) (lenOf hpd hlen) hstk (by show 2 * 0 + _ ≤ W; omega) (own_hd C hd) (fun _ _ => ⟨has, eT, by show kk + k1 ≤ _; omega, by show nn + k2 ≤ _; omega⟩)
  refine own_step (fun t k => stp.trans k) (k B.U _ v L ⟨B.locs, B.cells, B.slots, X', rfl, ?_, ?_, ?_⟩ hQ)
  · rw [l1]; exact Fr.app N (hfr _ _ _ hQ)
  · rw [l2]; show kk + k1 ≤ _; omega
  · rw [l3]; show nn + k2 ≤ _; omega
theorem own_callF (C : own_Cx p s m meth c Z own cd maxL ret nm) (S : own_S p l e R s m args below meth c n0 T h cells slots) {y z : MethodName} {Cl : String} {index count : Nat} {W k1 k2 : Nat} {as' : Array Value} {Q : Option Value → Heap → List Loc → Prop}
    (w1 : (Jvm.Cond.methodLink own index y).before a0 Z = true) (w2 : (Jvm.Cond.declares y).before a0 Z = true) (w3 : (Jvm.Cond.interfaceMethod y.cls y.cls y.name y.desc).before a0 Z = true) (hfa : ((Jvm.Cond.interfaceMethod y.cls y.cls y.name y.desc).onTables && (Jvm.Cond.interfaceMethod y.cls y.cls y.name y.desc).keepsFace) = true) (w4 : (Jvm.Cond.selects Cl y z).before a0 Z = true) (w5 : (Jvm.Cond.instanceMethod z).before a0 Z = true) (w6 : (Jvm.Cond.publicMethod z).before a0 Z = true) (w7 : (Jvm.Cond.unhidden Cl y.name y.desc).before a0 Z = true) (w8 : (Jvm.Cond.castable Cl y.cls).before a0 Z = true) (hy : y.cls ≠ "java/lang/invoke/MethodHandle" ∧ y.cls ≠ "java/lang/invoke/VarHandle")
    (hK : own_Pay l R p e below s args z 5 W as' h k1 k2 Q) (hfr : ∀ v h' L, Q v h' L → Fr n0 L) {a : Addr} (E : Exa Z h a Cl) (argsL rest : List Value) {ps : List FieldType} {rr : Option FieldType} (has : (.ref a :: argsL).toArray = as') (hpd : parseMethodDescriptor y.desc = some ⟨ps, rr⟩) (hlen : argsL.length = ps.length) (hstk : st = argsL.reverse ++ .ref a :: rest) (hsz : ls.size = maxL) (hW : (rest.map fun v => v.category).sum ≤ W)
    (hc : cells + k1 ≤ R.cells) (hs : slots + k2 ≤ R.slots) (hd : decode cd pc = .ok (.invokeinterface index count, 5))
    (k : ∀ T' h' v L, own_S p l e R s m args below meth c n0 T' h' (cells + k1) (slots + k2) → Q v h' L → own_Go p e below s n0 F kc ks T' (mkF m (pc + 5) ls (v.toList ++ rest))) : own_Go p e below s n0 F kc ks T (mkF m pc ls st) := by
  obtain ⟨locs, kk, nn, X, eT, N, q1, q2⟩ := S
  have hZ := C.2.2.2.2.2.2.2
  obtain ⟨cq, kq, qa, qb, qc⟩ := isOf (T := T) hZ eT E
  obtain ⟨v, vm1, B, -, X', ⟨L, hQ, l1, l2, l3⟩, stp⟩ := X.interfaceBack C.1 C.2.2.2.1 (mvT hZ w1) (mvT hZ w2) (mvT hZ w3 hfa) (mvT hZ w4) (mvT hZ w5) (mvT hZ w6) (mvT hZ w7) (mvT hZ w8) hy hK qa qb qc (g := mkF m pc ls st) rfl (own_hsz C hsz) (Steps.refl _) (argsL := argsL) (rest := rest) (lenOf hpd hlen) hstk (by show 2 * 0 + _ ≤ W; omega) (own_hd C hd) (fun _ _ => ⟨has, eT, by show kk + k1 ≤ _; omega, by show nn + k2 ≤ _; omega⟩)
  refine own_step (fun t k => stp.trans k) (k B.U _ v L ⟨B.locs, B.cells, B.slots, X', rfl, ?_, ?_, ?_⟩ hQ)
  · rw [l1]; exact Fr.app N (hfr _ _ _ hQ)
  · rw [l2]; show kk + k1 ≤ _; omega
  · rw [l3]; show nn + k2 ≤ _; omega
end OwnKit
theorem own_i2c2 (x : Int32) : nar .char x.toUInt32.toUInt16.toUInt32.toInt32 = x.toUInt32.toUInt16.toUInt32.toInt32 := by
  have h := Jvm.Free.XT.narrow_c x
  exact Value.int.inj h
theorem own_i2b2 (x : Int32) : nar .byte x.toInt8.toInt32 = x.toInt8.toInt32 := by
  have h := Jvm.Free.XT.narrow_b x
  exact Value.int.inj h
theorem own_and255 (x : Int32) : ¬ (x &&& (255 : Int32)) < 0 ∧ ¬ (255 : Int32) < (x &&& (255 : Int32)) := by
  have h := c_and x (255 : Int32) (by decide)
  rw [Int32.lt_iff_toInt_lt, Int32.lt_iff_toInt_lt]
  have e1 : (255 : Int32).toInt = 255 := rfl
  have e2 : (0 : Int32).toInt = 0 := rfl
  omega
theorem own_mask255 (x : Int32) : nar .char (x &&& (255 : Int32)).toUInt32.toUInt16.toUInt32.toInt32 = x &&& (255 : Int32) := by
  rw [own_i2c2, i2c_mask]
theorem own_up (cs : List Int32) (h : ∀ c ∈ cs, ¬ c < 0 ∧ ¬ (255 : Int32) < c) : ∀ c ∈ cs, ¬ c < 0 ∧ ¬ (65535 : Int32) < c := fun c hc => ⟨(h c hc).1, fun q => (h c hc).2 (by rw [Int32.lt_iff_toInt_lt] at q ⊢; have e1 : (65535 : Int32).toInt = 65535 := rfl; have e2 : (255 : Int32).toInt = 255 := rfl; omega)⟩

theorem own_nn (x m : Int32) (hm : 0 ≤ m.toInt) : ¬ (x &&& m) < 0 := by
  have h := c_and x m hm
  rw [Int32.lt_iff_toInt_lt]
  have e2 : (0 : Int32).toInt = 0 := rfl
  omega
theorem own_mx (x y : Int32) : ¬ (if x < y then y else x) < x := by
  split
  · rename_i h; exact Int32.lt_asymm h
  · exact fun h => Int32.lt_irrefl h
set_option maxRecDepth 65536 in
set_option maxHeartbeats 40000000 in
theorem own_rec (l : Launch) (Z : State) (a0 : Array Value) (hw : ∀ d ∈ tables_1, d.before a0 Z = true) (a : Addr) (h0 : Heap) (n0 : Nat) (z0 : n0 ≤ h0.size) :
    own_Met l Z (⟨"java/lang/Record", "<init>", "()V"⟩ : MethodName) jdk_30_method_1_code 1 none ({ frames := 1, cells := 0, slots := 0, locals := 12 } : Room) n0 #[(.ref a)] h0 (fun v h => v = none ∧ h = h0) := by
  refine own_met (by decide +kernel) #[.val (.ref a)] (fun m => by first | (simp [entryFrame, mkF, argsToLocals, Value.category]; done) | rfl) ?_
  intro p e s m below meth c T0 C S0
  refine own_seg C S0 [(0, .aload_n 0, 1)] (by decide +kernel) 1 #[.val (.ref a)] [(.ref a)] rfl ?_
  refine own_initO C S0 (own_wd hw 46 rfl) (own_wd hw 12 rfl) (own_wd hw 13 rfl) rfl (by decide +kernel) (by decide) 0 (Nat.le_of_ble_eq_true rfl) (by decide) ?_
  intro T1 S2
  refine own_retV C S2 (by decide +kernel) (by decide) (by decide) ?_
  exact ⟨rfl, rfl⟩
set_option maxRecDepth 65536 in
set_option maxHeartbeats 40000000 in
theorem own_max (l : Launch) (Z : State) (a0 : Array Value) (hw : ∀ d ∈ tables_1, d.before a0 Z = true) (x1 : Int32) (x2 : Int32) (h0 : Heap) (n0 : Nat) (z0 : n0 ≤ h0.size) :
    own_Met l Z (⟨"java/lang/Math", "max", "(II)I"⟩ : MethodName) jdk_29_method_65_code 2 (some .int) ({ frames := 0, cells := 0, slots := 0, locals := 0 } : Room) n0 #[(.int x1), (.int x2)] h0 (fun v h => v = some (.int (if x1 < x2 then x2 else x1)) ∧ h = h0) := by
  refine own_met (by decide +kernel) #[.val (.int x1), .val (.int x2)] (fun m => by first | (simp [entryFrame, mkF, argsToLocals, Value.category]; done) | rfl) ?_
  intro p e s m below meth c T0 C S0
  refine own_seg C S0 [(0, .iload_n 0, 1), (1, .iload_n 1, 1)] (by decide +kernel) 2 #[.val (.int x1), .val (.int x2)] [(.int x2), (.int x1)] rfl ?_
  refine own_icmp C S0 (q := .lt) (o := 7) (by decide +kernel) 9 (by decide) (by decide) (fun (q3 : x1 < x2) => ?_) (fun (q4 : ¬ x1 < x2) => ?_)
  · refine own_seg C S0 [(9, .iload_n 1, 1)] (by decide +kernel) 10 #[.val (.int x1), .val (.int x2)] [(.int x2)] rfl ?_
    refine own_retI C S0 (by decide +kernel) (by decide) (by decide) ?_
    exact ⟨by rw [if_pos q3], rfl⟩
  · refine own_seg C S0 [(5, .iload_n 0, 1), (6, .goto 4, 3)] (by decide +kernel) 10 #[.val (.int x1), .val (.int x2)] [(.int x1)] rfl ?_
    refine own_retI C S0 (by decide +kernel) (by decide) (by decide) ?_
    exact ⟨by rw [if_neg q4], rfl⟩
theorem own_pd0 : parseMethodDescriptor "()V" = some ⟨[], none⟩ := by decide +kernel
theorem own_fd0 : parseFieldDescriptor "I" = some .int := by decide +kernel
theorem own_sn0 {Z : State} {a0 : Array Value} (hw : ∀ d ∈ tables_1, d.before a0 Z = true) : Jvm.RoadKit.slotOf Z "com/example/answer_by_role/answerbyrole/engine/index/SentencePosition" "paragraph" "I" ≠ Jvm.RoadKit.slotOf Z "com/example/answer_by_role/answerbyrole/engine/index/SentencePosition" "document" "I" := slot_ne (Or.inr (own_wd hw 50 rfl)) (Or.inr (own_wd hw 48 rfl)) (by decide) own_fd0 own_fd0
theorem own_sn1 {Z : State} {a0 : Array Value} (hw : ∀ d ∈ tables_1, d.before a0 Z = true) : Jvm.RoadKit.slotOf Z "com/example/answer_by_role/answerbyrole/engine/index/SentencePosition" "sentence" "I" ≠ Jvm.RoadKit.slotOf Z "com/example/answer_by_role/answerbyrole/engine/index/SentencePosition" "document" "I" := slot_ne (Or.inr (own_wd hw 52 rfl)) (Or.inr (own_wd hw 48 rfl)) (by decide) own_fd0 own_fd0
theorem own_sn2 {Z : State} {a0 : Array Value} (hw : ∀ d ∈ tables_1, d.before a0 Z = true) : Jvm.RoadKit.slotOf Z "com/example/answer_by_role/answerbyrole/engine/index/SentencePosition" "sentence" "I" ≠ Jvm.RoadKit.slotOf Z "com/example/answer_by_role/answerbyrole/engine/index/SentencePosition" "paragraph" "I" := slot_ne (Or.inr (own_wd hw 52 rfl)) (Or.inr (own_wd hw 50 rfl)) (by decide) own_fd0 own_fd0
theorem own_sn3 {Z : State} {a0 : Array Value} (hw : ∀ d ∈ tables_1, d.before a0 Z = true) : Jvm.RoadKit.slotOf Z "com/example/answer_by_role/answerbyrole/engine/index/SentencePosition" "document" "I" ≠ Jvm.RoadKit.slotOf Z "com/example/answer_by_role/answerbyrole/engine/index/SentencePosition" "paragraph" "I" := slot_ne (Or.inr (own_wd hw 48 rfl)) (Or.inr (own_wd hw 50 rfl)) (by decide) own_fd0 own_fd0
theorem own_sn4 {Z : State} {a0 : Array Value} (hw : ∀ d ∈ tables_1, d.before a0 Z = true) : Jvm.RoadKit.slotOf Z "com/example/answer_by_role/answerbyrole/engine/index/SentencePosition" "document" "I" ≠ Jvm.RoadKit.slotOf Z "com/example/answer_by_role/answerbyrole/engine/index/SentencePosition" "sentence" "I" := slot_ne (Or.inr (own_wd hw 48 rfl)) (Or.inr (own_wd hw 52 rfl)) (by decide) own_fd0 own_fd0
theorem own_sn5 {Z : State} {a0 : Array Value} (hw : ∀ d ∈ tables_1, d.before a0 Z = true) : Jvm.RoadKit.slotOf Z "com/example/answer_by_role/answerbyrole/engine/index/SentencePosition" "paragraph" "I" ≠ Jvm.RoadKit.slotOf Z "com/example/answer_by_role/answerbyrole/engine/index/SentencePosition" "sentence" "I" := slot_ne (Or.inr (own_wd hw 50 rfl)) (Or.inr (own_wd hw 52 rfl)) (by decide) own_fd0 own_fd0
set_option maxRecDepth 65536 in
set_option maxHeartbeats 40000000 in
theorem own_sp (l : Launch) (Z : State) (a0 : Array Value) (hw : ∀ d ∈ tables_1, d.before a0 Z = true) (a : Addr) (x1 : Int32) (x2 : Int32) (x3 : Int32) (h0 : Heap) (n0 : Nat) (z0 : n0 ≤ h0.size) (ge_a : n0 ≤ a) (pE : Exa Z h0 a "com/example/answer_by_role/answerbyrole/engine/index/SentencePosition") (p_document : Fld Z h0 a "com/example/answer_by_role/answerbyrole/engine/index/SentencePosition" "document" "I" (.int (0 : Int32))) (p_paragraph : Fld Z h0 a "com/example/answer_by_role/answerbyrole/engine/index/SentencePosition" "paragraph" "I" (.int (0 : Int32))) (p_sentence : Fld Z h0 a "com/example/answer_by_role/answerbyrole/engine/index/SentencePosition" "sentence" "I" (.int (0 : Int32))) (p1 : ¬ x1 < 0) (p2 : ¬ x2 < 0) (p3 : ¬ x3 < 0) :
    own_Met l Z (⟨"com/example/answer_by_role/answerbyrole/engine/index/SentencePosition", "<init>", "(III)V"⟩ : MethodName) prog_23_method_1_code 4 none ({ frames := 2, cells := 0, slots := 0, locals := 24 } : Room) n0 #[(.ref a), (.int x1), (.int x2), (.int x3)] h0 (fun v h => v = none ∧ Keep h0 h [a] ∧ Exa Z h a "com/example/answer_by_role/answerbyrole/engine/index/SentencePosition" ∧ Fld Z h a "com/example/answer_by_role/answerbyrole/engine/index/SentencePosition" "document" "I" (.int x1) ∧ Fld Z h a "com/example/answer_by_role/answerbyrole/engine/index/SentencePosition" "paragraph" "I" (.int x2) ∧ Fld Z h a "com/example/answer_by_role/answerbyrole/engine/index/SentencePosition" "sentence" "I" (.int x3)) := by
  refine own_met (by decide +kernel) #[.val (.ref a), .val (.int x1), .val (.int x2), .val (.int x3)] (fun m => by first | (simp [entryFrame, mkF, argsToLocals, Value.category]; done) | rfl) ?_
  intro p e s m below meth c T0 C S0
  refine own_seg C S0 [(0, .aload_n 0, 1)] (by decide +kernel) 1 #[.val (.ref a), .val (.int x1), .val (.int x2), .val (.int x3)] [(.ref a)] rfl ?_
  refine own_callI C S0 rfl (own_wd hw 41 rfl) (own_wd hw 42 rfl) (own_wd hw 45 rfl) (by decide) (own_Met.pay (own_rec l Z a0 hw a h0 n0 z0) C 0 (own_wd hw 45 rfl) (own_wd hw 44 rfl) (by decide) (by decide)) (fun _ _ _ q => q.2) [] [] rfl own_pd0 rfl rfl rfl (Nat.le_of_ble_eq_true rfl) (by decide) (by decide) (by decide +kernel) ?_
  rintro T6 h7 v8 L9 S10 ⟨⟨rfl, e5⟩, -⟩
  replace S10 : own_S p l e ({ frames := 2, cells := 0, slots := 0, locals := 24 } : Room) s m #[(.ref a), (.int x1), (.int x2), (.int x3)] below meth c n0 T6 h7 0 0 := S10
  rw [e5] at S10; clear e5
  show own_Go p e below s n0 _ _ _ T6 (mkF m 4 #[.val (.ref a), .val (.int x1), .val (.int x2), .val (.int x3)] [])
  refine own_seg C S10 [(4, .iload_n 1, 1)] (by decide +kernel) 5 #[.val (.ref a), .val (.int x1), .val (.int x2), .val (.int x3)] [(.int x1)] rfl ?_
  refine own_if C S10 (q := .lt) (o := 11) (by decide +kernel) 16 (by decide) (by decide) (fun (hq : x1 < (0 : Int32)) => False.elim (p1 hq)) (fun (q11 : ¬ x1 < (0 : Int32)) => ?_)
  refine own_seg C S10 [(8, .iload_n 2, 1)] (by decide +kernel) 9 #[.val (.ref a), .val (.int x1), .val (.int x2), .val (.int x3)] [(.int x2)] rfl ?_
  refine own_if C S10 (q := .lt) (o := 7) (by decide +kernel) 16 (by decide) (by decide) (fun (hq : x2 < (0 : Int32)) => False.elim (p2 hq)) (fun (q12 : ¬ x2 < (0 : Int32)) => ?_)
  refine own_seg C S10 [(12, .iload_n 3, 1)] (by decide +kernel) 13 #[.val (.ref a), .val (.int x1), .val (.int x2), .val (.int x3)] [(.int x3)] rfl ?_
  refine own_if C S10 (q := .ge) (o := 13) (by decide +kernel) 26 (by decide) (by decide) (fun (q13 : ¬ x3 < (0 : Int32)) => ?_) (fun (hq : x3 < (0 : Int32)) => False.elim (p3 hq))
  refine own_seg C S10 [(26, .aload_n 0, 1), (27, .iload_n 1, 1)] (by decide +kernel) 28 #[.val (.ref a), .val (.int x1), .val (.int x2), .val (.int x3)] [(.int x1), (.ref a)] rfl ?_
  refine own_putF C S10 (ty := .int) (host := "") (Or.inl (own_wd hw 47 rfl)) Via.refl p_document pE (Or.inr ⟨(own_wd hw 48 rfl), rfl, rfl⟩) (own_wd hw 36 rfl) own_fd0 rfl rfl ge_a (by decide +kernel) ?_
  intro T14 h16 S15 W17
  have f18 : Fld Z h16 a "com/example/answer_by_role/answerbyrole/engine/index/SentencePosition" "document" "I" (.int x1) := Fld.same W17 p_document
  refine own_seg C S15 [(31, .aload_n 0, 1), (32, .iload_n 2, 1)] (by decide +kernel) 33 #[.val (.ref a), .val (.int x1), .val (.int x2), .val (.int x3)] [(.int x2), (.ref a)] rfl ?_
  have f19 : Fld Z h16 a "com/example/answer_by_role/answerbyrole/engine/index/SentencePosition" "paragraph" "I" (.int (0 : Int32)) := (Fld.other W17 p_paragraph (Or.inr (own_sn0 hw)))
  have f20 : Exa Z h16 a "com/example/answer_by_role/answerbyrole/engine/index/SentencePosition" := (Exa.wr W17 pE)
  refine own_putF C S15 (ty := .int) (host := "") (Or.inl (own_wd hw 49 rfl)) Via.refl f19 f20 (Or.inr ⟨(own_wd hw 50 rfl), rfl, rfl⟩) (own_wd hw 36 rfl) own_fd0 rfl rfl ge_a (by decide +kernel) ?_
  intro T21 h23 S22 W24
  have f25 : Fld Z h23 a "com/example/answer_by_role/answerbyrole/engine/index/SentencePosition" "paragraph" "I" (.int x2) := Fld.same W24 f19
  refine own_seg C S22 [(36, .aload_n 0, 1), (37, .iload_n 3, 1)] (by decide +kernel) 38 #[.val (.ref a), .val (.int x1), .val (.int x2), .val (.int x3)] [(.int x3), (.ref a)] rfl ?_
  have f26 : Fld Z h23 a "com/example/answer_by_role/answerbyrole/engine/index/SentencePosition" "sentence" "I" (.int (0 : Int32)) := (Fld.other W24 (Fld.other W17 p_sentence (Or.inr (own_sn1 hw))) (Or.inr (own_sn2 hw)))
  have f27 : Exa Z h23 a "com/example/answer_by_role/answerbyrole/engine/index/SentencePosition" := (Exa.wr W24 f20)
  refine own_putF C S22 (ty := .int) (host := "") (Or.inl (own_wd hw 51 rfl)) Via.refl f26 f27 (Or.inr ⟨(own_wd hw 52 rfl), rfl, rfl⟩) (own_wd hw 36 rfl) own_fd0 rfl rfl ge_a (by decide +kernel) ?_
  intro T28 h30 S29 W31
  have f32 : Fld Z h30 a "com/example/answer_by_role/answerbyrole/engine/index/SentencePosition" "sentence" "I" (.int x3) := Fld.same W31 f26
  refine own_retV C S29 (by decide +kernel) (by decide) (by decide) ?_
  have f33 : Exa Z h30 a "com/example/answer_by_role/answerbyrole/engine/index/SentencePosition" := (Exa.wr W31 f27)
  have f34 : Fld Z h30 a "com/example/answer_by_role/answerbyrole/engine/index/SentencePosition" "document" "I" (.int x1) := (Fld.other W31 (Fld.other W24 f18 (Or.inr (own_sn3 hw))) (Or.inr (own_sn4 hw)))
  have f35 : Fld Z h30 a "com/example/answer_by_role/answerbyrole/engine/index/SentencePosition" "paragraph" "I" (.int x2) := (Fld.other W31 f25 (Or.inr (own_sn5 hw)))
  exact ⟨rfl, ((((Keep.refl _ _).wr W17 (Or.inl (List.mem_of_getElem? (i := 0) rfl))).wr W24 (Or.inl (List.mem_of_getElem? (i := 0) rfl))).wr W31 (Or.inl (List.mem_of_getElem? (i := 0) rfl))), f33, f34, f35, f32⟩
theorem own_sn6 {Z : State} {a0 : Array Value} (hw : ∀ d ∈ tables_1, d.before a0 Z = true) : Jvm.RoadKit.slotOf Z "com/example/answer_by_role/answerbyrole/analysis/label/Argument" "head" "I" ≠ Jvm.RoadKit.slotOf Z "com/example/answer_by_role/answerbyrole/analysis/label/Argument" "predicate" "I" := slot_ne (Or.inr (own_wd hw 64 rfl)) (Or.inr (own_wd hw 62 rfl)) (by decide) own_fd0 own_fd0
theorem own_fd1 : parseFieldDescriptor "Ljava/lang/String;" = some (.object "java/lang/String") := by decide +kernel
theorem own_sn7 {Z : State} {a0 : Array Value} (hw : ∀ d ∈ tables_1, d.before a0 Z = true) : Jvm.RoadKit.slotOf Z "com/example/answer_by_role/answerbyrole/analysis/label/Argument" "label" "Ljava/lang/String;" ≠ Jvm.RoadKit.slotOf Z "com/example/answer_by_role/answerbyrole/analysis/label/Argument" "predicate" "I" := slot_ne (Or.inr (own_wd hw 66 rfl)) (Or.inr (own_wd hw 62 rfl)) (by decide) own_fd1 own_fd0
theorem own_sn8 {Z : State} {a0 : Array Value} (hw : ∀ d ∈ tables_1, d.before a0 Z = true) : Jvm.RoadKit.slotOf Z "com/example/answer_by_role/answerbyrole/analysis/label/Argument" "label" "Ljava/lang/String;" ≠ Jvm.RoadKit.slotOf Z "com/example/answer_by_role/answerbyrole/analysis/label/Argument" "head" "I" := slot_ne (Or.inr (own_wd hw 66 rfl)) (Or.inr (own_wd hw 64 rfl)) (by decide) own_fd1 own_fd0
theorem own_sn9 {Z : State} {a0 : Array Value} (hw : ∀ d ∈ tables_1, d.before a0 Z = true) : Jvm.RoadKit.slotOf Z "com/example/answer_by_role/answerbyrole/analysis/label/Argument" "predicate" "I" ≠ Jvm.RoadKit.slotOf Z "com/example/answer_by_role/answerbyrole/analysis/label/Argument" "head" "I" := slot_ne (Or.inr (own_wd hw 62 rfl)) (Or.inr (own_wd hw 64 rfl)) (by decide) own_fd0 own_fd0
theorem own_sn10 {Z : State} {a0 : Array Value} (hw : ∀ d ∈ tables_1, d.before a0 Z = true) : Jvm.RoadKit.slotOf Z "com/example/answer_by_role/answerbyrole/analysis/label/Argument" "predicate" "I" ≠ Jvm.RoadKit.slotOf Z "com/example/answer_by_role/answerbyrole/analysis/label/Argument" "label" "Ljava/lang/String;" := slot_ne (Or.inr (own_wd hw 62 rfl)) (Or.inr (own_wd hw 66 rfl)) (by decide) own_fd0 own_fd1
theorem own_sn11 {Z : State} {a0 : Array Value} (hw : ∀ d ∈ tables_1, d.before a0 Z = true) : Jvm.RoadKit.slotOf Z "com/example/answer_by_role/answerbyrole/analysis/label/Argument" "head" "I" ≠ Jvm.RoadKit.slotOf Z "com/example/answer_by_role/answerbyrole/analysis/label/Argument" "label" "Ljava/lang/String;" := slot_ne (Or.inr (own_wd hw 64 rfl)) (Or.inr (own_wd hw 66 rfl)) (by decide) own_fd0 own_fd1
set_option maxRecDepth 65536 in
set_option maxHeartbeats 40000000 in
theorem own_ar (l : Launch) (Z : State) (a0 : Array Value) (hw : ∀ d ∈ tables_1, d.before a0 Z = true) (a : Addr) (x1 : Int32) (x2 : Int32) (x3 : Addr) (h0 : Heap) (n0 : Nat) (z0 : n0 ≤ h0.size) (ge_a : n0 ≤ a) (pE : Exa Z h0 a "com/example/answer_by_role/answerbyrole/analysis/label/Argument") (p_predicate : Fld Z h0 a "com/example/answer_by_role/answerbyrole/analysis/label/Argument" "predicate" "I" (.int (0 : Int32))) (p_head : Fld Z h0 a "com/example/answer_by_role/answerbyrole/analysis/label/Argument" "head" "I" (.int (0 : Int32))) (p_label : Fld Z h0 a "com/example/answer_by_role/answerbyrole/analysis/label/Argument" "label" "Ljava/lang/String;" .null) (p1 : ¬ x1 < 0) (p2 : ¬ x2 < 0) :
    own_Met l Z (⟨"com/example/answer_by_role/answerbyrole/analysis/label/Argument", "<init>", "(IILjava/lang/String;)V"⟩ : MethodName) prog_4_method_1_code 4 none ({ frames := 2, cells := 0, slots := 0, locals := 24 } : Room) n0 #[(.ref a), (.int x1), (.int x2), (.ref x3)] h0 (fun v h => v = none ∧ Keep h0 h [a] ∧ Exa Z h a "com/example/answer_by_role/answerbyrole/analysis/label/Argument" ∧ Fld Z h a "com/example/answer_by_role/answerbyrole/analysis/label/Argument" "predicate" "I" (.int x1) ∧ Fld Z h a "com/example/answer_by_role/answerbyrole/analysis/label/Argument" "head" "I" (.int x2) ∧ Fld Z h a "com/example/answer_by_role/answerbyrole/analysis/label/Argument" "label" "Ljava/lang/String;" (.ref x3)) := by
  refine own_met (by decide +kernel) #[.val (.ref a), .val (.int x1), .val (.int x2), .val (.ref x3)] (fun m => by first | (simp [entryFrame, mkF, argsToLocals, Value.category]; done) | rfl) ?_
  intro p e s m below meth c T0 C S0
  refine own_seg C S0 [(0, .aload_n 0, 1)] (by decide +kernel) 1 #[.val (.ref a), .val (.int x1), .val (.int x2), .val (.ref x3)] [(.ref a)] rfl ?_
  refine own_callI C S0 rfl (own_wd hw 60 rfl) (own_wd hw 42 rfl) (own_wd hw 45 rfl) (by decide) (own_Met.pay (own_rec l Z a0 hw a h0 n0 z0) C 0 (own_wd hw 45 rfl) (own_wd hw 44 rfl) (by decide) (by decide)) (fun _ _ _ q => q.2) [] [] rfl own_pd0 rfl rfl rfl (Nat.le_of_ble_eq_true rfl) (by decide) (by decide) (by decide +kernel) ?_
  rintro T37 h38 v39 L40 S41 ⟨⟨rfl, e36⟩, -⟩
  replace S41 : own_S p l e ({ frames := 2, cells := 0, slots := 0, locals := 24 } : Room) s m #[(.ref a), (.int x1), (.int x2), (.ref x3)] below meth c n0 T37 h38 0 0 := S41
  rw [e36] at S41; clear e36
  show own_Go p e below s n0 _ _ _ T37 (mkF m 4 #[.val (.ref a), .val (.int x1), .val (.int x2), .val (.ref x3)] [])
  refine own_seg C S41 [(4, .iload_n 1, 1)] (by decide +kernel) 5 #[.val (.ref a), .val (.int x1), .val (.int x2), .val (.ref x3)] [(.int x1)] rfl ?_
  refine own_if C S41 (q := .lt) (o := 7) (by decide +kernel) 12 (by decide) (by decide) (fun (hq : x1 < (0 : Int32)) => False.elim (p1 hq)) (fun (q42 : ¬ x1 < (0 : Int32)) => ?_)
  refine own_seg C S41 [(8, .iload_n 2, 1)] (by decide +kernel) 9 #[.val (.ref a), .val (.int x1), .val (.int x2), .val (.ref x3)] [(.int x2)] rfl ?_
  refine own_if C S41 (q := .ge) (o := 18) (by decide +kernel) 27 (by decide) (by decide) (fun (q43 : ¬ x2 < (0 : Int32)) => ?_) (fun (hq : x2 < (0 : Int32)) => False.elim (p2 hq))
  refine own_seg C S41 [(27, .aload_n 3, 1), (28, .ifnonnull 13, 3), (41, .aload_n 0, 1), (42, .iload_n 1, 1)] (by decide +kernel) 43 #[.val (.ref a), .val (.int x1), .val (.int x2), .val (.ref x3)] [(.int x1), (.ref a)] rfl ?_
  refine own_putF C S41 (ty := .int) (host := "") (Or.inl (own_wd hw 61 rfl)) Via.refl p_predicate pE (Or.inr ⟨(own_wd hw 62 rfl), rfl, rfl⟩) (own_wd hw 54 rfl) own_fd0 rfl rfl ge_a (by decide +kernel) ?_
  intro T44 h46 S45 W47
  have f48 : Fld Z h46 a "com/example/answer_by_role/answerbyrole/analysis/label/Argument" "predicate" "I" (.int x1) := Fld.same W47 p_predicate
  refine own_seg C S45 [(46, .aload_n 0, 1), (47, .iload_n 2, 1)] (by decide +kernel) 48 #[.val (.ref a), .val (.int x1), .val (.int x2), .val (.ref x3)] [(.int x2), (.ref a)] rfl ?_
  have f49 : Fld Z h46 a "com/example/answer_by_role/answerbyrole/analysis/label/Argument" "head" "I" (.int (0 : Int32)) := (Fld.other W47 p_head (Or.inr (own_sn6 hw)))
  have f50 : Exa Z h46 a "com/example/answer_by_role/answerbyrole/analysis/label/Argument" := (Exa.wr W47 pE)
  refine own_putF C S45 (ty := .int) (host := "") (Or.inl (own_wd hw 63 rfl)) Via.refl f49 f50 (Or.inr ⟨(own_wd hw 64 rfl), rfl, rfl⟩) (own_wd hw 54 rfl) own_fd0 rfl rfl ge_a (by decide +kernel) ?_
  intro T51 h53 S52 W54
  have f55 : Fld Z h53 a "com/example/answer_by_role/answerbyrole/analysis/label/Argument" "head" "I" (.int x2) := Fld.same W54 f49
  refine own_seg C S52 [(51, .aload_n 0, 1), (52, .aload_n 3, 1)] (by decide +kernel) 53 #[.val (.ref a), .val (.int x1), .val (.int x2), .val (.ref x3)] [(.ref x3), (.ref a)] rfl ?_
  have f56 : Fld Z h53 a "com/example/answer_by_role/answerbyrole/analysis/label/Argument" "label" "Ljava/lang/String;" .null := (Fld.other W54 (Fld.other W47 p_label (Or.inr (own_sn7 hw))) (Or.inr (own_sn8 hw)))
  have f57 : Exa Z h53 a "com/example/answer_by_role/answerbyrole/analysis/label/Argument" := (Exa.wr W54 f50)
  refine own_putF C S52 (ty := (.object "java/lang/String")) (host := "") (Or.inl (own_wd hw 65 rfl)) Via.refl f56 f57 (Or.inr ⟨(own_wd hw 66 rfl), rfl, rfl⟩) (own_wd hw 54 rfl) own_fd1 rfl rfl ge_a (by decide +kernel) ?_
  intro T58 h60 S59 W61
  have f62 : Fld Z h60 a "com/example/answer_by_role/answerbyrole/analysis/label/Argument" "label" "Ljava/lang/String;" (.ref x3) := Fld.same W61 f56
  refine own_retV C S59 (by decide +kernel) (by decide) (by decide) ?_
  have f63 : Exa Z h60 a "com/example/answer_by_role/answerbyrole/analysis/label/Argument" := (Exa.wr W61 f57)
  have f64 : Fld Z h60 a "com/example/answer_by_role/answerbyrole/analysis/label/Argument" "predicate" "I" (.int x1) := (Fld.other W61 (Fld.other W54 f48 (Or.inr (own_sn9 hw))) (Or.inr (own_sn10 hw)))
  have f65 : Fld Z h60 a "com/example/answer_by_role/answerbyrole/analysis/label/Argument" "head" "I" (.int x2) := (Fld.other W61 f55 (Or.inr (own_sn11 hw)))
  exact ⟨rfl, ((((Keep.refl _ _).wr W47 (Or.inl (List.mem_of_getElem? (i := 0) rfl))).wr W54 (Or.inl (List.mem_of_getElem? (i := 0) rfl))).wr W61 (Or.inl (List.mem_of_getElem? (i := 0) rfl))), f63, f64, f65, f62⟩
theorem own_fd2 : parseFieldDescriptor "Lcom/example/answer_by_role/answerbyrole/engine/index/SentencePosition;" = some (.object "com/example/answer_by_role/answerbyrole/engine/index/SentencePosition") := by decide +kernel
theorem own_sn12 {Z : State} {a0 : Array Value} (hw : ∀ d ∈ tables_1, d.before a0 Z = true) : Jvm.RoadKit.slotOf Z "com/example/answer_by_role/answerbyrole/engine/extraction/Candidate" "first" "I" ≠ Jvm.RoadKit.slotOf Z "com/example/answer_by_role/answerbyrole/engine/extraction/Candidate" "position" "Lcom/example/answer_by_role/answerbyrole/engine/index/SentencePosition;" := slot_ne (Or.inr (own_wd hw 77 rfl)) (Or.inr (own_wd hw 75 rfl)) (by decide) own_fd0 own_fd2
theorem own_sn13 {Z : State} {a0 : Array Value} (hw : ∀ d ∈ tables_1, d.before a0 Z = true) : Jvm.RoadKit.slotOf Z "com/example/answer_by_role/answerbyrole/engine/extraction/Candidate" "last" "I" ≠ Jvm.RoadKit.slotOf Z "com/example/answer_by_role/answerbyrole/engine/extraction/Candidate" "position" "Lcom/example/answer_by_role/answerbyrole/engine/index/SentencePosition;" := slot_ne (Or.inr (own_wd hw 79 rfl)) (Or.inr (own_wd hw 75 rfl)) (by decide) own_fd0 own_fd2
theorem own_sn14 {Z : State} {a0 : Array Value} (hw : ∀ d ∈ tables_1, d.before a0 Z = true) : Jvm.RoadKit.slotOf Z "com/example/answer_by_role/answerbyrole/engine/extraction/Candidate" "last" "I" ≠ Jvm.RoadKit.slotOf Z "com/example/answer_by_role/answerbyrole/engine/extraction/Candidate" "first" "I" := slot_ne (Or.inr (own_wd hw 79 rfl)) (Or.inr (own_wd hw 77 rfl)) (by decide) own_fd0 own_fd0
theorem own_sn15 {Z : State} {a0 : Array Value} (hw : ∀ d ∈ tables_1, d.before a0 Z = true) : Jvm.RoadKit.slotOf Z "com/example/answer_by_role/answerbyrole/engine/extraction/Candidate" "text" "Ljava/lang/String;" ≠ Jvm.RoadKit.slotOf Z "com/example/answer_by_role/answerbyrole/engine/extraction/Candidate" "position" "Lcom/example/answer_by_role/answerbyrole/engine/index/SentencePosition;" := slot_ne (Or.inr (own_wd hw 81 rfl)) (Or.inr (own_wd hw 75 rfl)) (by decide) own_fd1 own_fd2
theorem own_sn16 {Z : State} {a0 : Array Value} (hw : ∀ d ∈ tables_1, d.before a0 Z = true) : Jvm.RoadKit.slotOf Z "com/example/answer_by_role/answerbyrole/engine/extraction/Candidate" "text" "Ljava/lang/String;" ≠ Jvm.RoadKit.slotOf Z "com/example/answer_by_role/answerbyrole/engine/extraction/Candidate" "first" "I" := slot_ne (Or.inr (own_wd hw 81 rfl)) (Or.inr (own_wd hw 77 rfl)) (by decide) own_fd1 own_fd0
theorem own_sn17 {Z : State} {a0 : Array Value} (hw : ∀ d ∈ tables_1, d.before a0 Z = true) : Jvm.RoadKit.slotOf Z "com/example/answer_by_role/answerbyrole/engine/extraction/Candidate" "text" "Ljava/lang/String;" ≠ Jvm.RoadKit.slotOf Z "com/example/answer_by_role/answerbyrole/engine/extraction/Candidate" "last" "I" := slot_ne (Or.inr (own_wd hw 81 rfl)) (Or.inr (own_wd hw 79 rfl)) (by decide) own_fd1 own_fd0
theorem own_fd3 : parseFieldDescriptor "Lcom/example/answer_by_role/answerbyrole/analysis/label/Argument;" = some (.object "com/example/answer_by_role/answerbyrole/analysis/label/Argument") := by decide +kernel
theorem own_sn18 {Z : State} {a0 : Array Value} (hw : ∀ d ∈ tables_1, d.before a0 Z = true) : Jvm.RoadKit.slotOf Z "com/example/answer_by_role/answerbyrole/engine/extraction/Candidate" "argument" "Lcom/example/answer_by_role/answerbyrole/analysis/label/Argument;" ≠ Jvm.RoadKit.slotOf Z "com/example/answer_by_role/answerbyrole/engine/extraction/Candidate" "position" "Lcom/example/answer_by_role/answerbyrole/engine/index/SentencePosition;" := slot_ne (Or.inr (own_wd hw 83 rfl)) (Or.inr (own_wd hw 75 rfl)) (by decide) own_fd3 own_fd2
theorem own_sn19 {Z : State} {a0 : Array Value} (hw : ∀ d ∈ tables_1, d.before a0 Z = true) : Jvm.RoadKit.slotOf Z "com/example/answer_by_role/answerbyrole/engine/extraction/Candidate" "argument" "Lcom/example/answer_by_role/answerbyrole/analysis/label/Argument;" ≠ Jvm.RoadKit.slotOf Z "com/example/answer_by_role/answerbyrole/engine/extraction/Candidate" "first" "I" := slot_ne (Or.inr (own_wd hw 83 rfl)) (Or.inr (own_wd hw 77 rfl)) (by decide) own_fd3 own_fd0
theorem own_sn20 {Z : State} {a0 : Array Value} (hw : ∀ d ∈ tables_1, d.before a0 Z = true) : Jvm.RoadKit.slotOf Z "com/example/answer_by_role/answerbyrole/engine/extraction/Candidate" "argument" "Lcom/example/answer_by_role/answerbyrole/analysis/label/Argument;" ≠ Jvm.RoadKit.slotOf Z "com/example/answer_by_role/answerbyrole/engine/extraction/Candidate" "last" "I" := slot_ne (Or.inr (own_wd hw 83 rfl)) (Or.inr (own_wd hw 79 rfl)) (by decide) own_fd3 own_fd0
theorem own_sn21 {Z : State} {a0 : Array Value} (hw : ∀ d ∈ tables_1, d.before a0 Z = true) : Jvm.RoadKit.slotOf Z "com/example/answer_by_role/answerbyrole/engine/extraction/Candidate" "argument" "Lcom/example/answer_by_role/answerbyrole/analysis/label/Argument;" ≠ Jvm.RoadKit.slotOf Z "com/example/answer_by_role/answerbyrole/engine/extraction/Candidate" "text" "Ljava/lang/String;" := slot_ne (Or.inr (own_wd hw 83 rfl)) (Or.inr (own_wd hw 81 rfl)) (by decide) own_fd3 own_fd1
theorem own_fd4 : parseFieldDescriptor "Z" = some .boolean := by decide +kernel
theorem own_sn22 {Z : State} {a0 : Array Value} (hw : ∀ d ∈ tables_1, d.before a0 Z = true) : Jvm.RoadKit.slotOf Z "com/example/answer_by_role/answerbyrole/engine/extraction/Candidate" "fills" "Z" ≠ Jvm.RoadKit.slotOf Z "com/example/answer_by_role/answerbyrole/engine/extraction/Candidate" "position" "Lcom/example/answer_by_role/answerbyrole/engine/index/SentencePosition;" := slot_ne (Or.inr (own_wd hw 85 rfl)) (Or.inr (own_wd hw 75 rfl)) (by decide) own_fd4 own_fd2
theorem own_sn23 {Z : State} {a0 : Array Value} (hw : ∀ d ∈ tables_1, d.before a0 Z = true) : Jvm.RoadKit.slotOf Z "com/example/answer_by_role/answerbyrole/engine/extraction/Candidate" "fills" "Z" ≠ Jvm.RoadKit.slotOf Z "com/example/answer_by_role/answerbyrole/engine/extraction/Candidate" "first" "I" := slot_ne (Or.inr (own_wd hw 85 rfl)) (Or.inr (own_wd hw 77 rfl)) (by decide) own_fd4 own_fd0
theorem own_sn24 {Z : State} {a0 : Array Value} (hw : ∀ d ∈ tables_1, d.before a0 Z = true) : Jvm.RoadKit.slotOf Z "com/example/answer_by_role/answerbyrole/engine/extraction/Candidate" "fills" "Z" ≠ Jvm.RoadKit.slotOf Z "com/example/answer_by_role/answerbyrole/engine/extraction/Candidate" "last" "I" := slot_ne (Or.inr (own_wd hw 85 rfl)) (Or.inr (own_wd hw 79 rfl)) (by decide) own_fd4 own_fd0
theorem own_sn25 {Z : State} {a0 : Array Value} (hw : ∀ d ∈ tables_1, d.before a0 Z = true) : Jvm.RoadKit.slotOf Z "com/example/answer_by_role/answerbyrole/engine/extraction/Candidate" "fills" "Z" ≠ Jvm.RoadKit.slotOf Z "com/example/answer_by_role/answerbyrole/engine/extraction/Candidate" "text" "Ljava/lang/String;" := slot_ne (Or.inr (own_wd hw 85 rfl)) (Or.inr (own_wd hw 81 rfl)) (by decide) own_fd4 own_fd1
theorem own_sn26 {Z : State} {a0 : Array Value} (hw : ∀ d ∈ tables_1, d.before a0 Z = true) : Jvm.RoadKit.slotOf Z "com/example/answer_by_role/answerbyrole/engine/extraction/Candidate" "fills" "Z" ≠ Jvm.RoadKit.slotOf Z "com/example/answer_by_role/answerbyrole/engine/extraction/Candidate" "argument" "Lcom/example/answer_by_role/answerbyrole/analysis/label/Argument;" := slot_ne (Or.inr (own_wd hw 85 rfl)) (Or.inr (own_wd hw 83 rfl)) (by decide) own_fd4 own_fd3
theorem own_sn27 {Z : State} {a0 : Array Value} (hw : ∀ d ∈ tables_1, d.before a0 Z = true) : Jvm.RoadKit.slotOf Z "com/example/answer_by_role/answerbyrole/engine/extraction/Candidate" "entityType" "Ljava/lang/String;" ≠ Jvm.RoadKit.slotOf Z "com/example/answer_by_role/answerbyrole/engine/extraction/Candidate" "position" "Lcom/example/answer_by_role/answerbyrole/engine/index/SentencePosition;" := slot_ne (Or.inr (own_wd hw 87 rfl)) (Or.inr (own_wd hw 75 rfl)) (by decide) own_fd1 own_fd2
theorem own_sn28 {Z : State} {a0 : Array Value} (hw : ∀ d ∈ tables_1, d.before a0 Z = true) : Jvm.RoadKit.slotOf Z "com/example/answer_by_role/answerbyrole/engine/extraction/Candidate" "entityType" "Ljava/lang/String;" ≠ Jvm.RoadKit.slotOf Z "com/example/answer_by_role/answerbyrole/engine/extraction/Candidate" "first" "I" := slot_ne (Or.inr (own_wd hw 87 rfl)) (Or.inr (own_wd hw 77 rfl)) (by decide) own_fd1 own_fd0
theorem own_sn29 {Z : State} {a0 : Array Value} (hw : ∀ d ∈ tables_1, d.before a0 Z = true) : Jvm.RoadKit.slotOf Z "com/example/answer_by_role/answerbyrole/engine/extraction/Candidate" "entityType" "Ljava/lang/String;" ≠ Jvm.RoadKit.slotOf Z "com/example/answer_by_role/answerbyrole/engine/extraction/Candidate" "last" "I" := slot_ne (Or.inr (own_wd hw 87 rfl)) (Or.inr (own_wd hw 79 rfl)) (by decide) own_fd1 own_fd0
theorem own_sn30 {Z : State} {a0 : Array Value} (hw : ∀ d ∈ tables_1, d.before a0 Z = true) : Jvm.RoadKit.slotOf Z "com/example/answer_by_role/answerbyrole/engine/extraction/Candidate" "entityType" "Ljava/lang/String;" ≠ Jvm.RoadKit.slotOf Z "com/example/answer_by_role/answerbyrole/engine/extraction/Candidate" "text" "Ljava/lang/String;" := slot_ne (Or.inr (own_wd hw 87 rfl)) (Or.inr (own_wd hw 81 rfl)) (by decide) own_fd1 own_fd1
theorem own_sn31 {Z : State} {a0 : Array Value} (hw : ∀ d ∈ tables_1, d.before a0 Z = true) : Jvm.RoadKit.slotOf Z "com/example/answer_by_role/answerbyrole/engine/extraction/Candidate" "entityType" "Ljava/lang/String;" ≠ Jvm.RoadKit.slotOf Z "com/example/answer_by_role/answerbyrole/engine/extraction/Candidate" "argument" "Lcom/example/answer_by_role/answerbyrole/analysis/label/Argument;" := slot_ne (Or.inr (own_wd hw 87 rfl)) (Or.inr (own_wd hw 83 rfl)) (by decide) own_fd1 own_fd3
theorem own_sn32 {Z : State} {a0 : Array Value} (hw : ∀ d ∈ tables_1, d.before a0 Z = true) : Jvm.RoadKit.slotOf Z "com/example/answer_by_role/answerbyrole/engine/extraction/Candidate" "entityType" "Ljava/lang/String;" ≠ Jvm.RoadKit.slotOf Z "com/example/answer_by_role/answerbyrole/engine/extraction/Candidate" "fills" "Z" := slot_ne (Or.inr (own_wd hw 87 rfl)) (Or.inr (own_wd hw 85 rfl)) (by decide) own_fd1 own_fd4
theorem own_sn33 {Z : State} {a0 : Array Value} (hw : ∀ d ∈ tables_1, d.before a0 Z = true) : Jvm.RoadKit.slotOf Z "com/example/answer_by_role/answerbyrole/engine/extraction/Candidate" "position" "Lcom/example/answer_by_role/answerbyrole/engine/index/SentencePosition;" ≠ Jvm.RoadKit.slotOf Z "com/example/answer_by_role/answerbyrole/engine/extraction/Candidate" "first" "I" := slot_ne (Or.inr (own_wd hw 75 rfl)) (Or.inr (own_wd hw 77 rfl)) (by decide) own_fd2 own_fd0
theorem own_sn34 {Z : State} {a0 : Array Value} (hw : ∀ d ∈ tables_1, d.before a0 Z = true) : Jvm.RoadKit.slotOf Z "com/example/answer_by_role/answerbyrole/engine/extraction/Candidate" "position" "Lcom/example/answer_by_role/answerbyrole/engine/index/SentencePosition;" ≠ Jvm.RoadKit.slotOf Z "com/example/answer_by_role/answerbyrole/engine/extraction/Candidate" "last" "I" := slot_ne (Or.inr (own_wd hw 75 rfl)) (Or.inr (own_wd hw 79 rfl)) (by decide) own_fd2 own_fd0
theorem own_sn35 {Z : State} {a0 : Array Value} (hw : ∀ d ∈ tables_1, d.before a0 Z = true) : Jvm.RoadKit.slotOf Z "com/example/answer_by_role/answerbyrole/engine/extraction/Candidate" "position" "Lcom/example/answer_by_role/answerbyrole/engine/index/SentencePosition;" ≠ Jvm.RoadKit.slotOf Z "com/example/answer_by_role/answerbyrole/engine/extraction/Candidate" "text" "Ljava/lang/String;" := slot_ne (Or.inr (own_wd hw 75 rfl)) (Or.inr (own_wd hw 81 rfl)) (by decide) own_fd2 own_fd1
theorem own_sn36 {Z : State} {a0 : Array Value} (hw : ∀ d ∈ tables_1, d.before a0 Z = true) : Jvm.RoadKit.slotOf Z "com/example/answer_by_role/answerbyrole/engine/extraction/Candidate" "position" "Lcom/example/answer_by_role/answerbyrole/engine/index/SentencePosition;" ≠ Jvm.RoadKit.slotOf Z "com/example/answer_by_role/answerbyrole/engine/extraction/Candidate" "argument" "Lcom/example/answer_by_role/answerbyrole/analysis/label/Argument;" := slot_ne (Or.inr (own_wd hw 75 rfl)) (Or.inr (own_wd hw 83 rfl)) (by decide) own_fd2 own_fd3
theorem own_sn37 {Z : State} {a0 : Array Value} (hw : ∀ d ∈ tables_1, d.before a0 Z = true) : Jvm.RoadKit.slotOf Z "com/example/answer_by_role/answerbyrole/engine/extraction/Candidate" "position" "Lcom/example/answer_by_role/answerbyrole/engine/index/SentencePosition;" ≠ Jvm.RoadKit.slotOf Z "com/example/answer_by_role/answerbyrole/engine/extraction/Candidate" "fills" "Z" := slot_ne (Or.inr (own_wd hw 75 rfl)) (Or.inr (own_wd hw 85 rfl)) (by decide) own_fd2 own_fd4
theorem own_sn38 {Z : State} {a0 : Array Value} (hw : ∀ d ∈ tables_1, d.before a0 Z = true) : Jvm.RoadKit.slotOf Z "com/example/answer_by_role/answerbyrole/engine/extraction/Candidate" "position" "Lcom/example/answer_by_role/answerbyrole/engine/index/SentencePosition;" ≠ Jvm.RoadKit.slotOf Z "com/example/answer_by_role/answerbyrole/engine/extraction/Candidate" "entityType" "Ljava/lang/String;" := slot_ne (Or.inr (own_wd hw 75 rfl)) (Or.inr (own_wd hw 87 rfl)) (by decide) own_fd2 own_fd1
theorem own_sn39 {Z : State} {a0 : Array Value} (hw : ∀ d ∈ tables_1, d.before a0 Z = true) : Jvm.RoadKit.slotOf Z "com/example/answer_by_role/answerbyrole/engine/extraction/Candidate" "first" "I" ≠ Jvm.RoadKit.slotOf Z "com/example/answer_by_role/answerbyrole/engine/extraction/Candidate" "last" "I" := slot_ne (Or.inr (own_wd hw 77 rfl)) (Or.inr (own_wd hw 79 rfl)) (by decide) own_fd0 own_fd0
theorem own_sn40 {Z : State} {a0 : Array Value} (hw : ∀ d ∈ tables_1, d.before a0 Z = true) : Jvm.RoadKit.slotOf Z "com/example/answer_by_role/answerbyrole/engine/extraction/Candidate" "first" "I" ≠ Jvm.RoadKit.slotOf Z "com/example/answer_by_role/answerbyrole/engine/extraction/Candidate" "text" "Ljava/lang/String;" := slot_ne (Or.inr (own_wd hw 77 rfl)) (Or.inr (own_wd hw 81 rfl)) (by decide) own_fd0 own_fd1
theorem own_sn41 {Z : State} {a0 : Array Value} (hw : ∀ d ∈ tables_1, d.before a0 Z = true) : Jvm.RoadKit.slotOf Z "com/example/answer_by_role/answerbyrole/engine/extraction/Candidate" "first" "I" ≠ Jvm.RoadKit.slotOf Z "com/example/answer_by_role/answerbyrole/engine/extraction/Candidate" "argument" "Lcom/example/answer_by_role/answerbyrole/analysis/label/Argument;" := slot_ne (Or.inr (own_wd hw 77 rfl)) (Or.inr (own_wd hw 83 rfl)) (by decide) own_fd0 own_fd3
theorem own_sn42 {Z : State} {a0 : Array Value} (hw : ∀ d ∈ tables_1, d.before a0 Z = true) : Jvm.RoadKit.slotOf Z "com/example/answer_by_role/answerbyrole/engine/extraction/Candidate" "first" "I" ≠ Jvm.RoadKit.slotOf Z "com/example/answer_by_role/answerbyrole/engine/extraction/Candidate" "fills" "Z" := slot_ne (Or.inr (own_wd hw 77 rfl)) (Or.inr (own_wd hw 85 rfl)) (by decide) own_fd0 own_fd4
theorem own_sn43 {Z : State} {a0 : Array Value} (hw : ∀ d ∈ tables_1, d.before a0 Z = true) : Jvm.RoadKit.slotOf Z "com/example/answer_by_role/answerbyrole/engine/extraction/Candidate" "first" "I" ≠ Jvm.RoadKit.slotOf Z "com/example/answer_by_role/answerbyrole/engine/extraction/Candidate" "entityType" "Ljava/lang/String;" := slot_ne (Or.inr (own_wd hw 77 rfl)) (Or.inr (own_wd hw 87 rfl)) (by decide) own_fd0 own_fd1
theorem own_sn44 {Z : State} {a0 : Array Value} (hw : ∀ d ∈ tables_1, d.before a0 Z = true) : Jvm.RoadKit.slotOf Z "com/example/answer_by_role/answerbyrole/engine/extraction/Candidate" "last" "I" ≠ Jvm.RoadKit.slotOf Z "com/example/answer_by_role/answerbyrole/engine/extraction/Candidate" "text" "Ljava/lang/String;" := slot_ne (Or.inr (own_wd hw 79 rfl)) (Or.inr (own_wd hw 81 rfl)) (by decide) own_fd0 own_fd1
theorem own_sn45 {Z : State} {a0 : Array Value} (hw : ∀ d ∈ tables_1, d.before a0 Z = true) : Jvm.RoadKit.slotOf Z "com/example/answer_by_role/answerbyrole/engine/extraction/Candidate" "last" "I" ≠ Jvm.RoadKit.slotOf Z "com/example/answer_by_role/answerbyrole/engine/extraction/Candidate" "argument" "Lcom/example/answer_by_role/answerbyrole/analysis/label/Argument;" := slot_ne (Or.inr (own_wd hw 79 rfl)) (Or.inr (own_wd hw 83 rfl)) (by decide) own_fd0 own_fd3
theorem own_sn46 {Z : State} {a0 : Array Value} (hw : ∀ d ∈ tables_1, d.before a0 Z = true) : Jvm.RoadKit.slotOf Z "com/example/answer_by_role/answerbyrole/engine/extraction/Candidate" "last" "I" ≠ Jvm.RoadKit.slotOf Z "com/example/answer_by_role/answerbyrole/engine/extraction/Candidate" "fills" "Z" := slot_ne (Or.inr (own_wd hw 79 rfl)) (Or.inr (own_wd hw 85 rfl)) (by decide) own_fd0 own_fd4
theorem own_sn47 {Z : State} {a0 : Array Value} (hw : ∀ d ∈ tables_1, d.before a0 Z = true) : Jvm.RoadKit.slotOf Z "com/example/answer_by_role/answerbyrole/engine/extraction/Candidate" "last" "I" ≠ Jvm.RoadKit.slotOf Z "com/example/answer_by_role/answerbyrole/engine/extraction/Candidate" "entityType" "Ljava/lang/String;" := slot_ne (Or.inr (own_wd hw 79 rfl)) (Or.inr (own_wd hw 87 rfl)) (by decide) own_fd0 own_fd1
theorem own_sn48 {Z : State} {a0 : Array Value} (hw : ∀ d ∈ tables_1, d.before a0 Z = true) : Jvm.RoadKit.slotOf Z "com/example/answer_by_role/answerbyrole/engine/extraction/Candidate" "text" "Ljava/lang/String;" ≠ Jvm.RoadKit.slotOf Z "com/example/answer_by_role/answerbyrole/engine/extraction/Candidate" "argument" "Lcom/example/answer_by_role/answerbyrole/analysis/label/Argument;" := slot_ne (Or.inr (own_wd hw 81 rfl)) (Or.inr (own_wd hw 83 rfl)) (by decide) own_fd1 own_fd3
theorem own_sn49 {Z : State} {a0 : Array Value} (hw : ∀ d ∈ tables_1, d.before a0 Z = true) : Jvm.RoadKit.slotOf Z "com/example/answer_by_role/answerbyrole/engine/extraction/Candidate" "text" "Ljava/lang/String;" ≠ Jvm.RoadKit.slotOf Z "com/example/answer_by_role/answerbyrole/engine/extraction/Candidate" "fills" "Z" := slot_ne (Or.inr (own_wd hw 81 rfl)) (Or.inr (own_wd hw 85 rfl)) (by decide) own_fd1 own_fd4
theorem own_sn50 {Z : State} {a0 : Array Value} (hw : ∀ d ∈ tables_1, d.before a0 Z = true) : Jvm.RoadKit.slotOf Z "com/example/answer_by_role/answerbyrole/engine/extraction/Candidate" "text" "Ljava/lang/String;" ≠ Jvm.RoadKit.slotOf Z "com/example/answer_by_role/answerbyrole/engine/extraction/Candidate" "entityType" "Ljava/lang/String;" := slot_ne (Or.inr (own_wd hw 81 rfl)) (Or.inr (own_wd hw 87 rfl)) (by decide) own_fd1 own_fd1
theorem own_sn51 {Z : State} {a0 : Array Value} (hw : ∀ d ∈ tables_1, d.before a0 Z = true) : Jvm.RoadKit.slotOf Z "com/example/answer_by_role/answerbyrole/engine/extraction/Candidate" "argument" "Lcom/example/answer_by_role/answerbyrole/analysis/label/Argument;" ≠ Jvm.RoadKit.slotOf Z "com/example/answer_by_role/answerbyrole/engine/extraction/Candidate" "fills" "Z" := slot_ne (Or.inr (own_wd hw 83 rfl)) (Or.inr (own_wd hw 85 rfl)) (by decide) own_fd3 own_fd4
theorem own_sn52 {Z : State} {a0 : Array Value} (hw : ∀ d ∈ tables_1, d.before a0 Z = true) : Jvm.RoadKit.slotOf Z "com/example/answer_by_role/answerbyrole/engine/extraction/Candidate" "argument" "Lcom/example/answer_by_role/answerbyrole/analysis/label/Argument;" ≠ Jvm.RoadKit.slotOf Z "com/example/answer_by_role/answerbyrole/engine/extraction/Candidate" "entityType" "Ljava/lang/String;" := slot_ne (Or.inr (own_wd hw 83 rfl)) (Or.inr (own_wd hw 87 rfl)) (by decide) own_fd3 own_fd1
theorem own_sn53 {Z : State} {a0 : Array Value} (hw : ∀ d ∈ tables_1, d.before a0 Z = true) : Jvm.RoadKit.slotOf Z "com/example/answer_by_role/answerbyrole/engine/extraction/Candidate" "fills" "Z" ≠ Jvm.RoadKit.slotOf Z "com/example/answer_by_role/answerbyrole/engine/extraction/Candidate" "entityType" "Ljava/lang/String;" := slot_ne (Or.inr (own_wd hw 85 rfl)) (Or.inr (own_wd hw 87 rfl)) (by decide) own_fd4 own_fd1
set_option maxRecDepth 65536 in
set_option maxHeartbeats 40000000 in
theorem own_ca111 (l : Launch) (Z : State) (a0 : Array Value) (hw : ∀ d ∈ tables_1, d.before a0 Z = true) (a : Addr) (x1 : Addr) (x2 : Int32) (x3 : Int32) (x4 : Addr) (x5 : Addr) (x7 : Addr) (h0 : Heap) (n0 : Nat) (z0 : n0 ≤ h0.size) (ge_a : n0 ≤ a) (pE : Exa Z h0 a "com/example/answer_by_role/answerbyrole/engine/extraction/Candidate") (p_position : Fld Z h0 a "com/example/answer_by_role/answerbyrole/engine/extraction/Candidate" "position" "Lcom/example/answer_by_role/answerbyrole/engine/index/SentencePosition;" .null) (p_first : Fld Z h0 a "com/example/answer_by_role/answerbyrole/engine/extraction/Candidate" "first" "I" (.int (0 : Int32))) (p_last : Fld Z h0 a "com/example/answer_by_role/answerbyrole/engine/extraction/Candidate" "last" "I" (.int (0 : Int32))) (p_text : Fld Z h0 a "com/example/answer_by_role/answerbyrole/engine/extraction/Candidate" "text" "Ljava/lang/String;" .null) (p_argument : Fld Z h0 a "com/example/answer_by_role/answerbyrole/engine/extraction/Candidate" "argument" "Lcom/example/answer_by_role/answerbyrole/analysis/label/Argument;" .null) (p_fills : Fld Z h0 a "com/example/answer_by_role/answerbyrole/engine/extraction/Candidate" "fills" "Z" (.int (0 : Int32))) (p_entityType : Fld Z h0 a "com/example/answer_by_role/answerbyrole/engine/extraction/Candidate" "entityType" "Ljava/lang/String;" .null) (p1 : ¬ x2 < 0) (p2 : ¬ x3 < x2) :
    own_Met l Z (⟨"com/example/answer_by_role/answerbyrole/engine/extraction/Candidate", "<init>", "(Lcom/example/answer_by_role/answerbyrole/engine/index/SentencePosition;IILjava/lang/String;Lcom/example/answer_by_role/answerbyrole/analysis/label/Argument;ZLjava/lang/String;)V"⟩ : MethodName) prog_19_method_1_code 8 none ({ frames := 2, cells := 0, slots := 0, locals := 24 } : Room) n0 #[(.ref a), (.ref x1), (.int x2), (.int x3), (.ref x4), (.ref x5), (.int (1 : Int32)), (.ref x7)] h0 (fun v h => v = none ∧ Keep h0 h [a] ∧ Exa Z h a "com/example/answer_by_role/answerbyrole/engine/extraction/Candidate" ∧ Fld Z h a "com/example/answer_by_role/answerbyrole/engine/extraction/Candidate" "position" "Lcom/example/answer_by_role/answerbyrole/engine/index/SentencePosition;" (.ref x1) ∧ Fld Z h a "com/example/answer_by_role/answerbyrole/engine/extraction/Candidate" "first" "I" (.int x2) ∧ Fld Z h a "com/example/answer_by_role/answerbyrole/engine/extraction/Candidate" "last" "I" (.int x3) ∧ Fld Z h a "com/example/answer_by_role/answerbyrole/engine/extraction/Candidate" "text" "Ljava/lang/String;" (.ref x4) ∧ Fld Z h a "com/example/answer_by_role/answerbyrole/engine/extraction/Candidate" "argument" "Lcom/example/answer_by_role/answerbyrole/analysis/label/Argument;" (.ref x5) ∧ Fld Z h a "com/example/answer_by_role/answerbyrole/engine/extraction/Candidate" "fills" "Z" (.int (1 : Int32)) ∧ Fld Z h a "com/example/answer_by_role/answerbyrole/engine/extraction/Candidate" "entityType" "Ljava/lang/String;" (.ref x7)) := by
  refine own_met (by decide +kernel) #[.val (.ref a), .val (.ref x1), .val (.int x2), .val (.int x3), .val (.ref x4), .val (.ref x5), .val (.int (1 : Int32)), .val (.ref x7)] (fun m => by first | (simp [entryFrame, mkF, argsToLocals, Value.category]; done) | rfl) ?_
  intro p e s m below meth c T0 C S0
  refine own_seg C S0 [(0, .aload_n 0, 1)] (by decide +kernel) 1 #[.val (.ref a), .val (.ref x1), .val (.int x2), .val (.int x3), .val (.ref x4), .val (.ref x5), .val (.int (1 : Int32)), .val (.ref x7)] [(.ref a)] rfl ?_
  refine own_callI C S0 rfl (own_wd hw 73 rfl) (own_wd hw 42 rfl) (own_wd hw 45 rfl) (by decide) (own_Met.pay (own_rec l Z a0 hw a h0 n0 z0) C 0 (own_wd hw 45 rfl) (own_wd hw 44 rfl) (by decide) (by decide)) (fun _ _ _ q => q.2) [] [] rfl own_pd0 rfl rfl rfl (Nat.le_of_ble_eq_true rfl) (by decide) (by decide) (by decide +kernel) ?_
  rintro T67 h68 v69 L70 S71 ⟨⟨rfl, e66⟩, -⟩
  replace S71 : own_S p l e ({ frames := 2, cells := 0, slots := 0, locals := 24 } : Room) s m #[(.ref a), (.ref x1), (.int x2), (.int x3), (.ref x4), (.ref x5), (.int (1 : Int32)), (.ref x7)] below meth c n0 T67 h68 0 0 := S71
  rw [e66] at S71; clear e66
  show own_Go p e below s n0 _ _ _ T67 (mkF m 4 #[.val (.ref a), .val (.ref x1), .val (.int x2), .val (.int x3), .val (.ref x4), .val (.ref x5), .val (.int (1 : Int32)), .val (.ref x7)] [])
  refine own_seg C S71 [(4, .aload_n 1, 1), (5, .ifnull 8, 3), (8, .aload 4, 2), (10, .ifnonnull 13, 3), (23, .iload_n 2, 1)] (by decide +kernel) 24 #[.val (.ref a), .val (.ref x1), .val (.int x2), .val (.int x3), .val (.ref x4), .val (.ref x5), .val (.int (1 : Int32)), .val (.ref x7)] [(.int x2)] rfl ?_
  refine own_if C S71 (q := .lt) (o := 8) (by decide +kernel) 32 (by decide) (by decide) (fun (hq : x2 < (0 : Int32)) => False.elim (p1 hq)) (fun (q72 : ¬ x2 < (0 : Int32)) => ?_)
  refine own_seg C S71 [(27, .iload_n 3, 1), (28, .iload_n 2, 1)] (by decide +kernel) 29 #[.val (.ref a), .val (.ref x1), .val (.int x2), .val (.int x3), .val (.ref x4), .val (.ref x5), .val (.int (1 : Int32)), .val (.ref x7)] [(.int x2), (.int x3)] rfl ?_
  refine own_icmp C S71 (q := .ge) (o := 18) (by decide +kernel) 47 (by decide) (by decide) (fun (q73 : ¬ x3 < x2) => ?_) (fun (hq : x3 < x2) => False.elim (p2 hq))
  refine own_seg C S71 [(47, .aload 5, 2), (49, .ifnonnull 18, 3), (67, .iload 6, 2)] (by decide +kernel) 69 #[.val (.ref a), .val (.ref x1), .val (.int x2), .val (.int x3), .val (.ref x4), .val (.ref x5), .val (.int (1 : Int32)), .val (.ref x7)] [(.int (1 : Int32))] rfl ?_
  refine own_if C S71 (q := .eq) (o := 18) (by decide +kernel) 87 (by decide) (by decide) (fun (hq : (1 : Int32) = (0 : Int32)) => False.elim (absurd hq (by decide))) (fun (q74 : ¬ (1 : Int32) = (0 : Int32)) => ?_)
  refine own_seg C S71 [(72, .aload 5, 2), (74, .ifnonnull 13, 3), (87, .aload_n 0, 1), (88, .aload_n 1, 1)] (by decide +kernel) 89 #[.val (.ref a), .val (.ref x1), .val (.int x2), .val (.int x3), .val (.ref x4), .val (.ref x5), .val (.int (1 : Int32)), .val (.ref x7)] [(.ref x1), (.ref a)] rfl ?_
  refine own_putF C S71 (ty := (.object "com/example/answer_by_role/answerbyrole/engine/index/SentencePosition")) (host := "") (Or.inl (own_wd hw 74 rfl)) Via.refl p_position pE (Or.inr ⟨(own_wd hw 75 rfl), rfl, rfl⟩) (own_wd hw 68 rfl) own_fd2 rfl rfl ge_a (by decide +kernel) ?_
  intro T75 h77 S76 W78
  have f79 : Fld Z h77 a "com/example/answer_by_role/answerbyrole/engine/extraction/Candidate" "position" "Lcom/example/answer_by_role/answerbyrole/engine/index/SentencePosition;" (.ref x1) := Fld.same W78 p_position
  refine own_seg C S76 [(92, .aload_n 0, 1), (93, .iload_n 2, 1)] (by decide +kernel) 94 #[.val (.ref a), .val (.ref x1), .val (.int x2), .val (.int x3), .val (.ref x4), .val (.ref x5), .val (.int (1 : Int32)), .val (.ref x7)] [(.int x2), (.ref a)] rfl ?_
  have f80 : Fld Z h77 a "com/example/answer_by_role/answerbyrole/engine/extraction/Candidate" "first" "I" (.int (0 : Int32)) := (Fld.other W78 p_first (Or.inr (own_sn12 hw)))
  have f81 : Exa Z h77 a "com/example/answer_by_role/answerbyrole/engine/extraction/Candidate" := (Exa.wr W78 pE)
  refine own_putF C S76 (ty := .int) (host := "") (Or.inl (own_wd hw 76 rfl)) Via.refl f80 f81 (Or.inr ⟨(own_wd hw 77 rfl), rfl, rfl⟩) (own_wd hw 68 rfl) own_fd0 rfl rfl ge_a (by decide +kernel) ?_
  intro T82 h84 S83 W85
  have f86 : Fld Z h84 a "com/example/answer_by_role/answerbyrole/engine/extraction/Candidate" "first" "I" (.int x2) := Fld.same W85 f80
  refine own_seg C S83 [(97, .aload_n 0, 1), (98, .iload_n 3, 1)] (by decide +kernel) 99 #[.val (.ref a), .val (.ref x1), .val (.int x2), .val (.int x3), .val (.ref x4), .val (.ref x5), .val (.int (1 : Int32)), .val (.ref x7)] [(.int x3), (.ref a)] rfl ?_
  have f87 : Fld Z h84 a "com/example/answer_by_role/answerbyrole/engine/extraction/Candidate" "last" "I" (.int (0 : Int32)) := (Fld.other W85 (Fld.other W78 p_last (Or.inr (own_sn13 hw))) (Or.inr (own_sn14 hw)))
  have f88 : Exa Z h84 a "com/example/answer_by_role/answerbyrole/engine/extraction/Candidate" := (Exa.wr W85 f81)
  refine own_putF C S83 (ty := .int) (host := "") (Or.inl (own_wd hw 78 rfl)) Via.refl f87 f88 (Or.inr ⟨(own_wd hw 79 rfl), rfl, rfl⟩) (own_wd hw 68 rfl) own_fd0 rfl rfl ge_a (by decide +kernel) ?_
  intro T89 h91 S90 W92
  have f93 : Fld Z h91 a "com/example/answer_by_role/answerbyrole/engine/extraction/Candidate" "last" "I" (.int x3) := Fld.same W92 f87
  refine own_seg C S90 [(102, .aload_n 0, 1), (103, .aload 4, 2)] (by decide +kernel) 105 #[.val (.ref a), .val (.ref x1), .val (.int x2), .val (.int x3), .val (.ref x4), .val (.ref x5), .val (.int (1 : Int32)), .val (.ref x7)] [(.ref x4), (.ref a)] rfl ?_
  have f94 : Fld Z h91 a "com/example/answer_by_role/answerbyrole/engine/extraction/Candidate" "text" "Ljava/lang/String;" .null := (Fld.other W92 (Fld.other W85 (Fld.other W78 p_text (Or.inr (own_sn15 hw))) (Or.inr (own_sn16 hw))) (Or.inr (own_sn17 hw)))
  have f95 : Exa Z h91 a "com/example/answer_by_role/answerbyrole/engine/extraction/Candidate" := (Exa.wr W92 f88)
  refine own_putF C S90 (ty := (.object "java/lang/String")) (host := "") (Or.inl (own_wd hw 80 rfl)) Via.refl f94 f95 (Or.inr ⟨(own_wd hw 81 rfl), rfl, rfl⟩) (own_wd hw 68 rfl) own_fd1 rfl rfl ge_a (by decide +kernel) ?_
  intro T96 h98 S97 W99
  have f100 : Fld Z h98 a "com/example/answer_by_role/answerbyrole/engine/extraction/Candidate" "text" "Ljava/lang/String;" (.ref x4) := Fld.same W99 f94
  refine own_seg C S97 [(108, .aload_n 0, 1), (109, .aload 5, 2)] (by decide +kernel) 111 #[.val (.ref a), .val (.ref x1), .val (.int x2), .val (.int x3), .val (.ref x4), .val (.ref x5), .val (.int (1 : Int32)), .val (.ref x7)] [(.ref x5), (.ref a)] rfl ?_
  have f101 : Fld Z h98 a "com/example/answer_by_role/answerbyrole/engine/extraction/Candidate" "argument" "Lcom/example/answer_by_role/answerbyrole/analysis/label/Argument;" .null := (Fld.other W99 (Fld.other W92 (Fld.other W85 (Fld.other W78 p_argument (Or.inr (own_sn18 hw))) (Or.inr (own_sn19 hw))) (Or.inr (own_sn20 hw))) (Or.inr (own_sn21 hw)))
  have f102 : Exa Z h98 a "com/example/answer_by_role/answerbyrole/engine/extraction/Candidate" := (Exa.wr W99 f95)
  refine own_putF C S97 (ty := (.object "com/example/answer_by_role/answerbyrole/analysis/label/Argument")) (host := "") (Or.inl (own_wd hw 82 rfl)) Via.refl f101 f102 (Or.inr ⟨(own_wd hw 83 rfl), rfl, rfl⟩) (own_wd hw 68 rfl) own_fd3 rfl rfl ge_a (by decide +kernel) ?_
  intro T103 h105 S104 W106
  have f107 : Fld Z h105 a "com/example/answer_by_role/answerbyrole/engine/extraction/Candidate" "argument" "Lcom/example/answer_by_role/answerbyrole/analysis/label/Argument;" (.ref x5) := Fld.same W106 f101
  refine own_seg C S104 [(114, .aload_n 0, 1), (115, .iload 6, 2)] (by decide +kernel) 117 #[.val (.ref a), .val (.ref x1), .val (.int x2), .val (.int x3), .val (.ref x4), .val (.ref x5), .val (.int (1 : Int32)), .val (.ref x7)] [(.int (1 : Int32)), (.ref a)] rfl ?_
  have f108 : Fld Z h105 a "com/example/answer_by_role/answerbyrole/engine/extraction/Candidate" "fills" "Z" (.int (0 : Int32)) := (Fld.other W106 (Fld.other W99 (Fld.other W92 (Fld.other W85 (Fld.other W78 p_fills (Or.inr (own_sn22 hw))) (Or.inr (own_sn23 hw))) (Or.inr (own_sn24 hw))) (Or.inr (own_sn25 hw))) (Or.inr (own_sn26 hw)))
  have f109 : Exa Z h105 a "com/example/answer_by_role/answerbyrole/engine/extraction/Candidate" := (Exa.wr W106 f102)
  refine own_putF C S104 (ty := .boolean) (host := "") (Or.inl (own_wd hw 84 rfl)) Via.refl f108 f109 (Or.inr ⟨(own_wd hw 85 rfl), rfl, rfl⟩) (own_wd hw 68 rfl) own_fd4 rfl rfl ge_a (by decide +kernel) ?_
  intro T110 h112 S111 W113
  have f114 : Fld Z h112 a "com/example/answer_by_role/answerbyrole/engine/extraction/Candidate" "fills" "Z" (.int (1 : Int32)) := Fld.same W113 f108
  refine own_seg C S111 [(120, .aload_n 0, 1), (121, .aload 7, 2)] (by decide +kernel) 123 #[.val (.ref a), .val (.ref x1), .val (.int x2), .val (.int x3), .val (.ref x4), .val (.ref x5), .val (.int (1 : Int32)), .val (.ref x7)] [(.ref x7), (.ref a)] rfl ?_
  have f115 : Fld Z h112 a "com/example/answer_by_role/answerbyrole/engine/extraction/Candidate" "entityType" "Ljava/lang/String;" .null := (Fld.other W113 (Fld.other W106 (Fld.other W99 (Fld.other W92 (Fld.other W85 (Fld.other W78 p_entityType (Or.inr (own_sn27 hw))) (Or.inr (own_sn28 hw))) (Or.inr (own_sn29 hw))) (Or.inr (own_sn30 hw))) (Or.inr (own_sn31 hw))) (Or.inr (own_sn32 hw)))
  have f116 : Exa Z h112 a "com/example/answer_by_role/answerbyrole/engine/extraction/Candidate" := (Exa.wr W113 f109)
  refine own_putF C S111 (ty := (.object "java/lang/String")) (host := "") (Or.inl (own_wd hw 86 rfl)) Via.refl f115 f116 (Or.inr ⟨(own_wd hw 87 rfl), rfl, rfl⟩) (own_wd hw 68 rfl) own_fd1 rfl rfl ge_a (by decide +kernel) ?_
  intro T117 h119 S118 W120
  have f121 : Fld Z h119 a "com/example/answer_by_role/answerbyrole/engine/extraction/Candidate" "entityType" "Ljava/lang/String;" (.ref x7) := Fld.same W120 f115
  refine own_retV C S118 (by decide +kernel) (by decide) (by decide) ?_
  have f122 : Exa Z h119 a "com/example/answer_by_role/answerbyrole/engine/extraction/Candidate" := (Exa.wr W120 f116)
  have f123 : Fld Z h119 a "com/example/answer_by_role/answerbyrole/engine/extraction/Candidate" "position" "Lcom/example/answer_by_role/answerbyrole/engine/index/SentencePosition;" (.ref x1) := (Fld.other W120 (Fld.other W113 (Fld.other W106 (Fld.other W99 (Fld.other W92 (Fld.other W85 f79 (Or.inr (own_sn33 hw))) (Or.inr (own_sn34 hw))) (Or.inr (own_sn35 hw))) (Or.inr (own_sn36 hw))) (Or.inr (own_sn37 hw))) (Or.inr (own_sn38 hw)))
  have f124 : Fld Z h119 a "com/example/answer_by_role/answerbyrole/engine/extraction/Candidate" "first" "I" (.int x2) := (Fld.other W120 (Fld.other W113 (Fld.other W106 (Fld.other W99 (Fld.other W92 f86 (Or.inr (own_sn39 hw))) (Or.inr (own_sn40 hw))) (Or.inr (own_sn41 hw))) (Or.inr (own_sn42 hw))) (Or.inr (own_sn43 hw)))
  have f125 : Fld Z h119 a "com/example/answer_by_role/answerbyrole/engine/extraction/Candidate" "last" "I" (.int x3) := (Fld.other W120 (Fld.other W113 (Fld.other W106 (Fld.other W99 f93 (Or.inr (own_sn44 hw))) (Or.inr (own_sn45 hw))) (Or.inr (own_sn46 hw))) (Or.inr (own_sn47 hw)))
  have f126 : Fld Z h119 a "com/example/answer_by_role/answerbyrole/engine/extraction/Candidate" "text" "Ljava/lang/String;" (.ref x4) := (Fld.other W120 (Fld.other W113 (Fld.other W106 f100 (Or.inr (own_sn48 hw))) (Or.inr (own_sn49 hw))) (Or.inr (own_sn50 hw)))
  have f127 : Fld Z h119 a "com/example/answer_by_role/answerbyrole/engine/extraction/Candidate" "argument" "Lcom/example/answer_by_role/answerbyrole/analysis/label/Argument;" (.ref x5) := (Fld.other W120 (Fld.other W113 f107 (Or.inr (own_sn51 hw))) (Or.inr (own_sn52 hw)))
  have f128 : Fld Z h119 a "com/example/answer_by_role/answerbyrole/engine/extraction/Candidate" "fills" "Z" (.int (1 : Int32)) := (Fld.other W120 f114 (Or.inr (own_sn53 hw)))
  exact ⟨rfl, ((((((((Keep.refl _ _).wr W78 (Or.inl (List.mem_of_getElem? (i := 0) rfl))).wr W85 (Or.inl (List.mem_of_getElem? (i := 0) rfl))).wr W92 (Or.inl (List.mem_of_getElem? (i := 0) rfl))).wr W99 (Or.inl (List.mem_of_getElem? (i := 0) rfl))).wr W106 (Or.inl (List.mem_of_getElem? (i := 0) rfl))).wr W113 (Or.inl (List.mem_of_getElem? (i := 0) rfl))).wr W120 (Or.inl (List.mem_of_getElem? (i := 0) rfl))), f122, f123, f124, f125, f126, f127, f128, f121⟩
set_option maxRecDepth 65536 in
set_option maxHeartbeats 40000000 in
theorem own_ca101 (l : Launch) (Z : State) (a0 : Array Value) (hw : ∀ d ∈ tables_1, d.before a0 Z = true) (a : Addr) (x1 : Addr) (x2 : Int32) (x3 : Int32) (x4 : Addr) (x5 : Addr) (h0 : Heap) (n0 : Nat) (z0 : n0 ≤ h0.size) (ge_a : n0 ≤ a) (pE : Exa Z h0 a "com/example/answer_by_role/answerbyrole/engine/extraction/Candidate") (p_position : Fld Z h0 a "com/example/answer_by_role/answerbyrole/engine/extraction/Candidate" "position" "Lcom/example/answer_by_role/answerbyrole/engine/index/SentencePosition;" .null) (p_first : Fld Z h0 a "com/example/answer_by_role/answerbyrole/engine/extraction/Candidate" "first" "I" (.int (0 : Int32))) (p_last : Fld Z h0 a "com/example/answer_by_role/answerbyrole/engine/extraction/Candidate" "last" "I" (.int (0 : Int32))) (p_text : Fld Z h0 a "com/example/answer_by_role/answerbyrole/engine/extraction/Candidate" "text" "Ljava/lang/String;" .null) (p_argument : Fld Z h0 a "com/example/answer_by_role/answerbyrole/engine/extraction/Candidate" "argument" "Lcom/example/answer_by_role/answerbyrole/analysis/label/Argument;" .null) (p_fills : Fld Z h0 a "com/example/answer_by_role/answerbyrole/engine/extraction/Candidate" "fills" "Z" (.int (0 : Int32))) (p_entityType : Fld Z h0 a "com/example/answer_by_role/answerbyrole/engine/extraction/Candidate" "entityType" "Ljava/lang/String;" .null) (p1 : ¬ x2 < 0) (p2 : ¬ x3 < x2) :
    own_Met l Z (⟨"com/example/answer_by_role/answerbyrole/engine/extraction/Candidate", "<init>", "(Lcom/example/answer_by_role/answerbyrole/engine/index/SentencePosition;IILjava/lang/String;Lcom/example/answer_by_role/answerbyrole/analysis/label/Argument;ZLjava/lang/String;)V"⟩ : MethodName) prog_19_method_1_code 8 none ({ frames := 2, cells := 0, slots := 0, locals := 24 } : Room) n0 #[(.ref a), (.ref x1), (.int x2), (.int x3), (.ref x4), (.ref x5), (.int (1 : Int32)), .null] h0 (fun v h => v = none ∧ Keep h0 h [a] ∧ Exa Z h a "com/example/answer_by_role/answerbyrole/engine/extraction/Candidate" ∧ Fld Z h a "com/example/answer_by_role/answerbyrole/engine/extraction/Candidate" "position" "Lcom/example/answer_by_role/answerbyrole/engine/index/SentencePosition;" (.ref x1) ∧ Fld Z h a "com/example/answer_by_role/answerbyrole/engine/extraction/Candidate" "first" "I" (.int x2) ∧ Fld Z h a "com/example/answer_by_role/answerbyrole/engine/extraction/Candidate" "last" "I" (.int x3) ∧ Fld Z h a "com/example/answer_by_role/answerbyrole/engine/extraction/Candidate" "text" "Ljava/lang/String;" (.ref x4) ∧ Fld Z h a "com/example/answer_by_role/answerbyrole/engine/extraction/Candidate" "argument" "Lcom/example/answer_by_role/answerbyrole/analysis/label/Argument;" (.ref x5) ∧ Fld Z h a "com/example/answer_by_role/answerbyrole/engine/extraction/Candidate" "fills" "Z" (.int (1 : Int32)) ∧ Fld Z h a "com/example/answer_by_role/answerbyrole/engine/extraction/Candidate" "entityType" "Ljava/lang/String;" .null) := by
  refine own_met (by decide +kernel) #[.val (.ref a), .val (.ref x1), .val (.int x2), .val (.int x3), .val (.ref x4), .val (.ref x5), .val (.int (1 : Int32)), .val .null] (fun m => by first | (simp [entryFrame, mkF, argsToLocals, Value.category]; done) | rfl) ?_
  intro p e s m below meth c T0 C S0
  refine own_seg C S0 [(0, .aload_n 0, 1)] (by decide +kernel) 1 #[.val (.ref a), .val (.ref x1), .val (.int x2), .val (.int x3), .val (.ref x4), .val (.ref x5), .val (.int (1 : Int32)), .val .null] [(.ref a)] rfl ?_
  refine own_callI C S0 rfl (own_wd hw 73 rfl) (own_wd hw 42 rfl) (own_wd hw 45 rfl) (by decide) (own_Met.pay (own_rec l Z a0 hw a h0 n0 z0) C 0 (own_wd hw 45 rfl) (own_wd hw 44 rfl) (by decide) (by decide)) (fun _ _ _ q => q.2) [] [] rfl own_pd0 rfl rfl rfl (Nat.le_of_ble_eq_true rfl) (by decide) (by decide) (by decide +kernel) ?_
  rintro T130 h131 v132 L133 S134 ⟨⟨rfl, e129⟩, -⟩
  replace S134 : own_S p l e ({ frames := 2, cells := 0, slots := 0, locals := 24 } : Room) s m #[(.ref a), (.ref x1), (.int x2), (.int x3), (.ref x4), (.ref x5), (.int (1 : Int32)), .null] below meth c n0 T130 h131 0 0 := S134
  rw [e129] at S134; clear e129
  show own_Go p e below s n0 _ _ _ T130 (mkF m 4 #[.val (.ref a), .val (.ref x1), .val (.int x2), .val (.int x3), .val (.ref x4), .val (.ref x5), .val (.int (1 : Int32)), .val .null] [])
  refine own_seg C S134 [(4, .aload_n 1, 1), (5, .ifnull 8, 3), (8, .aload 4, 2), (10, .ifnonnull 13, 3), (23, .iload_n 2, 1)] (by decide +kernel) 24 #[.val (.ref a), .val (.ref x1), .val (.int x2), .val (.int x3), .val (.ref x4), .val (.ref x5), .val (.int (1 : Int32)), .val .null] [(.int x2)] rfl ?_
  refine own_if C S134 (q := .lt) (o := 8) (by decide +kernel) 32 (by decide) (by decide) (fun (hq : x2 < (0 : Int32)) => False.elim (p1 hq)) (fun (q135 : ¬ x2 < (0 : Int32)) => ?_)
  refine own_seg C S134 [(27, .iload_n 3, 1), (28, .iload_n 2, 1)] (by decide +kernel) 29 #[.val (.ref a), .val (.ref x1), .val (.int x2), .val (.int x3), .val (.ref x4), .val (.ref x5), .val (.int (1 : Int32)), .val .null] [(.int x2), (.int x3)] rfl ?_
  refine own_icmp C S134 (q := .ge) (o := 18) (by decide +kernel) 47 (by decide) (by decide) (fun (q136 : ¬ x3 < x2) => ?_) (fun (hq : x3 < x2) => False.elim (p2 hq))
  refine own_seg C S134 [(47, .aload 5, 2), (49, .ifnonnull 18, 3), (67, .iload 6, 2)] (by decide +kernel) 69 #[.val (.ref a), .val (.ref x1), .val (.int x2), .val (.int x3), .val (.ref x4), .val (.ref x5), .val (.int (1 : Int32)), .val .null] [(.int (1 : Int32))] rfl ?_
  refine own_if C S134 (q := .eq) (o := 18) (by decide +kernel) 87 (by decide) (by decide) (fun (hq : (1 : Int32) = (0 : Int32)) => False.elim (absurd hq (by decide))) (fun (q137 : ¬ (1 : Int32) = (0 : Int32)) => ?_)
  refine own_seg C S134 [(72, .aload 5, 2), (74, .ifnonnull 13, 3), (87, .aload_n 0, 1), (88, .aload_n 1, 1)] (by decide +kernel) 89 #[.val (.ref a), .val (.ref x1), .val (.int x2), .val (.int x3), .val (.ref x4), .val (.ref x5), .val (.int (1 : Int32)), .val .null] [(.ref x1), (.ref a)] rfl ?_
  refine own_putF C S134 (ty := (.object "com/example/answer_by_role/answerbyrole/engine/index/SentencePosition")) (host := "") (Or.inl (own_wd hw 74 rfl)) Via.refl p_position pE (Or.inr ⟨(own_wd hw 75 rfl), rfl, rfl⟩) (own_wd hw 68 rfl) own_fd2 rfl rfl ge_a (by decide +kernel) ?_
  intro T138 h140 S139 W141
  have f142 : Fld Z h140 a "com/example/answer_by_role/answerbyrole/engine/extraction/Candidate" "position" "Lcom/example/answer_by_role/answerbyrole/engine/index/SentencePosition;" (.ref x1) := Fld.same W141 p_position
  refine own_seg C S139 [(92, .aload_n 0, 1), (93, .iload_n 2, 1)] (by decide +kernel) 94 #[.val (.ref a), .val (.ref x1), .val (.int x2), .val (.int x3), .val (.ref x4), .val (.ref x5), .val (.int (1 : Int32)), .val .null] [(.int x2), (.ref a)] rfl ?_
  have f143 : Fld Z h140 a "com/example/answer_by_role/answerbyrole/engine/extraction/Candidate" "first" "I" (.int (0 : Int32)) := (Fld.other W141 p_first (Or.inr (own_sn12 hw)))
  have f144 : Exa Z h140 a "com/example/answer_by_role/answerbyrole/engine/extraction/Candidate" := (Exa.wr W141 pE)
  refine own_putF C S139 (ty := .int) (host := "") (Or.inl (own_wd hw 76 rfl)) Via.refl f143 f144 (Or.inr ⟨(own_wd hw 77 rfl), rfl, rfl⟩) (own_wd hw 68 rfl) own_fd0 rfl rfl ge_a (by decide +kernel) ?_
  intro T145 h147 S146 W148
  have f149 : Fld Z h147 a "com/example/answer_by_role/answerbyrole/engine/extraction/Candidate" "first" "I" (.int x2) := Fld.same W148 f143
  refine own_seg C S146 [(97, .aload_n 0, 1), (98, .iload_n 3, 1)] (by decide +kernel) 99 #[.val (.ref a), .val (.ref x1), .val (.int x2), .val (.int x3), .val (.ref x4), .val (.ref x5), .val (.int (1 : Int32)), .val .null] [(.int x3), (.ref a)] rfl ?_
  have f150 : Fld Z h147 a "com/example/answer_by_role/answerbyrole/engine/extraction/Candidate" "last" "I" (.int (0 : Int32)) := (Fld.other W148 (Fld.other W141 p_last (Or.inr (own_sn13 hw))) (Or.inr (own_sn14 hw)))
  have f151 : Exa Z h147 a "com/example/answer_by_role/answerbyrole/engine/extraction/Candidate" := (Exa.wr W148 f144)
  refine own_putF C S146 (ty := .int) (host := "") (Or.inl (own_wd hw 78 rfl)) Via.refl f150 f151 (Or.inr ⟨(own_wd hw 79 rfl), rfl, rfl⟩) (own_wd hw 68 rfl) own_fd0 rfl rfl ge_a (by decide +kernel) ?_
  intro T152 h154 S153 W155
  have f156 : Fld Z h154 a "com/example/answer_by_role/answerbyrole/engine/extraction/Candidate" "last" "I" (.int x3) := Fld.same W155 f150
  refine own_seg C S153 [(102, .aload_n 0, 1), (103, .aload 4, 2)] (by decide +kernel) 105 #[.val (.ref a), .val (.ref x1), .val (.int x2), .val (.int x3), .val (.ref x4), .val (.ref x5), .val (.int (1 : Int32)), .val .null] [(.ref x4), (.ref a)] rfl ?_
  have f157 : Fld Z h154 a "com/example/answer_by_role/answerbyrole/engine/extraction/Candidate" "text" "Ljava/lang/String;" .null := (Fld.other W155 (Fld.other W148 (Fld.other W141 p_text (Or.inr (own_sn15 hw))) (Or.inr (own_sn16 hw))) (Or.inr (own_sn17 hw)))
  have f158 : Exa Z h154 a "com/example/answer_by_role/answerbyrole/engine/extraction/Candidate" := (Exa.wr W155 f151)
  refine own_putF C S153 (ty := (.object "java/lang/String")) (host := "") (Or.inl (own_wd hw 80 rfl)) Via.refl f157 f158 (Or.inr ⟨(own_wd hw 81 rfl), rfl, rfl⟩) (own_wd hw 68 rfl) own_fd1 rfl rfl ge_a (by decide +kernel) ?_
  intro T159 h161 S160 W162
  have f163 : Fld Z h161 a "com/example/answer_by_role/answerbyrole/engine/extraction/Candidate" "text" "Ljava/lang/String;" (.ref x4) := Fld.same W162 f157
  refine own_seg C S160 [(108, .aload_n 0, 1), (109, .aload 5, 2)] (by decide +kernel) 111 #[.val (.ref a), .val (.ref x1), .val (.int x2), .val (.int x3), .val (.ref x4), .val (.ref x5), .val (.int (1 : Int32)), .val .null] [(.ref x5), (.ref a)] rfl ?_
  have f164 : Fld Z h161 a "com/example/answer_by_role/answerbyrole/engine/extraction/Candidate" "argument" "Lcom/example/answer_by_role/answerbyrole/analysis/label/Argument;" .null := (Fld.other W162 (Fld.other W155 (Fld.other W148 (Fld.other W141 p_argument (Or.inr (own_sn18 hw))) (Or.inr (own_sn19 hw))) (Or.inr (own_sn20 hw))) (Or.inr (own_sn21 hw)))
  have f165 : Exa Z h161 a "com/example/answer_by_role/answerbyrole/engine/extraction/Candidate" := (Exa.wr W162 f158)
  refine own_putF C S160 (ty := (.object "com/example/answer_by_role/answerbyrole/analysis/label/Argument")) (host := "") (Or.inl (own_wd hw 82 rfl)) Via.refl f164 f165 (Or.inr ⟨(own_wd hw 83 rfl), rfl, rfl⟩) (own_wd hw 68 rfl) own_fd3 rfl rfl ge_a (by decide +kernel) ?_
  intro T166 h168 S167 W169
  have f170 : Fld Z h168 a "com/example/answer_by_role/answerbyrole/engine/extraction/Candidate" "argument" "Lcom/example/answer_by_role/answerbyrole/analysis/label/Argument;" (.ref x5) := Fld.same W169 f164
  refine own_seg C S167 [(114, .aload_n 0, 1), (115, .iload 6, 2)] (by decide +kernel) 117 #[.val (.ref a), .val (.ref x1), .val (.int x2), .val (.int x3), .val (.ref x4), .val (.ref x5), .val (.int (1 : Int32)), .val .null] [(.int (1 : Int32)), (.ref a)] rfl ?_
  have f171 : Fld Z h168 a "com/example/answer_by_role/answerbyrole/engine/extraction/Candidate" "fills" "Z" (.int (0 : Int32)) := (Fld.other W169 (Fld.other W162 (Fld.other W155 (Fld.other W148 (Fld.other W141 p_fills (Or.inr (own_sn22 hw))) (Or.inr (own_sn23 hw))) (Or.inr (own_sn24 hw))) (Or.inr (own_sn25 hw))) (Or.inr (own_sn26 hw)))
  have f172 : Exa Z h168 a "com/example/answer_by_role/answerbyrole/engine/extraction/Candidate" := (Exa.wr W169 f165)
  refine own_putF C S167 (ty := .boolean) (host := "") (Or.inl (own_wd hw 84 rfl)) Via.refl f171 f172 (Or.inr ⟨(own_wd hw 85 rfl), rfl, rfl⟩) (own_wd hw 68 rfl) own_fd4 rfl rfl ge_a (by decide +kernel) ?_
  intro T173 h175 S174 W176
  have f177 : Fld Z h175 a "com/example/answer_by_role/answerbyrole/engine/extraction/Candidate" "fills" "Z" (.int (1 : Int32)) := Fld.same W176 f171
  refine own_seg C S174 [(120, .aload_n 0, 1), (121, .aload 7, 2)] (by decide +kernel) 123 #[.val (.ref a), .val (.ref x1), .val (.int x2), .val (.int x3), .val (.ref x4), .val (.ref x5), .val (.int (1 : Int32)), .val .null] [.null, (.ref a)] rfl ?_
  have f178 : Fld Z h175 a "com/example/answer_by_role/answerbyrole/engine/extraction/Candidate" "entityType" "Ljava/lang/String;" .null := (Fld.other W176 (Fld.other W169 (Fld.other W162 (Fld.other W155 (Fld.other W148 (Fld.other W141 p_entityType (Or.inr (own_sn27 hw))) (Or.inr (own_sn28 hw))) (Or.inr (own_sn29 hw))) (Or.inr (own_sn30 hw))) (Or.inr (own_sn31 hw))) (Or.inr (own_sn32 hw)))
  have f179 : Exa Z h175 a "com/example/answer_by_role/answerbyrole/engine/extraction/Candidate" := (Exa.wr W176 f172)
  refine own_putF C S174 (ty := (.object "java/lang/String")) (host := "") (Or.inl (own_wd hw 86 rfl)) Via.refl f178 f179 (Or.inr ⟨(own_wd hw 87 rfl), rfl, rfl⟩) (own_wd hw 68 rfl) own_fd1 rfl rfl ge_a (by decide +kernel) ?_
  intro T180 h182 S181 W183
  have f184 : Fld Z h182 a "com/example/answer_by_role/answerbyrole/engine/extraction/Candidate" "entityType" "Ljava/lang/String;" .null := Fld.same W183 f178
  refine own_retV C S181 (by decide +kernel) (by decide) (by decide) ?_
  have f185 : Exa Z h182 a "com/example/answer_by_role/answerbyrole/engine/extraction/Candidate" := (Exa.wr W183 f179)
  have f186 : Fld Z h182 a "com/example/answer_by_role/answerbyrole/engine/extraction/Candidate" "position" "Lcom/example/answer_by_role/answerbyrole/engine/index/SentencePosition;" (.ref x1) := (Fld.other W183 (Fld.other W176 (Fld.other W169 (Fld.other W162 (Fld.other W155 (Fld.other W148 f142 (Or.inr (own_sn33 hw))) (Or.inr (own_sn34 hw))) (Or.inr (own_sn35 hw))) (Or.inr (own_sn36 hw))) (Or.inr (own_sn37 hw))) (Or.inr (own_sn38 hw)))
  have f187 : Fld Z h182 a "com/example/answer_by_role/answerbyrole/engine/extraction/Candidate" "first" "I" (.int x2) := (Fld.other W183 (Fld.other W176 (Fld.other W169 (Fld.other W162 (Fld.other W155 f149 (Or.inr (own_sn39 hw))) (Or.inr (own_sn40 hw))) (Or.inr (own_sn41 hw))) (Or.inr (own_sn42 hw))) (Or.inr (own_sn43 hw)))
  have f188 : Fld Z h182 a "com/example/answer_by_role/answerbyrole/engine/extraction/Candidate" "last" "I" (.int x3) := (Fld.other W183 (Fld.other W176 (Fld.other W169 (Fld.other W162 f156 (Or.inr (own_sn44 hw))) (Or.inr (own_sn45 hw))) (Or.inr (own_sn46 hw))) (Or.inr (own_sn47 hw)))
  have f189 : Fld Z h182 a "com/example/answer_by_role/answerbyrole/engine/extraction/Candidate" "text" "Ljava/lang/String;" (.ref x4) := (Fld.other W183 (Fld.other W176 (Fld.other W169 f163 (Or.inr (own_sn48 hw))) (Or.inr (own_sn49 hw))) (Or.inr (own_sn50 hw)))
  have f190 : Fld Z h182 a "com/example/answer_by_role/answerbyrole/engine/extraction/Candidate" "argument" "Lcom/example/answer_by_role/answerbyrole/analysis/label/Argument;" (.ref x5) := (Fld.other W183 (Fld.other W176 f170 (Or.inr (own_sn51 hw))) (Or.inr (own_sn52 hw)))
  have f191 : Fld Z h182 a "com/example/answer_by_role/answerbyrole/engine/extraction/Candidate" "fills" "Z" (.int (1 : Int32)) := (Fld.other W183 f177 (Or.inr (own_sn53 hw)))
  exact ⟨rfl, ((((((((Keep.refl _ _).wr W141 (Or.inl (List.mem_of_getElem? (i := 0) rfl))).wr W148 (Or.inl (List.mem_of_getElem? (i := 0) rfl))).wr W155 (Or.inl (List.mem_of_getElem? (i := 0) rfl))).wr W162 (Or.inl (List.mem_of_getElem? (i := 0) rfl))).wr W169 (Or.inl (List.mem_of_getElem? (i := 0) rfl))).wr W176 (Or.inl (List.mem_of_getElem? (i := 0) rfl))).wr W183 (Or.inl (List.mem_of_getElem? (i := 0) rfl))), f185, f186, f187, f188, f189, f190, f191, f184⟩
set_option maxRecDepth 65536 in
set_option maxHeartbeats 40000000 in
theorem own_ca001 (l : Launch) (Z : State) (a0 : Array Value) (hw : ∀ d ∈ tables_1, d.before a0 Z = true) (a : Addr) (x1 : Addr) (x2 : Int32) (x3 : Int32) (x4 : Addr) (x5 : Addr) (h0 : Heap) (n0 : Nat) (z0 : n0 ≤ h0.size) (ge_a : n0 ≤ a) (pE : Exa Z h0 a "com/example/answer_by_role/answerbyrole/engine/extraction/Candidate") (p_position : Fld Z h0 a "com/example/answer_by_role/answerbyrole/engine/extraction/Candidate" "position" "Lcom/example/answer_by_role/answerbyrole/engine/index/SentencePosition;" .null) (p_first : Fld Z h0 a "com/example/answer_by_role/answerbyrole/engine/extraction/Candidate" "first" "I" (.int (0 : Int32))) (p_last : Fld Z h0 a "com/example/answer_by_role/answerbyrole/engine/extraction/Candidate" "last" "I" (.int (0 : Int32))) (p_text : Fld Z h0 a "com/example/answer_by_role/answerbyrole/engine/extraction/Candidate" "text" "Ljava/lang/String;" .null) (p_argument : Fld Z h0 a "com/example/answer_by_role/answerbyrole/engine/extraction/Candidate" "argument" "Lcom/example/answer_by_role/answerbyrole/analysis/label/Argument;" .null) (p_fills : Fld Z h0 a "com/example/answer_by_role/answerbyrole/engine/extraction/Candidate" "fills" "Z" (.int (0 : Int32))) (p_entityType : Fld Z h0 a "com/example/answer_by_role/answerbyrole/engine/extraction/Candidate" "entityType" "Ljava/lang/String;" .null) (p1 : ¬ x2 < 0) (p2 : ¬ x3 < x2) :
    own_Met l Z (⟨"com/example/answer_by_role/answerbyrole/engine/extraction/Candidate", "<init>", "(Lcom/example/answer_by_role/answerbyrole/engine/index/SentencePosition;IILjava/lang/String;Lcom/example/answer_by_role/answerbyrole/analysis/label/Argument;ZLjava/lang/String;)V"⟩ : MethodName) prog_19_method_1_code 8 none ({ frames := 2, cells := 0, slots := 0, locals := 24 } : Room) n0 #[(.ref a), (.ref x1), (.int x2), (.int x3), (.ref x4), (.ref x5), (.int (0 : Int32)), .null] h0 (fun v h => v = none ∧ Keep h0 h [a] ∧ Exa Z h a "com/example/answer_by_role/answerbyrole/engine/extraction/Candidate" ∧ Fld Z h a "com/example/answer_by_role/answerbyrole/engine/extraction/Candidate" "position" "Lcom/example/answer_by_role/answerbyrole/engine/index/SentencePosition;" (.ref x1) ∧ Fld Z h a "com/example/answer_by_role/answerbyrole/engine/extraction/Candidate" "first" "I" (.int x2) ∧ Fld Z h a "com/example/answer_by_role/answerbyrole/engine/extraction/Candidate" "last" "I" (.int x3) ∧ Fld Z h a "com/example/answer_by_role/answerbyrole/engine/extraction/Candidate" "text" "Ljava/lang/String;" (.ref x4) ∧ Fld Z h a "com/example/answer_by_role/answerbyrole/engine/extraction/Candidate" "argument" "Lcom/example/answer_by_role/answerbyrole/analysis/label/Argument;" (.ref x5) ∧ Fld Z h a "com/example/answer_by_role/answerbyrole/engine/extraction/Candidate" "fills" "Z" (.int (0 : Int32)) ∧ Fld Z h a "com/example/answer_by_role/answerbyrole/engine/extraction/Candidate" "entityType" "Ljava/lang/String;" .null) := by
  refine own_met (by decide +kernel) #[.val (.ref a), .val (.ref x1), .val (.int x2), .val (.int x3), .val (.ref x4), .val (.ref x5), .val (.int (0 : Int32)), .val .null] (fun m => by first | (simp [entryFrame, mkF, argsToLocals, Value.category]; done) | rfl) ?_
  intro p e s m below meth c T0 C S0
  refine own_seg C S0 [(0, .aload_n 0, 1)] (by decide +kernel) 1 #[.val (.ref a), .val (.ref x1), .val (.int x2), .val (.int x3), .val (.ref x4), .val (.ref x5), .val (.int (0 : Int32)), .val .null] [(.ref a)] rfl ?_
  refine own_callI C S0 rfl (own_wd hw 73 rfl) (own_wd hw 42 rfl) (own_wd hw 45 rfl) (by decide) (own_Met.pay (own_rec l Z a0 hw a h0 n0 z0) C 0 (own_wd hw 45 rfl) (own_wd hw 44 rfl) (by decide) (by decide)) (fun _ _ _ q => q.2) [] [] rfl own_pd0 rfl rfl rfl (Nat.le_of_ble_eq_true rfl) (by decide) (by decide) (by decide +kernel) ?_
  rintro T193 h194 v195 L196 S197 ⟨⟨rfl, e192⟩, -⟩
  replace S197 : own_S p l e ({ frames := 2, cells := 0, slots := 0, locals := 24 } : Room) s m #[(.ref a), (.ref x1), (.int x2), (.int x3), (.ref x4), (.ref x5), (.int (0 : Int32)), .null] below meth c n0 T193 h194 0 0 := S197
  rw [e192] at S197; clear e192
  show own_Go p e below s n0 _ _ _ T193 (mkF m 4 #[.val (.ref a), .val (.ref x1), .val (.int x2), .val (.int x3), .val (.ref x4), .val (.ref x5), .val (.int (0 : Int32)), .val .null] [])
  refine own_seg C S197 [(4, .aload_n 1, 1), (5, .ifnull 8, 3), (8, .aload 4, 2), (10, .ifnonnull 13, 3), (23, .iload_n 2, 1)] (by decide +kernel) 24 #[.val (.ref a), .val (.ref x1), .val (.int x2), .val (.int x3), .val (.ref x4), .val (.ref x5), .val (.int (0 : Int32)), .val .null] [(.int x2)] rfl ?_
  refine own_if C S197 (q := .lt) (o := 8) (by decide +kernel) 32 (by decide) (by decide) (fun (hq : x2 < (0 : Int32)) => False.elim (p1 hq)) (fun (q198 : ¬ x2 < (0 : Int32)) => ?_)
  refine own_seg C S197 [(27, .iload_n 3, 1), (28, .iload_n 2, 1)] (by decide +kernel) 29 #[.val (.ref a), .val (.ref x1), .val (.int x2), .val (.int x3), .val (.ref x4), .val (.ref x5), .val (.int (0 : Int32)), .val .null] [(.int x2), (.int x3)] rfl ?_
  refine own_icmp C S197 (q := .ge) (o := 18) (by decide +kernel) 47 (by decide) (by decide) (fun (q199 : ¬ x3 < x2) => ?_) (fun (hq : x3 < x2) => False.elim (p2 hq))
  refine own_seg C S197 [(47, .aload 5, 2), (49, .ifnonnull 18, 3), (67, .iload 6, 2)] (by decide +kernel) 69 #[.val (.ref a), .val (.ref x1), .val (.int x2), .val (.int x3), .val (.ref x4), .val (.ref x5), .val (.int (0 : Int32)), .val .null] [(.int (0 : Int32))] rfl ?_
  refine own_if C S197 (q := .eq) (o := 18) (by decide +kernel) 87 (by decide) (by decide) (fun (q200 : (0 : Int32) = (0 : Int32)) => ?_) (fun (hq : ¬ (0 : Int32) = (0 : Int32)) => False.elim (absurd hq (by decide)))
  refine own_seg C S197 [(87, .aload_n 0, 1), (88, .aload_n 1, 1)] (by decide +kernel) 89 #[.val (.ref a), .val (.ref x1), .val (.int x2), .val (.int x3), .val (.ref x4), .val (.ref x5), .val (.int (0 : Int32)), .val .null] [(.ref x1), (.ref a)] rfl ?_
  refine own_putF C S197 (ty := (.object "com/example/answer_by_role/answerbyrole/engine/index/SentencePosition")) (host := "") (Or.inl (own_wd hw 74 rfl)) Via.refl p_position pE (Or.inr ⟨(own_wd hw 75 rfl), rfl, rfl⟩) (own_wd hw 68 rfl) own_fd2 rfl rfl ge_a (by decide +kernel) ?_
  intro T201 h203 S202 W204
  have f205 : Fld Z h203 a "com/example/answer_by_role/answerbyrole/engine/extraction/Candidate" "position" "Lcom/example/answer_by_role/answerbyrole/engine/index/SentencePosition;" (.ref x1) := Fld.same W204 p_position
  refine own_seg C S202 [(92, .aload_n 0, 1), (93, .iload_n 2, 1)] (by decide +kernel) 94 #[.val (.ref a), .val (.ref x1), .val (.int x2), .val (.int x3), .val (.ref x4), .val (.ref x5), .val (.int (0 : Int32)), .val .null] [(.int x2), (.ref a)] rfl ?_
  have f206 : Fld Z h203 a "com/example/answer_by_role/answerbyrole/engine/extraction/Candidate" "first" "I" (.int (0 : Int32)) := (Fld.other W204 p_first (Or.inr (own_sn12 hw)))
  have f207 : Exa Z h203 a "com/example/answer_by_role/answerbyrole/engine/extraction/Candidate" := (Exa.wr W204 pE)
  refine own_putF C S202 (ty := .int) (host := "") (Or.inl (own_wd hw 76 rfl)) Via.refl f206 f207 (Or.inr ⟨(own_wd hw 77 rfl), rfl, rfl⟩) (own_wd hw 68 rfl) own_fd0 rfl rfl ge_a (by decide +kernel) ?_
  intro T208 h210 S209 W211
  have f212 : Fld Z h210 a "com/example/answer_by_role/answerbyrole/engine/extraction/Candidate" "first" "I" (.int x2) := Fld.same W211 f206
  refine own_seg C S209 [(97, .aload_n 0, 1), (98, .iload_n 3, 1)] (by decide +kernel) 99 #[.val (.ref a), .val (.ref x1), .val (.int x2), .val (.int x3), .val (.ref x4), .val (.ref x5), .val (.int (0 : Int32)), .val .null] [(.int x3), (.ref a)] rfl ?_
  have f213 : Fld Z h210 a "com/example/answer_by_role/answerbyrole/engine/extraction/Candidate" "last" "I" (.int (0 : Int32)) := (Fld.other W211 (Fld.other W204 p_last (Or.inr (own_sn13 hw))) (Or.inr (own_sn14 hw)))
  have f214 : Exa Z h210 a "com/example/answer_by_role/answerbyrole/engine/extraction/Candidate" := (Exa.wr W211 f207)
  refine own_putF C S209 (ty := .int) (host := "") (Or.inl (own_wd hw 78 rfl)) Via.refl f213 f214 (Or.inr ⟨(own_wd hw 79 rfl), rfl, rfl⟩) (own_wd hw 68 rfl) own_fd0 rfl rfl ge_a (by decide +kernel) ?_
  intro T215 h217 S216 W218
  have f219 : Fld Z h217 a "com/example/answer_by_role/answerbyrole/engine/extraction/Candidate" "last" "I" (.int x3) := Fld.same W218 f213
  refine own_seg C S216 [(102, .aload_n 0, 1), (103, .aload 4, 2)] (by decide +kernel) 105 #[.val (.ref a), .val (.ref x1), .val (.int x2), .val (.int x3), .val (.ref x4), .val (.ref x5), .val (.int (0 : Int32)), .val .null] [(.ref x4), (.ref a)] rfl ?_
  have f220 : Fld Z h217 a "com/example/answer_by_role/answerbyrole/engine/extraction/Candidate" "text" "Ljava/lang/String;" .null := (Fld.other W218 (Fld.other W211 (Fld.other W204 p_text (Or.inr (own_sn15 hw))) (Or.inr (own_sn16 hw))) (Or.inr (own_sn17 hw)))
  have f221 : Exa Z h217 a "com/example/answer_by_role/answerbyrole/engine/extraction/Candidate" := (Exa.wr W218 f214)
  refine own_putF C S216 (ty := (.object "java/lang/String")) (host := "") (Or.inl (own_wd hw 80 rfl)) Via.refl f220 f221 (Or.inr ⟨(own_wd hw 81 rfl), rfl, rfl⟩) (own_wd hw 68 rfl) own_fd1 rfl rfl ge_a (by decide +kernel) ?_
  intro T222 h224 S223 W225
  have f226 : Fld Z h224 a "com/example/answer_by_role/answerbyrole/engine/extraction/Candidate" "text" "Ljava/lang/String;" (.ref x4) := Fld.same W225 f220
  refine own_seg C S223 [(108, .aload_n 0, 1), (109, .aload 5, 2)] (by decide +kernel) 111 #[.val (.ref a), .val (.ref x1), .val (.int x2), .val (.int x3), .val (.ref x4), .val (.ref x5), .val (.int (0 : Int32)), .val .null] [(.ref x5), (.ref a)] rfl ?_
  have f227 : Fld Z h224 a "com/example/answer_by_role/answerbyrole/engine/extraction/Candidate" "argument" "Lcom/example/answer_by_role/answerbyrole/analysis/label/Argument;" .null := (Fld.other W225 (Fld.other W218 (Fld.other W211 (Fld.other W204 p_argument (Or.inr (own_sn18 hw))) (Or.inr (own_sn19 hw))) (Or.inr (own_sn20 hw))) (Or.inr (own_sn21 hw)))
  have f228 : Exa Z h224 a "com/example/answer_by_role/answerbyrole/engine/extraction/Candidate" := (Exa.wr W225 f221)
  refine own_putF C S223 (ty := (.object "com/example/answer_by_role/answerbyrole/analysis/label/Argument")) (host := "") (Or.inl (own_wd hw 82 rfl)) Via.refl f227 f228 (Or.inr ⟨(own_wd hw 83 rfl), rfl, rfl⟩) (own_wd hw 68 rfl) own_fd3 rfl rfl ge_a (by decide +kernel) ?_
  intro T229 h231 S230 W232
  have f233 : Fld Z h231 a "com/example/answer_by_role/answerbyrole/engine/extraction/Candidate" "argument" "Lcom/example/answer_by_role/answerbyrole/analysis/label/Argument;" (.ref x5) := Fld.same W232 f227
  refine own_seg C S230 [(114, .aload_n 0, 1), (115, .iload 6, 2)] (by decide +kernel) 117 #[.val (.ref a), .val (.ref x1), .val (.int x2), .val (.int x3), .val (.ref x4), .val (.ref x5), .val (.int (0 : Int32)), .val .null] [(.int (0 : Int32)), (.ref a)] rfl ?_
  have f234 : Fld Z h231 a "com/example/answer_by_role/answerbyrole/engine/extraction/Candidate" "fills" "Z" (.int (0 : Int32)) := (Fld.other W232 (Fld.other W225 (Fld.other W218 (Fld.other W211 (Fld.other W204 p_fills (Or.inr (own_sn22 hw))) (Or.inr (own_sn23 hw))) (Or.inr (own_sn24 hw))) (Or.inr (own_sn25 hw))) (Or.inr (own_sn26 hw)))
  have f235 : Exa Z h231 a "com/example/answer_by_role/answerbyrole/engine/extraction/Candidate" := (Exa.wr W232 f228)
  refine own_putF C S230 (ty := .boolean) (host := "") (Or.inl (own_wd hw 84 rfl)) Via.refl f234 f235 (Or.inr ⟨(own_wd hw 85 rfl), rfl, rfl⟩) (own_wd hw 68 rfl) own_fd4 rfl rfl ge_a (by decide +kernel) ?_
  intro T236 h238 S237 W239
  have f240 : Fld Z h238 a "com/example/answer_by_role/answerbyrole/engine/extraction/Candidate" "fills" "Z" (.int (0 : Int32)) := Fld.same W239 f234
  refine own_seg C S237 [(120, .aload_n 0, 1), (121, .aload 7, 2)] (by decide +kernel) 123 #[.val (.ref a), .val (.ref x1), .val (.int x2), .val (.int x3), .val (.ref x4), .val (.ref x5), .val (.int (0 : Int32)), .val .null] [.null, (.ref a)] rfl ?_
  have f241 : Fld Z h238 a "com/example/answer_by_role/answerbyrole/engine/extraction/Candidate" "entityType" "Ljava/lang/String;" .null := (Fld.other W239 (Fld.other W232 (Fld.other W225 (Fld.other W218 (Fld.other W211 (Fld.other W204 p_entityType (Or.inr (own_sn27 hw))) (Or.inr (own_sn28 hw))) (Or.inr (own_sn29 hw))) (Or.inr (own_sn30 hw))) (Or.inr (own_sn31 hw))) (Or.inr (own_sn32 hw)))
  have f242 : Exa Z h238 a "com/example/answer_by_role/answerbyrole/engine/extraction/Candidate" := (Exa.wr W239 f235)
  refine own_putF C S237 (ty := (.object "java/lang/String")) (host := "") (Or.inl (own_wd hw 86 rfl)) Via.refl f241 f242 (Or.inr ⟨(own_wd hw 87 rfl), rfl, rfl⟩) (own_wd hw 68 rfl) own_fd1 rfl rfl ge_a (by decide +kernel) ?_
  intro T243 h245 S244 W246
  have f247 : Fld Z h245 a "com/example/answer_by_role/answerbyrole/engine/extraction/Candidate" "entityType" "Ljava/lang/String;" .null := Fld.same W246 f241
  refine own_retV C S244 (by decide +kernel) (by decide) (by decide) ?_
  have f248 : Exa Z h245 a "com/example/answer_by_role/answerbyrole/engine/extraction/Candidate" := (Exa.wr W246 f242)
  have f249 : Fld Z h245 a "com/example/answer_by_role/answerbyrole/engine/extraction/Candidate" "position" "Lcom/example/answer_by_role/answerbyrole/engine/index/SentencePosition;" (.ref x1) := (Fld.other W246 (Fld.other W239 (Fld.other W232 (Fld.other W225 (Fld.other W218 (Fld.other W211 f205 (Or.inr (own_sn33 hw))) (Or.inr (own_sn34 hw))) (Or.inr (own_sn35 hw))) (Or.inr (own_sn36 hw))) (Or.inr (own_sn37 hw))) (Or.inr (own_sn38 hw)))
  have f250 : Fld Z h245 a "com/example/answer_by_role/answerbyrole/engine/extraction/Candidate" "first" "I" (.int x2) := (Fld.other W246 (Fld.other W239 (Fld.other W232 (Fld.other W225 (Fld.other W218 f212 (Or.inr (own_sn39 hw))) (Or.inr (own_sn40 hw))) (Or.inr (own_sn41 hw))) (Or.inr (own_sn42 hw))) (Or.inr (own_sn43 hw)))
  have f251 : Fld Z h245 a "com/example/answer_by_role/answerbyrole/engine/extraction/Candidate" "last" "I" (.int x3) := (Fld.other W246 (Fld.other W239 (Fld.other W232 (Fld.other W225 f219 (Or.inr (own_sn44 hw))) (Or.inr (own_sn45 hw))) (Or.inr (own_sn46 hw))) (Or.inr (own_sn47 hw)))
  have f252 : Fld Z h245 a "com/example/answer_by_role/answerbyrole/engine/extraction/Candidate" "text" "Ljava/lang/String;" (.ref x4) := (Fld.other W246 (Fld.other W239 (Fld.other W232 f226 (Or.inr (own_sn48 hw))) (Or.inr (own_sn49 hw))) (Or.inr (own_sn50 hw)))
  have f253 : Fld Z h245 a "com/example/answer_by_role/answerbyrole/engine/extraction/Candidate" "argument" "Lcom/example/answer_by_role/answerbyrole/analysis/label/Argument;" (.ref x5) := (Fld.other W246 (Fld.other W239 f233 (Or.inr (own_sn51 hw))) (Or.inr (own_sn52 hw)))
  have f254 : Fld Z h245 a "com/example/answer_by_role/answerbyrole/engine/extraction/Candidate" "fills" "Z" (.int (0 : Int32)) := (Fld.other W246 f240 (Or.inr (own_sn53 hw)))
  exact ⟨rfl, ((((((((Keep.refl _ _).wr W204 (Or.inl (List.mem_of_getElem? (i := 0) rfl))).wr W211 (Or.inl (List.mem_of_getElem? (i := 0) rfl))).wr W218 (Or.inl (List.mem_of_getElem? (i := 0) rfl))).wr W225 (Or.inl (List.mem_of_getElem? (i := 0) rfl))).wr W232 (Or.inl (List.mem_of_getElem? (i := 0) rfl))).wr W239 (Or.inl (List.mem_of_getElem? (i := 0) rfl))).wr W246 (Or.inl (List.mem_of_getElem? (i := 0) rfl))), f248, f249, f250, f251, f252, f253, f254, f247⟩
set_option maxRecDepth 65536 in
set_option maxHeartbeats 40000000 in
theorem own_ca011 (l : Launch) (Z : State) (a0 : Array Value) (hw : ∀ d ∈ tables_1, d.before a0 Z = true) (a : Addr) (x1 : Addr) (x2 : Int32) (x3 : Int32) (x4 : Addr) (x5 : Addr) (x7 : Addr) (h0 : Heap) (n0 : Nat) (z0 : n0 ≤ h0.size) (ge_a : n0 ≤ a) (pE : Exa Z h0 a "com/example/answer_by_role/answerbyrole/engine/extraction/Candidate") (p_position : Fld Z h0 a "com/example/answer_by_role/answerbyrole/engine/extraction/Candidate" "position" "Lcom/example/answer_by_role/answerbyrole/engine/index/SentencePosition;" .null) (p_first : Fld Z h0 a "com/example/answer_by_role/answerbyrole/engine/extraction/Candidate" "first" "I" (.int (0 : Int32))) (p_last : Fld Z h0 a "com/example/answer_by_role/answerbyrole/engine/extraction/Candidate" "last" "I" (.int (0 : Int32))) (p_text : Fld Z h0 a "com/example/answer_by_role/answerbyrole/engine/extraction/Candidate" "text" "Ljava/lang/String;" .null) (p_argument : Fld Z h0 a "com/example/answer_by_role/answerbyrole/engine/extraction/Candidate" "argument" "Lcom/example/answer_by_role/answerbyrole/analysis/label/Argument;" .null) (p_fills : Fld Z h0 a "com/example/answer_by_role/answerbyrole/engine/extraction/Candidate" "fills" "Z" (.int (0 : Int32))) (p_entityType : Fld Z h0 a "com/example/answer_by_role/answerbyrole/engine/extraction/Candidate" "entityType" "Ljava/lang/String;" .null) (p1 : ¬ x2 < 0) (p2 : ¬ x3 < x2) :
    own_Met l Z (⟨"com/example/answer_by_role/answerbyrole/engine/extraction/Candidate", "<init>", "(Lcom/example/answer_by_role/answerbyrole/engine/index/SentencePosition;IILjava/lang/String;Lcom/example/answer_by_role/answerbyrole/analysis/label/Argument;ZLjava/lang/String;)V"⟩ : MethodName) prog_19_method_1_code 8 none ({ frames := 2, cells := 0, slots := 0, locals := 24 } : Room) n0 #[(.ref a), (.ref x1), (.int x2), (.int x3), (.ref x4), (.ref x5), (.int (0 : Int32)), (.ref x7)] h0 (fun v h => v = none ∧ Keep h0 h [a] ∧ Exa Z h a "com/example/answer_by_role/answerbyrole/engine/extraction/Candidate" ∧ Fld Z h a "com/example/answer_by_role/answerbyrole/engine/extraction/Candidate" "position" "Lcom/example/answer_by_role/answerbyrole/engine/index/SentencePosition;" (.ref x1) ∧ Fld Z h a "com/example/answer_by_role/answerbyrole/engine/extraction/Candidate" "first" "I" (.int x2) ∧ Fld Z h a "com/example/answer_by_role/answerbyrole/engine/extraction/Candidate" "last" "I" (.int x3) ∧ Fld Z h a "com/example/answer_by_role/answerbyrole/engine/extraction/Candidate" "text" "Ljava/lang/String;" (.ref x4) ∧ Fld Z h a "com/example/answer_by_role/answerbyrole/engine/extraction/Candidate" "argument" "Lcom/example/answer_by_role/answerbyrole/analysis/label/Argument;" (.ref x5) ∧ Fld Z h a "com/example/answer_by_role/answerbyrole/engine/extraction/Candidate" "fills" "Z" (.int (0 : Int32)) ∧ Fld Z h a "com/example/answer_by_role/answerbyrole/engine/extraction/Candidate" "entityType" "Ljava/lang/String;" (.ref x7)) := by
  refine own_met (by decide +kernel) #[.val (.ref a), .val (.ref x1), .val (.int x2), .val (.int x3), .val (.ref x4), .val (.ref x5), .val (.int (0 : Int32)), .val (.ref x7)] (fun m => by first | (simp [entryFrame, mkF, argsToLocals, Value.category]; done) | rfl) ?_
  intro p e s m below meth c T0 C S0
  refine own_seg C S0 [(0, .aload_n 0, 1)] (by decide +kernel) 1 #[.val (.ref a), .val (.ref x1), .val (.int x2), .val (.int x3), .val (.ref x4), .val (.ref x5), .val (.int (0 : Int32)), .val (.ref x7)] [(.ref a)] rfl ?_
  refine own_callI C S0 rfl (own_wd hw 73 rfl) (own_wd hw 42 rfl) (own_wd hw 45 rfl) (by decide) (own_Met.pay (own_rec l Z a0 hw a h0 n0 z0) C 0 (own_wd hw 45 rfl) (own_wd hw 44 rfl) (by decide) (by decide)) (fun _ _ _ q => q.2) [] [] rfl own_pd0 rfl rfl rfl (Nat.le_of_ble_eq_true rfl) (by decide) (by decide) (by decide +kernel) ?_
  rintro T256 h257 v258 L259 S260 ⟨⟨rfl, e255⟩, -⟩
  replace S260 : own_S p l e ({ frames := 2, cells := 0, slots := 0, locals := 24 } : Room) s m #[(.ref a), (.ref x1), (.int x2), (.int x3), (.ref x4), (.ref x5), (.int (0 : Int32)), (.ref x7)] below meth c n0 T256 h257 0 0 := S260
  rw [e255] at S260; clear e255
  show own_Go p e below s n0 _ _ _ T256 (mkF m 4 #[.val (.ref a), .val (.ref x1), .val (.int x2), .val (.int x3), .val (.ref x4), .val (.ref x5), .val (.int (0 : Int32)), .val (.ref x7)] [])
  refine own_seg C S260 [(4, .aload_n 1, 1), (5, .ifnull 8, 3), (8, .aload 4, 2), (10, .ifnonnull 13, 3), (23, .iload_n 2, 1)] (by decide +kernel) 24 #[.val (.ref a), .val (.ref x1), .val (.int x2), .val (.int x3), .val (.ref x4), .val (.ref x5), .val (.int (0 : Int32)), .val (.ref x7)] [(.int x2)] rfl ?_
  refine own_if C S260 (q := .lt) (o := 8) (by decide +kernel) 32 (by decide) (by decide) (fun (hq : x2 < (0 : Int32)) => False.elim (p1 hq)) (fun (q261 : ¬ x2 < (0 : Int32)) => ?_)
  refine own_seg C S260 [(27, .iload_n 3, 1), (28, .iload_n 2, 1)] (by decide +kernel) 29 #[.val (.ref a), .val (.ref x1), .val (.int x2), .val (.int x3), .val (.ref x4), .val (.ref x5), .val (.int (0 : Int32)), .val (.ref x7)] [(.int x2), (.int x3)] rfl ?_
  refine own_icmp C S260 (q := .ge) (o := 18) (by decide +kernel) 47 (by decide) (by decide) (fun (q262 : ¬ x3 < x2) => ?_) (fun (hq : x3 < x2) => False.elim (p2 hq))
  refine own_seg C S260 [(47, .aload 5, 2), (49, .ifnonnull 18, 3), (67, .iload 6, 2)] (by decide +kernel) 69 #[.val (.ref a), .val (.ref x1), .val (.int x2), .val (.int x3), .val (.ref x4), .val (.ref x5), .val (.int (0 : Int32)), .val (.ref x7)] [(.int (0 : Int32))] rfl ?_
  refine own_if C S260 (q := .eq) (o := 18) (by decide +kernel) 87 (by decide) (by decide) (fun (q263 : (0 : Int32) = (0 : Int32)) => ?_) (fun (hq : ¬ (0 : Int32) = (0 : Int32)) => False.elim (absurd hq (by decide)))
  refine own_seg C S260 [(87, .aload_n 0, 1), (88, .aload_n 1, 1)] (by decide +kernel) 89 #[.val (.ref a), .val (.ref x1), .val (.int x2), .val (.int x3), .val (.ref x4), .val (.ref x5), .val (.int (0 : Int32)), .val (.ref x7)] [(.ref x1), (.ref a)] rfl ?_
  refine own_putF C S260 (ty := (.object "com/example/answer_by_role/answerbyrole/engine/index/SentencePosition")) (host := "") (Or.inl (own_wd hw 74 rfl)) Via.refl p_position pE (Or.inr ⟨(own_wd hw 75 rfl), rfl, rfl⟩) (own_wd hw 68 rfl) own_fd2 rfl rfl ge_a (by decide +kernel) ?_
  intro T264 h266 S265 W267
  have f268 : Fld Z h266 a "com/example/answer_by_role/answerbyrole/engine/extraction/Candidate" "position" "Lcom/example/answer_by_role/answerbyrole/engine/index/SentencePosition;" (.ref x1) := Fld.same W267 p_position
  refine own_seg C S265 [(92, .aload_n 0, 1), (93, .iload_n 2, 1)] (by decide +kernel) 94 #[.val (.ref a), .val (.ref x1), .val (.int x2), .val (.int x3), .val (.ref x4), .val (.ref x5), .val (.int (0 : Int32)), .val (.ref x7)] [(.int x2), (.ref a)] rfl ?_
  have f269 : Fld Z h266 a "com/example/answer_by_role/answerbyrole/engine/extraction/Candidate" "first" "I" (.int (0 : Int32)) := (Fld.other W267 p_first (Or.inr (own_sn12 hw)))
  have f270 : Exa Z h266 a "com/example/answer_by_role/answerbyrole/engine/extraction/Candidate" := (Exa.wr W267 pE)
  refine own_putF C S265 (ty := .int) (host := "") (Or.inl (own_wd hw 76 rfl)) Via.refl f269 f270 (Or.inr ⟨(own_wd hw 77 rfl), rfl, rfl⟩) (own_wd hw 68 rfl) own_fd0 rfl rfl ge_a (by decide +kernel) ?_
  intro T271 h273 S272 W274
  have f275 : Fld Z h273 a "com/example/answer_by_role/answerbyrole/engine/extraction/Candidate" "first" "I" (.int x2) := Fld.same W274 f269
  refine own_seg C S272 [(97, .aload_n 0, 1), (98, .iload_n 3, 1)] (by decide +kernel) 99 #[.val (.ref a), .val (.ref x1), .val (.int x2), .val (.int x3), .val (.ref x4), .val (.ref x5), .val (.int (0 : Int32)), .val (.ref x7)] [(.int x3), (.ref a)] rfl ?_
  have f276 : Fld Z h273 a "com/example/answer_by_role/answerbyrole/engine/extraction/Candidate" "last" "I" (.int (0 : Int32)) := (Fld.other W274 (Fld.other W267 p_last (Or.inr (own_sn13 hw))) (Or.inr (own_sn14 hw)))
  have f277 : Exa Z h273 a "com/example/answer_by_role/answerbyrole/engine/extraction/Candidate" := (Exa.wr W274 f270)
  refine own_putF C S272 (ty := .int) (host := "") (Or.inl (own_wd hw 78 rfl)) Via.refl f276 f277 (Or.inr ⟨(own_wd hw 79 rfl), rfl, rfl⟩) (own_wd hw 68 rfl) own_fd0 rfl rfl ge_a (by decide +kernel) ?_
  intro T278 h280 S279 W281
  have f282 : Fld Z h280 a "com/example/answer_by_role/answerbyrole/engine/extraction/Candidate" "last" "I" (.int x3) := Fld.same W281 f276
  refine own_seg C S279 [(102, .aload_n 0, 1), (103, .aload 4, 2)] (by decide +kernel) 105 #[.val (.ref a), .val (.ref x1), .val (.int x2), .val (.int x3), .val (.ref x4), .val (.ref x5), .val (.int (0 : Int32)), .val (.ref x7)] [(.ref x4), (.ref a)] rfl ?_
  have f283 : Fld Z h280 a "com/example/answer_by_role/answerbyrole/engine/extraction/Candidate" "text" "Ljava/lang/String;" .null := (Fld.other W281 (Fld.other W274 (Fld.other W267 p_text (Or.inr (own_sn15 hw))) (Or.inr (own_sn16 hw))) (Or.inr (own_sn17 hw)))
  have f284 : Exa Z h280 a "com/example/answer_by_role/answerbyrole/engine/extraction/Candidate" := (Exa.wr W281 f277)
  refine own_putF C S279 (ty := (.object "java/lang/String")) (host := "") (Or.inl (own_wd hw 80 rfl)) Via.refl f283 f284 (Or.inr ⟨(own_wd hw 81 rfl), rfl, rfl⟩) (own_wd hw 68 rfl) own_fd1 rfl rfl ge_a (by decide +kernel) ?_
  intro T285 h287 S286 W288
  have f289 : Fld Z h287 a "com/example/answer_by_role/answerbyrole/engine/extraction/Candidate" "text" "Ljava/lang/String;" (.ref x4) := Fld.same W288 f283
  refine own_seg C S286 [(108, .aload_n 0, 1), (109, .aload 5, 2)] (by decide +kernel) 111 #[.val (.ref a), .val (.ref x1), .val (.int x2), .val (.int x3), .val (.ref x4), .val (.ref x5), .val (.int (0 : Int32)), .val (.ref x7)] [(.ref x5), (.ref a)] rfl ?_
  have f290 : Fld Z h287 a "com/example/answer_by_role/answerbyrole/engine/extraction/Candidate" "argument" "Lcom/example/answer_by_role/answerbyrole/analysis/label/Argument;" .null := (Fld.other W288 (Fld.other W281 (Fld.other W274 (Fld.other W267 p_argument (Or.inr (own_sn18 hw))) (Or.inr (own_sn19 hw))) (Or.inr (own_sn20 hw))) (Or.inr (own_sn21 hw)))
  have f291 : Exa Z h287 a "com/example/answer_by_role/answerbyrole/engine/extraction/Candidate" := (Exa.wr W288 f284)
  refine own_putF C S286 (ty := (.object "com/example/answer_by_role/answerbyrole/analysis/label/Argument")) (host := "") (Or.inl (own_wd hw 82 rfl)) Via.refl f290 f291 (Or.inr ⟨(own_wd hw 83 rfl), rfl, rfl⟩) (own_wd hw 68 rfl) own_fd3 rfl rfl ge_a (by decide +kernel) ?_
  intro T292 h294 S293 W295
  have f296 : Fld Z h294 a "com/example/answer_by_role/answerbyrole/engine/extraction/Candidate" "argument" "Lcom/example/answer_by_role/answerbyrole/analysis/label/Argument;" (.ref x5) := Fld.same W295 f290
  refine own_seg C S293 [(114, .aload_n 0, 1), (115, .iload 6, 2)] (by decide +kernel) 117 #[.val (.ref a), .val (.ref x1), .val (.int x2), .val (.int x3), .val (.ref x4), .val (.ref x5), .val (.int (0 : Int32)), .val (.ref x7)] [(.int (0 : Int32)), (.ref a)] rfl ?_
  have f297 : Fld Z h294 a "com/example/answer_by_role/answerbyrole/engine/extraction/Candidate" "fills" "Z" (.int (0 : Int32)) := (Fld.other W295 (Fld.other W288 (Fld.other W281 (Fld.other W274 (Fld.other W267 p_fills (Or.inr (own_sn22 hw))) (Or.inr (own_sn23 hw))) (Or.inr (own_sn24 hw))) (Or.inr (own_sn25 hw))) (Or.inr (own_sn26 hw)))
  have f298 : Exa Z h294 a "com/example/answer_by_role/answerbyrole/engine/extraction/Candidate" := (Exa.wr W295 f291)
  refine own_putF C S293 (ty := .boolean) (host := "") (Or.inl (own_wd hw 84 rfl)) Via.refl f297 f298 (Or.inr ⟨(own_wd hw 85 rfl), rfl, rfl⟩) (own_wd hw 68 rfl) own_fd4 rfl rfl ge_a (by decide +kernel) ?_
  intro T299 h301 S300 W302
  have f303 : Fld Z h301 a "com/example/answer_by_role/answerbyrole/engine/extraction/Candidate" "fills" "Z" (.int (0 : Int32)) := Fld.same W302 f297
  refine own_seg C S300 [(120, .aload_n 0, 1), (121, .aload 7, 2)] (by decide +kernel) 123 #[.val (.ref a), .val (.ref x1), .val (.int x2), .val (.int x3), .val (.ref x4), .val (.ref x5), .val (.int (0 : Int32)), .val (.ref x7)] [(.ref x7), (.ref a)] rfl ?_
  have f304 : Fld Z h301 a "com/example/answer_by_role/answerbyrole/engine/extraction/Candidate" "entityType" "Ljava/lang/String;" .null := (Fld.other W302 (Fld.other W295 (Fld.other W288 (Fld.other W281 (Fld.other W274 (Fld.other W267 p_entityType (Or.inr (own_sn27 hw))) (Or.inr (own_sn28 hw))) (Or.inr (own_sn29 hw))) (Or.inr (own_sn30 hw))) (Or.inr (own_sn31 hw))) (Or.inr (own_sn32 hw)))
  have f305 : Exa Z h301 a "com/example/answer_by_role/answerbyrole/engine/extraction/Candidate" := (Exa.wr W302 f298)
  refine own_putF C S300 (ty := (.object "java/lang/String")) (host := "") (Or.inl (own_wd hw 86 rfl)) Via.refl f304 f305 (Or.inr ⟨(own_wd hw 87 rfl), rfl, rfl⟩) (own_wd hw 68 rfl) own_fd1 rfl rfl ge_a (by decide +kernel) ?_
  intro T306 h308 S307 W309
  have f310 : Fld Z h308 a "com/example/answer_by_role/answerbyrole/engine/extraction/Candidate" "entityType" "Ljava/lang/String;" (.ref x7) := Fld.same W309 f304
  refine own_retV C S307 (by decide +kernel) (by decide) (by decide) ?_
  have f311 : Exa Z h308 a "com/example/answer_by_role/answerbyrole/engine/extraction/Candidate" := (Exa.wr W309 f305)
  have f312 : Fld Z h308 a "com/example/answer_by_role/answerbyrole/engine/extraction/Candidate" "position" "Lcom/example/answer_by_role/answerbyrole/engine/index/SentencePosition;" (.ref x1) := (Fld.other W309 (Fld.other W302 (Fld.other W295 (Fld.other W288 (Fld.other W281 (Fld.other W274 f268 (Or.inr (own_sn33 hw))) (Or.inr (own_sn34 hw))) (Or.inr (own_sn35 hw))) (Or.inr (own_sn36 hw))) (Or.inr (own_sn37 hw))) (Or.inr (own_sn38 hw)))
  have f313 : Fld Z h308 a "com/example/answer_by_role/answerbyrole/engine/extraction/Candidate" "first" "I" (.int x2) := (Fld.other W309 (Fld.other W302 (Fld.other W295 (Fld.other W288 (Fld.other W281 f275 (Or.inr (own_sn39 hw))) (Or.inr (own_sn40 hw))) (Or.inr (own_sn41 hw))) (Or.inr (own_sn42 hw))) (Or.inr (own_sn43 hw)))
  have f314 : Fld Z h308 a "com/example/answer_by_role/answerbyrole/engine/extraction/Candidate" "last" "I" (.int x3) := (Fld.other W309 (Fld.other W302 (Fld.other W295 (Fld.other W288 f282 (Or.inr (own_sn44 hw))) (Or.inr (own_sn45 hw))) (Or.inr (own_sn46 hw))) (Or.inr (own_sn47 hw)))
  have f315 : Fld Z h308 a "com/example/answer_by_role/answerbyrole/engine/extraction/Candidate" "text" "Ljava/lang/String;" (.ref x4) := (Fld.other W309 (Fld.other W302 (Fld.other W295 f289 (Or.inr (own_sn48 hw))) (Or.inr (own_sn49 hw))) (Or.inr (own_sn50 hw)))
  have f316 : Fld Z h308 a "com/example/answer_by_role/answerbyrole/engine/extraction/Candidate" "argument" "Lcom/example/answer_by_role/answerbyrole/analysis/label/Argument;" (.ref x5) := (Fld.other W309 (Fld.other W302 f296 (Or.inr (own_sn51 hw))) (Or.inr (own_sn52 hw)))
  have f317 : Fld Z h308 a "com/example/answer_by_role/answerbyrole/engine/extraction/Candidate" "fills" "Z" (.int (0 : Int32)) := (Fld.other W309 f303 (Or.inr (own_sn53 hw)))
  exact ⟨rfl, ((((((((Keep.refl _ _).wr W267 (Or.inl (List.mem_of_getElem? (i := 0) rfl))).wr W274 (Or.inl (List.mem_of_getElem? (i := 0) rfl))).wr W281 (Or.inl (List.mem_of_getElem? (i := 0) rfl))).wr W288 (Or.inl (List.mem_of_getElem? (i := 0) rfl))).wr W295 (Or.inl (List.mem_of_getElem? (i := 0) rfl))).wr W302 (Or.inl (List.mem_of_getElem? (i := 0) rfl))).wr W309 (Or.inl (List.mem_of_getElem? (i := 0) rfl))), f311, f312, f313, f314, f315, f316, f317, f310⟩
set_option maxRecDepth 65536 in
set_option maxHeartbeats 40000000 in
theorem own_ca010 (l : Launch) (Z : State) (a0 : Array Value) (hw : ∀ d ∈ tables_1, d.before a0 Z = true) (a : Addr) (x1 : Addr) (x2 : Int32) (x3 : Int32) (x4 : Addr) (x7 : Addr) (h0 : Heap) (n0 : Nat) (z0 : n0 ≤ h0.size) (ge_a : n0 ≤ a) (pE : Exa Z h0 a "com/example/answer_by_role/answerbyrole/engine/extraction/Candidate") (p_position : Fld Z h0 a "com/example/answer_by_role/answerbyrole/engine/extraction/Candidate" "position" "Lcom/example/answer_by_role/answerbyrole/engine/index/SentencePosition;" .null) (p_first : Fld Z h0 a "com/example/answer_by_role/answerbyrole/engine/extraction/Candidate" "first" "I" (.int (0 : Int32))) (p_last : Fld Z h0 a "com/example/answer_by_role/answerbyrole/engine/extraction/Candidate" "last" "I" (.int (0 : Int32))) (p_text : Fld Z h0 a "com/example/answer_by_role/answerbyrole/engine/extraction/Candidate" "text" "Ljava/lang/String;" .null) (p_argument : Fld Z h0 a "com/example/answer_by_role/answerbyrole/engine/extraction/Candidate" "argument" "Lcom/example/answer_by_role/answerbyrole/analysis/label/Argument;" .null) (p_fills : Fld Z h0 a "com/example/answer_by_role/answerbyrole/engine/extraction/Candidate" "fills" "Z" (.int (0 : Int32))) (p_entityType : Fld Z h0 a "com/example/answer_by_role/answerbyrole/engine/extraction/Candidate" "entityType" "Ljava/lang/String;" .null) (p1 : ¬ x2 < 0) (p2 : ¬ x3 < x2) :
    own_Met l Z (⟨"com/example/answer_by_role/answerbyrole/engine/extraction/Candidate", "<init>", "(Lcom/example/answer_by_role/answerbyrole/engine/index/SentencePosition;IILjava/lang/String;Lcom/example/answer_by_role/answerbyrole/analysis/label/Argument;ZLjava/lang/String;)V"⟩ : MethodName) prog_19_method_1_code 8 none ({ frames := 2, cells := 0, slots := 0, locals := 24 } : Room) n0 #[(.ref a), (.ref x1), (.int x2), (.int x3), (.ref x4), .null, (.int (0 : Int32)), (.ref x7)] h0 (fun v h => v = none ∧ Keep h0 h [a] ∧ Exa Z h a "com/example/answer_by_role/answerbyrole/engine/extraction/Candidate" ∧ Fld Z h a "com/example/answer_by_role/answerbyrole/engine/extraction/Candidate" "position" "Lcom/example/answer_by_role/answerbyrole/engine/index/SentencePosition;" (.ref x1) ∧ Fld Z h a "com/example/answer_by_role/answerbyrole/engine/extraction/Candidate" "first" "I" (.int x2) ∧ Fld Z h a "com/example/answer_by_role/answerbyrole/engine/extraction/Candidate" "last" "I" (.int x3) ∧ Fld Z h a "com/example/answer_by_role/answerbyrole/engine/extraction/Candidate" "text" "Ljava/lang/String;" (.ref x4) ∧ Fld Z h a "com/example/answer_by_role/answerbyrole/engine/extraction/Candidate" "argument" "Lcom/example/answer_by_role/answerbyrole/analysis/label/Argument;" .null ∧ Fld Z h a "com/example/answer_by_role/answerbyrole/engine/extraction/Candidate" "fills" "Z" (.int (0 : Int32)) ∧ Fld Z h a "com/example/answer_by_role/answerbyrole/engine/extraction/Candidate" "entityType" "Ljava/lang/String;" (.ref x7)) := by
  refine own_met (by decide +kernel) #[.val (.ref a), .val (.ref x1), .val (.int x2), .val (.int x3), .val (.ref x4), .val .null, .val (.int (0 : Int32)), .val (.ref x7)] (fun m => by first | (simp [entryFrame, mkF, argsToLocals, Value.category]; done) | rfl) ?_
  intro p e s m below meth c T0 C S0
  refine own_seg C S0 [(0, .aload_n 0, 1)] (by decide +kernel) 1 #[.val (.ref a), .val (.ref x1), .val (.int x2), .val (.int x3), .val (.ref x4), .val .null, .val (.int (0 : Int32)), .val (.ref x7)] [(.ref a)] rfl ?_
  refine own_callI C S0 rfl (own_wd hw 73 rfl) (own_wd hw 42 rfl) (own_wd hw 45 rfl) (by decide) (own_Met.pay (own_rec l Z a0 hw a h0 n0 z0) C 0 (own_wd hw 45 rfl) (own_wd hw 44 rfl) (by decide) (by decide)) (fun _ _ _ q => q.2) [] [] rfl own_pd0 rfl rfl rfl (Nat.le_of_ble_eq_true rfl) (by decide) (by decide) (by decide +kernel) ?_
  rintro T319 h320 v321 L322 S323 ⟨⟨rfl, e318⟩, -⟩
  replace S323 : own_S p l e ({ frames := 2, cells := 0, slots := 0, locals := 24 } : Room) s m #[(.ref a), (.ref x1), (.int x2), (.int x3), (.ref x4), .null, (.int (0 : Int32)), (.ref x7)] below meth c n0 T319 h320 0 0 := S323
  rw [e318] at S323; clear e318
  show own_Go p e below s n0 _ _ _ T319 (mkF m 4 #[.val (.ref a), .val (.ref x1), .val (.int x2), .val (.int x3), .val (.ref x4), .val .null, .val (.int (0 : Int32)), .val (.ref x7)] [])
  refine own_seg C S323 [(4, .aload_n 1, 1), (5, .ifnull 8, 3), (8, .aload 4, 2), (10, .ifnonnull 13, 3), (23, .iload_n 2, 1)] (by decide +kernel) 24 #[.val (.ref a), .val (.ref x1), .val (.int x2), .val (.int x3), .val (.ref x4), .val .null, .val (.int (0 : Int32)), .val (.ref x7)] [(.int x2)] rfl ?_
  refine own_if C S323 (q := .lt) (o := 8) (by decide +kernel) 32 (by decide) (by decide) (fun (hq : x2 < (0 : Int32)) => False.elim (p1 hq)) (fun (q324 : ¬ x2 < (0 : Int32)) => ?_)
  refine own_seg C S323 [(27, .iload_n 3, 1), (28, .iload_n 2, 1)] (by decide +kernel) 29 #[.val (.ref a), .val (.ref x1), .val (.int x2), .val (.int x3), .val (.ref x4), .val .null, .val (.int (0 : Int32)), .val (.ref x7)] [(.int x2), (.int x3)] rfl ?_
  refine own_icmp C S323 (q := .ge) (o := 18) (by decide +kernel) 47 (by decide) (by decide) (fun (q325 : ¬ x3 < x2) => ?_) (fun (hq : x3 < x2) => False.elim (p2 hq))
  refine own_seg C S323 [(47, .aload 5, 2), (49, .ifnonnull 18, 3), (52, .aload 7, 2), (54, .ifnonnull 13, 3), (67, .iload 6, 2)] (by decide +kernel) 69 #[.val (.ref a), .val (.ref x1), .val (.int x2), .val (.int x3), .val (.ref x4), .val .null, .val (.int (0 : Int32)), .val (.ref x7)] [(.int (0 : Int32))] rfl ?_
  refine own_if C S323 (q := .eq) (o := 18) (by decide +kernel) 87 (by decide) (by decide) (fun (q326 : (0 : Int32) = (0 : Int32)) => ?_) (fun (hq : ¬ (0 : Int32) = (0 : Int32)) => False.elim (absurd hq (by decide)))
  refine own_seg C S323 [(87, .aload_n 0, 1), (88, .aload_n 1, 1)] (by decide +kernel) 89 #[.val (.ref a), .val (.ref x1), .val (.int x2), .val (.int x3), .val (.ref x4), .val .null, .val (.int (0 : Int32)), .val (.ref x7)] [(.ref x1), (.ref a)] rfl ?_
  refine own_putF C S323 (ty := (.object "com/example/answer_by_role/answerbyrole/engine/index/SentencePosition")) (host := "") (Or.inl (own_wd hw 74 rfl)) Via.refl p_position pE (Or.inr ⟨(own_wd hw 75 rfl), rfl, rfl⟩) (own_wd hw 68 rfl) own_fd2 rfl rfl ge_a (by decide +kernel) ?_
  intro T327 h329 S328 W330
  have f331 : Fld Z h329 a "com/example/answer_by_role/answerbyrole/engine/extraction/Candidate" "position" "Lcom/example/answer_by_role/answerbyrole/engine/index/SentencePosition;" (.ref x1) := Fld.same W330 p_position
  refine own_seg C S328 [(92, .aload_n 0, 1), (93, .iload_n 2, 1)] (by decide +kernel) 94 #[.val (.ref a), .val (.ref x1), .val (.int x2), .val (.int x3), .val (.ref x4), .val .null, .val (.int (0 : Int32)), .val (.ref x7)] [(.int x2), (.ref a)] rfl ?_
  have f332 : Fld Z h329 a "com/example/answer_by_role/answerbyrole/engine/extraction/Candidate" "first" "I" (.int (0 : Int32)) := (Fld.other W330 p_first (Or.inr (own_sn12 hw)))
  have f333 : Exa Z h329 a "com/example/answer_by_role/answerbyrole/engine/extraction/Candidate" := (Exa.wr W330 pE)
  refine own_putF C S328 (ty := .int) (host := "") (Or.inl (own_wd hw 76 rfl)) Via.refl f332 f333 (Or.inr ⟨(own_wd hw 77 rfl), rfl, rfl⟩) (own_wd hw 68 rfl) own_fd0 rfl rfl ge_a (by decide +kernel) ?_
  intro T334 h336 S335 W337
  have f338 : Fld Z h336 a "com/example/answer_by_role/answerbyrole/engine/extraction/Candidate" "first" "I" (.int x2) := Fld.same W337 f332
  refine own_seg C S335 [(97, .aload_n 0, 1), (98, .iload_n 3, 1)] (by decide +kernel) 99 #[.val (.ref a), .val (.ref x1), .val (.int x2), .val (.int x3), .val (.ref x4), .val .null, .val (.int (0 : Int32)), .val (.ref x7)] [(.int x3), (.ref a)] rfl ?_
  have f339 : Fld Z h336 a "com/example/answer_by_role/answerbyrole/engine/extraction/Candidate" "last" "I" (.int (0 : Int32)) := (Fld.other W337 (Fld.other W330 p_last (Or.inr (own_sn13 hw))) (Or.inr (own_sn14 hw)))
  have f340 : Exa Z h336 a "com/example/answer_by_role/answerbyrole/engine/extraction/Candidate" := (Exa.wr W337 f333)
  refine own_putF C S335 (ty := .int) (host := "") (Or.inl (own_wd hw 78 rfl)) Via.refl f339 f340 (Or.inr ⟨(own_wd hw 79 rfl), rfl, rfl⟩) (own_wd hw 68 rfl) own_fd0 rfl rfl ge_a (by decide +kernel) ?_
  intro T341 h343 S342 W344
  have f345 : Fld Z h343 a "com/example/answer_by_role/answerbyrole/engine/extraction/Candidate" "last" "I" (.int x3) := Fld.same W344 f339
  refine own_seg C S342 [(102, .aload_n 0, 1), (103, .aload 4, 2)] (by decide +kernel) 105 #[.val (.ref a), .val (.ref x1), .val (.int x2), .val (.int x3), .val (.ref x4), .val .null, .val (.int (0 : Int32)), .val (.ref x7)] [(.ref x4), (.ref a)] rfl ?_
  have f346 : Fld Z h343 a "com/example/answer_by_role/answerbyrole/engine/extraction/Candidate" "text" "Ljava/lang/String;" .null := (Fld.other W344 (Fld.other W337 (Fld.other W330 p_text (Or.inr (own_sn15 hw))) (Or.inr (own_sn16 hw))) (Or.inr (own_sn17 hw)))
  have f347 : Exa Z h343 a "com/example/answer_by_role/answerbyrole/engine/extraction/Candidate" := (Exa.wr W344 f340)
  refine own_putF C S342 (ty := (.object "java/lang/String")) (host := "") (Or.inl (own_wd hw 80 rfl)) Via.refl f346 f347 (Or.inr ⟨(own_wd hw 81 rfl), rfl, rfl⟩) (own_wd hw 68 rfl) own_fd1 rfl rfl ge_a (by decide +kernel) ?_
  intro T348 h350 S349 W351
  have f352 : Fld Z h350 a "com/example/answer_by_role/answerbyrole/engine/extraction/Candidate" "text" "Ljava/lang/String;" (.ref x4) := Fld.same W351 f346
  refine own_seg C S349 [(108, .aload_n 0, 1), (109, .aload 5, 2)] (by decide +kernel) 111 #[.val (.ref a), .val (.ref x1), .val (.int x2), .val (.int x3), .val (.ref x4), .val .null, .val (.int (0 : Int32)), .val (.ref x7)] [.null, (.ref a)] rfl ?_
  have f353 : Fld Z h350 a "com/example/answer_by_role/answerbyrole/engine/extraction/Candidate" "argument" "Lcom/example/answer_by_role/answerbyrole/analysis/label/Argument;" .null := (Fld.other W351 (Fld.other W344 (Fld.other W337 (Fld.other W330 p_argument (Or.inr (own_sn18 hw))) (Or.inr (own_sn19 hw))) (Or.inr (own_sn20 hw))) (Or.inr (own_sn21 hw)))
  have f354 : Exa Z h350 a "com/example/answer_by_role/answerbyrole/engine/extraction/Candidate" := (Exa.wr W351 f347)
  refine own_putF C S349 (ty := (.object "com/example/answer_by_role/answerbyrole/analysis/label/Argument")) (host := "") (Or.inl (own_wd hw 82 rfl)) Via.refl f353 f354 (Or.inr ⟨(own_wd hw 83 rfl), rfl, rfl⟩) (own_wd hw 68 rfl) own_fd3 rfl rfl ge_a (by decide +kernel) ?_
  intro T355 h357 S356 W358
  have f359 : Fld Z h357 a "com/example/answer_by_role/answerbyrole/engine/extraction/Candidate" "argument" "Lcom/example/answer_by_role/answerbyrole/analysis/label/Argument;" .null := Fld.same W358 f353
  refine own_seg C S356 [(114, .aload_n 0, 1), (115, .iload 6, 2)] (by decide +kernel) 117 #[.val (.ref a), .val (.ref x1), .val (.int x2), .val (.int x3), .val (.ref x4), .val .null, .val (.int (0 : Int32)), .val (.ref x7)] [(.int (0 : Int32)), (.ref a)] rfl ?_
  have f360 : Fld Z h357 a "com/example/answer_by_role/answerbyrole/engine/extraction/Candidate" "fills" "Z" (.int (0 : Int32)) := (Fld.other W358 (Fld.other W351 (Fld.other W344 (Fld.other W337 (Fld.other W330 p_fills (Or.inr (own_sn22 hw))) (Or.inr (own_sn23 hw))) (Or.inr (own_sn24 hw))) (Or.inr (own_sn25 hw))) (Or.inr (own_sn26 hw)))
  have f361 : Exa Z h357 a "com/example/answer_by_role/answerbyrole/engine/extraction/Candidate" := (Exa.wr W358 f354)
  refine own_putF C S356 (ty := .boolean) (host := "") (Or.inl (own_wd hw 84 rfl)) Via.refl f360 f361 (Or.inr ⟨(own_wd hw 85 rfl), rfl, rfl⟩) (own_wd hw 68 rfl) own_fd4 rfl rfl ge_a (by decide +kernel) ?_
  intro T362 h364 S363 W365
  have f366 : Fld Z h364 a "com/example/answer_by_role/answerbyrole/engine/extraction/Candidate" "fills" "Z" (.int (0 : Int32)) := Fld.same W365 f360
  refine own_seg C S363 [(120, .aload_n 0, 1), (121, .aload 7, 2)] (by decide +kernel) 123 #[.val (.ref a), .val (.ref x1), .val (.int x2), .val (.int x3), .val (.ref x4), .val .null, .val (.int (0 : Int32)), .val (.ref x7)] [(.ref x7), (.ref a)] rfl ?_
  have f367 : Fld Z h364 a "com/example/answer_by_role/answerbyrole/engine/extraction/Candidate" "entityType" "Ljava/lang/String;" .null := (Fld.other W365 (Fld.other W358 (Fld.other W351 (Fld.other W344 (Fld.other W337 (Fld.other W330 p_entityType (Or.inr (own_sn27 hw))) (Or.inr (own_sn28 hw))) (Or.inr (own_sn29 hw))) (Or.inr (own_sn30 hw))) (Or.inr (own_sn31 hw))) (Or.inr (own_sn32 hw)))
  have f368 : Exa Z h364 a "com/example/answer_by_role/answerbyrole/engine/extraction/Candidate" := (Exa.wr W365 f361)
  refine own_putF C S363 (ty := (.object "java/lang/String")) (host := "") (Or.inl (own_wd hw 86 rfl)) Via.refl f367 f368 (Or.inr ⟨(own_wd hw 87 rfl), rfl, rfl⟩) (own_wd hw 68 rfl) own_fd1 rfl rfl ge_a (by decide +kernel) ?_
  intro T369 h371 S370 W372
  have f373 : Fld Z h371 a "com/example/answer_by_role/answerbyrole/engine/extraction/Candidate" "entityType" "Ljava/lang/String;" (.ref x7) := Fld.same W372 f367
  refine own_retV C S370 (by decide +kernel) (by decide) (by decide) ?_
  have f374 : Exa Z h371 a "com/example/answer_by_role/answerbyrole/engine/extraction/Candidate" := (Exa.wr W372 f368)
  have f375 : Fld Z h371 a "com/example/answer_by_role/answerbyrole/engine/extraction/Candidate" "position" "Lcom/example/answer_by_role/answerbyrole/engine/index/SentencePosition;" (.ref x1) := (Fld.other W372 (Fld.other W365 (Fld.other W358 (Fld.other W351 (Fld.other W344 (Fld.other W337 f331 (Or.inr (own_sn33 hw))) (Or.inr (own_sn34 hw))) (Or.inr (own_sn35 hw))) (Or.inr (own_sn36 hw))) (Or.inr (own_sn37 hw))) (Or.inr (own_sn38 hw)))
  have f376 : Fld Z h371 a "com/example/answer_by_role/answerbyrole/engine/extraction/Candidate" "first" "I" (.int x2) := (Fld.other W372 (Fld.other W365 (Fld.other W358 (Fld.other W351 (Fld.other W344 f338 (Or.inr (own_sn39 hw))) (Or.inr (own_sn40 hw))) (Or.inr (own_sn41 hw))) (Or.inr (own_sn42 hw))) (Or.inr (own_sn43 hw)))
  have f377 : Fld Z h371 a "com/example/answer_by_role/answerbyrole/engine/extraction/Candidate" "last" "I" (.int x3) := (Fld.other W372 (Fld.other W365 (Fld.other W358 (Fld.other W351 f345 (Or.inr (own_sn44 hw))) (Or.inr (own_sn45 hw))) (Or.inr (own_sn46 hw))) (Or.inr (own_sn47 hw)))
  have f378 : Fld Z h371 a "com/example/answer_by_role/answerbyrole/engine/extraction/Candidate" "text" "Ljava/lang/String;" (.ref x4) := (Fld.other W372 (Fld.other W365 (Fld.other W358 f352 (Or.inr (own_sn48 hw))) (Or.inr (own_sn49 hw))) (Or.inr (own_sn50 hw)))
  have f379 : Fld Z h371 a "com/example/answer_by_role/answerbyrole/engine/extraction/Candidate" "argument" "Lcom/example/answer_by_role/answerbyrole/analysis/label/Argument;" .null := (Fld.other W372 (Fld.other W365 f359 (Or.inr (own_sn51 hw))) (Or.inr (own_sn52 hw)))
  have f380 : Fld Z h371 a "com/example/answer_by_role/answerbyrole/engine/extraction/Candidate" "fills" "Z" (.int (0 : Int32)) := (Fld.other W372 f366 (Or.inr (own_sn53 hw)))
  exact ⟨rfl, ((((((((Keep.refl _ _).wr W330 (Or.inl (List.mem_of_getElem? (i := 0) rfl))).wr W337 (Or.inl (List.mem_of_getElem? (i := 0) rfl))).wr W344 (Or.inl (List.mem_of_getElem? (i := 0) rfl))).wr W351 (Or.inl (List.mem_of_getElem? (i := 0) rfl))).wr W358 (Or.inl (List.mem_of_getElem? (i := 0) rfl))).wr W365 (Or.inl (List.mem_of_getElem? (i := 0) rfl))).wr W372 (Or.inl (List.mem_of_getElem? (i := 0) rfl))), f374, f375, f376, f377, f378, f379, f380, f373⟩
set_option maxRecDepth 65536 in
set_option maxHeartbeats 40000000 in
theorem own_arl (l : Launch) (Z : State) (a0 : Array Value) (hw : ∀ d ∈ tables_1, d.before a0 Z = true) (a : Addr) (y : Addr) (h0 : Heap) (n0 : Nat) (z0 : n0 ≤ h0.size) (pF : Fld Z h0 a "com/example/answer_by_role/answerbyrole/analysis/label/Argument" "label" "Ljava/lang/String;" (.ref y)) :
    own_Met l Z (⟨"com/example/answer_by_role/answerbyrole/analysis/label/Argument", "label", "()Ljava/lang/String;"⟩ : MethodName) prog_4_method_7_code 1 (some (.object "java/lang/String")) ({ frames := 0, cells := 0, slots := 0, locals := 0 } : Room) n0 #[(.ref a)] h0 (fun v h => v = some (.ref y) ∧ h = h0) := by
  refine own_met (by decide +kernel) #[.val (.ref a)] (fun m => by first | (simp [entryFrame, mkF, argsToLocals, Value.category]; done) | rfl) ?_
  intro p e s m below meth c T0 C S0
  refine own_seg C S0 [(0, .aload_n 0, 1)] (by decide +kernel) 1 #[.val (.ref a)] [(.ref a)] rfl ?_
  refine own_getF C S0 (host := "") (Or.inl (own_wd hw 65 rfl)) Via.refl pF (by decide +kernel) ?_
  intro T381 S382
  refine own_retA C S382 rfl rfl (by decide +kernel) (by decide) (by decide) ?_
  exact ⟨rfl, rfl⟩
theorem own_pd1 : parseMethodDescriptor "()Ljava/lang/String;" = some ⟨[], (some (.object "java/lang/String"))⟩ := by decide +kernel
set_option maxRecDepth 65536 in
set_option maxHeartbeats 40000000 in
theorem own_lab1 (l : Launch) (Z : State) (a0 : Array Value) (hw : ∀ d ∈ tables_1, d.before a0 Z = true) (a : Addr) (b : Addr) (y : Addr) (h0 : Heap) (n0 : Nat) (z0 : n0 ≤ h0.size) (pE : Exa Z h0 a "com/example/answer_by_role/answerbyrole/engine/extraction/Candidate") (pf : Fld Z h0 a "com/example/answer_by_role/answerbyrole/engine/extraction/Candidate" "fills" "Z" (.int (1 : Int32))) (pa : Fld Z h0 a "com/example/answer_by_role/answerbyrole/engine/extraction/Candidate" "argument" "Lcom/example/answer_by_role/answerbyrole/analysis/label/Argument;" (.ref b)) (pE2 : Exa Z h0 b "com/example/answer_by_role/answerbyrole/analysis/label/Argument") (pl : Fld Z h0 b "com/example/answer_by_role/answerbyrole/analysis/label/Argument" "label" "Ljava/lang/String;" (.ref y)) :
    own_Met l Z (⟨"com/example/answer_by_role/answerbyrole/engine/extraction/Candidate", "label", "()Ljava/lang/String;"⟩ : MethodName) prog_19_method_2_code 2 (some (.object "java/lang/String")) ({ frames := 1, cells := 0, slots := 0, locals := 12 } : Room) n0 #[(.ref a)] h0 (fun v h => v = some (.ref y) ∧ h = h0) := by
  refine own_met (by decide +kernel) #[.val (.ref a), .unset] (fun m => by first | (simp [entryFrame, mkF, argsToLocals, Value.category]; done) | rfl) ?_
  intro p e s m below meth c T0 C S0
  refine own_seg C S0 [(0, .aload_n 0, 1)] (by decide +kernel) 1 #[.val (.ref a), .unset] [(.ref a)] rfl ?_
  refine own_getF C S0 (host := "") (Or.inl (own_wd hw 84 rfl)) Via.refl pf (by decide +kernel) ?_
  intro T383 S384
  refine own_if C S384 (q := .ne) (o := 10) (by decide +kernel) 14 (by decide) (by decide) (fun (q385 : ¬ (1 : Int32) = (0 : Int32)) => ?_) (fun (hq : (1 : Int32) = (0 : Int32)) => False.elim (absurd hq (by decide)))
  refine own_seg C S384 [(14, .aload_n 0, 1)] (by decide +kernel) 15 #[.val (.ref a), .unset] [(.ref a)] rfl ?_
  refine own_getF C S384 (host := "") (Or.inl (own_wd hw 82 rfl)) Via.refl pa (by decide +kernel) ?_
  intro T386 S387
  refine own_callV C S387 (own_wd hw 93 rfl) (own_wd hw 94 rfl) (own_wd hw 96 rfl) (own_wd hw 96 rfl) (own_wd hw 95 rfl) (by decide) (own_Met.pay (own_arl l Z a0 hw b y h0 n0 z0 pl) C 0 (own_wd hw 97 rfl) (own_wd hw 55 rfl) (by decide) (by decide)) (fun _ _ _ q => q.2) pE2 [] [] rfl own_pd1 rfl rfl rfl (Nat.le_of_ble_eq_true rfl) (by decide) (by decide) (by decide +kernel) ?_
  rintro T389 h390 v391 L392 S393 ⟨⟨rfl, e388⟩, -⟩
  replace S393 : own_S p l e ({ frames := 1, cells := 0, slots := 0, locals := 12 } : Room) s m #[(.ref a)] below meth c n0 T389 h390 0 0 := S393
  rw [e388] at S393; clear e388
  show own_Go p e below s n0 _ _ _ T389 (mkF m 21 #[.val (.ref a), .unset] [(.ref y)])
  refine own_seg C S393 [(21, .astore_n 1, 1), (22, .goto 8, 3), (30, .aload_n 1, 1)] (by decide +kernel) 31 #[.val (.ref a), .val (.ref y)] [(.ref y)] rfl ?_
  refine own_retA C S393 rfl rfl (by decide +kernel) (by decide) (by decide) ?_
  exact ⟨rfl, rfl⟩
set_option maxRecDepth 65536 in
set_option maxHeartbeats 40000000 in
theorem own_lab2 (l : Launch) (Z : State) (a0 : Array Value) (hw : ∀ d ∈ tables_1, d.before a0 Z = true) (a : Addr) (b : Addr) (y : Addr) (h0 : Heap) (n0 : Nat) (z0 : n0 ≤ h0.size) (pE : Exa Z h0 a "com/example/answer_by_role/answerbyrole/engine/extraction/Candidate") (pf : Fld Z h0 a "com/example/answer_by_role/answerbyrole/engine/extraction/Candidate" "fills" "Z" (.int (0 : Int32))) (pa : Fld Z h0 a "com/example/answer_by_role/answerbyrole/engine/extraction/Candidate" "argument" "Lcom/example/answer_by_role/answerbyrole/analysis/label/Argument;" (.ref b)) (pE2 : Exa Z h0 b "com/example/answer_by_role/answerbyrole/analysis/label/Argument") (pl : Fld Z h0 b "com/example/answer_by_role/answerbyrole/analysis/label/Argument" "label" "Ljava/lang/String;" (.ref y)) (pe : Fld Z h0 a "com/example/answer_by_role/answerbyrole/engine/extraction/Candidate" "entityType" "Ljava/lang/String;" .null) :
    own_Met l Z (⟨"com/example/answer_by_role/answerbyrole/engine/extraction/Candidate", "label", "()Ljava/lang/String;"⟩ : MethodName) prog_19_method_2_code 2 (some (.object "java/lang/String")) ({ frames := 1, cells := 0, slots := 0, locals := 12 } : Room) n0 #[(.ref a)] h0 (fun v h => v = some (.ref y) ∧ h = h0) := by
  refine own_met (by decide +kernel) #[.val (.ref a), .unset] (fun m => by first | (simp [entryFrame, mkF, argsToLocals, Value.category]; done) | rfl) ?_
  intro p e s m below meth c T0 C S0
  refine own_seg C S0 [(0, .aload_n 0, 1)] (by decide +kernel) 1 #[.val (.ref a), .unset] [(.ref a)] rfl ?_
  refine own_getF C S0 (host := "") (Or.inl (own_wd hw 84 rfl)) Via.refl pf (by decide +kernel) ?_
  intro T394 S395
  refine own_if C S395 (q := .ne) (o := 10) (by decide +kernel) 14 (by decide) (by decide) (fun (hq : ¬ (0 : Int32) = (0 : Int32)) => False.elim (absurd hq (by decide))) (fun (q396 : (0 : Int32) = (0 : Int32)) => ?_)
  refine own_seg C S395 [(7, .aload_n 0, 1)] (by decide +kernel) 8 #[.val (.ref a), .unset] [(.ref a)] rfl ?_
  refine own_getF C S395 (host := "") (Or.inl (own_wd hw 86 rfl)) Via.refl pe (by decide +kernel) ?_
  intro T397 S398
  refine own_seg C S398 [(11, .ifnonnull 14, 3), (14, .aload_n 0, 1)] (by decide +kernel) 15 #[.val (.ref a), .unset] [(.ref a)] rfl ?_
  refine own_getF C S398 (host := "") (Or.inl (own_wd hw 82 rfl)) Via.refl pa (by decide +kernel) ?_
  intro T399 S400
  refine own_callV C S400 (own_wd hw 93 rfl) (own_wd hw 94 rfl) (own_wd hw 96 rfl) (own_wd hw 96 rfl) (own_wd hw 95 rfl) (by decide) (own_Met.pay (own_arl l Z a0 hw b y h0 n0 z0 pl) C 0 (own_wd hw 97 rfl) (own_wd hw 55 rfl) (by decide) (by decide)) (fun _ _ _ q => q.2) pE2 [] [] rfl own_pd1 rfl rfl rfl (Nat.le_of_ble_eq_true rfl) (by decide) (by decide) (by decide +kernel) ?_
  rintro T402 h403 v404 L405 S406 ⟨⟨rfl, e401⟩, -⟩
  replace S406 : own_S p l e ({ frames := 1, cells := 0, slots := 0, locals := 12 } : Room) s m #[(.ref a)] below meth c n0 T402 h403 0 0 := S406
  rw [e401] at S406; clear e401
  show own_Go p e below s n0 _ _ _ T402 (mkF m 21 #[.val (.ref a), .unset] [(.ref y)])
  refine own_seg C S406 [(21, .astore_n 1, 1), (22, .goto 8, 3), (30, .aload_n 1, 1)] (by decide +kernel) 31 #[.val (.ref a), .val (.ref y)] [(.ref y)] rfl ?_
  refine own_retA C S406 rfl rfl (by decide +kernel) (by decide) (by decide) ?_
  exact ⟨rfl, rfl⟩
set_option maxRecDepth 65536 in
set_option maxHeartbeats 40000000 in
theorem own_lab3 (l : Launch) (Z : State) (a0 : Array Value) (hw : ∀ d ∈ tables_1, d.before a0 Z = true) (a : Addr) (y : Addr) (h0 : Heap) (n0 : Nat) (z0 : n0 ≤ h0.size) (pE : Exa Z h0 a "com/example/answer_by_role/answerbyrole/engine/extraction/Candidate") (pf : Fld Z h0 a "com/example/answer_by_role/answerbyrole/engine/extraction/Candidate" "fills" "Z" (.int (0 : Int32))) (pe : Fld Z h0 a "com/example/answer_by_role/answerbyrole/engine/extraction/Candidate" "entityType" "Ljava/lang/String;" (.ref y)) :
    own_Met l Z (⟨"com/example/answer_by_role/answerbyrole/engine/extraction/Candidate", "label", "()Ljava/lang/String;"⟩ : MethodName) prog_19_method_2_code 2 (some (.object "java/lang/String")) ({ frames := 1, cells := 0, slots := 0, locals := 12 } : Room) n0 #[(.ref a)] h0 (fun v h => v = some (.ref y) ∧ h = h0) := by
  refine own_met (by decide +kernel) #[.val (.ref a), .unset] (fun m => by first | (simp [entryFrame, mkF, argsToLocals, Value.category]; done) | rfl) ?_
  intro p e s m below meth c T0 C S0
  refine own_seg C S0 [(0, .aload_n 0, 1)] (by decide +kernel) 1 #[.val (.ref a), .unset] [(.ref a)] rfl ?_
  refine own_getF C S0 (host := "") (Or.inl (own_wd hw 84 rfl)) Via.refl pf (by decide +kernel) ?_
  intro T407 S408
  refine own_if C S408 (q := .ne) (o := 10) (by decide +kernel) 14 (by decide) (by decide) (fun (hq : ¬ (0 : Int32) = (0 : Int32)) => False.elim (absurd hq (by decide))) (fun (q409 : (0 : Int32) = (0 : Int32)) => ?_)
  refine own_seg C S408 [(7, .aload_n 0, 1)] (by decide +kernel) 8 #[.val (.ref a), .unset] [(.ref a)] rfl ?_
  refine own_getF C S408 (host := "") (Or.inl (own_wd hw 86 rfl)) Via.refl pe (by decide +kernel) ?_
  intro T410 S411
  refine own_seg C S411 [(11, .ifnonnull 14, 3), (25, .aload_n 0, 1)] (by decide +kernel) 26 #[.val (.ref a), .unset] [(.ref a)] rfl ?_
  refine own_getF C S411 (host := "") (Or.inl (own_wd hw 86 rfl)) Via.refl pe (by decide +kernel) ?_
  intro T412 S413
  refine own_seg C S413 [(29, .astore_n 1, 1), (30, .aload_n 1, 1)] (by decide +kernel) 31 #[.val (.ref a), .val (.ref y)] [(.ref y)] rfl ?_
  refine own_retA C S413 rfl rfl (by decide +kernel) (by decide) (by decide) ?_
  exact ⟨rfl, rfl⟩
set_option maxRecDepth 65536 in
set_option maxHeartbeats 40000000 in
theorem own_eqs (l : Launch) (Z : State) (a0 : Array Value) (hw : ∀ d ∈ tables_1, d.before a0 Z = true) (a : Addr) (h0 : Heap) (n0 : Nat) (z0 : n0 ≤ h0.size) :
    own_Met l Z (⟨"java/lang/String", "equals", "(Ljava/lang/Object;)Z"⟩ : MethodName) jdk_42_method_66_code 3 (some .boolean) ({ frames := 0, cells := 0, slots := 0, locals := 0 } : Room) n0 #[(.ref a), (.ref a)] h0 (fun v h => v = some (.int 1) ∧ h = h0) := by
  refine own_met (by decide +kernel) #[.val (.ref a), .val (.ref a), .unset] (fun m => by first | (simp [entryFrame, mkF, argsToLocals, Value.category]; done) | rfl) ?_
  intro p e s m below meth c T0 C S0
  refine own_seg C S0 [(0, .aload_n 0, 1), (1, .aload_n 1, 1)] (by decide +kernel) 2 #[.val (.ref a), .val (.ref a), .unset] [(.ref a), (.ref a)] rfl ?_
  refine own_acmp C S0 (q := .ne) (o := 5) rfl rfl (by decide +kernel) 7 (by decide) (by decide) (fun (hq : ¬ ((.ref a) : Value) = (.ref a)) => False.elim (hq rfl)) (fun (q414 : ((.ref a) : Value) = (.ref a)) => ?_)
  refine own_seg C S0 [(5, .iconst 1, 1)] (by decide +kernel) 6 #[.val (.ref a), .val (.ref a), .unset] [(.int (1 : Int32))] rfl ?_
  refine own_retZ C S0 (by decide +kernel) (by decide) (by decide) (by decide) ?_
  exact ⟨rfl, rfl⟩
theorem own_fd5 : parseFieldDescriptor "B" = some .byte := by decide +kernel
theorem own_fd6 : parseFieldDescriptor "[B" = some (.array .byte) := by decide +kernel
theorem own_hws : ∀ d ∈ StrChars.Road.words, d ∈ tables_1 := by decide +kernel
theorem own_pd2 : parseMethodDescriptor "([C)V" = some ⟨[(.array .char)], none⟩ := by decide +kernel
theorem own_pd3 : parseMethodDescriptor "(II)I" = some ⟨[.int, .int], (some .int)⟩ := by decide +kernel
theorem own_pd4 : parseMethodDescriptor "(III)V" = some ⟨[.int, .int, .int], none⟩ := by decide +kernel
theorem own_pd5 : parseMethodDescriptor "(IILjava/lang/String;)V" = some ⟨[.int, .int, (.object "java/lang/String")], none⟩ := by decide +kernel
theorem own_pd6 : parseMethodDescriptor "(Lcom/example/answer_by_role/answerbyrole/engine/index/SentencePosition;IILjava/lang/String;Lcom/example/answer_by_role/answerbyrole/analysis/label/Argument;ZLjava/lang/String;)V" = some ⟨[(.object "com/example/answer_by_role/answerbyrole/engine/index/SentencePosition"), .int, .int, (.object "java/lang/String"), (.object "com/example/answer_by_role/answerbyrole/analysis/label/Argument"), .boolean, (.object "java/lang/String")], none⟩ := by decide +kernel
theorem own_hln : ∀ d ∈ StrChars.Road.wordsLen, d ∈ tables_1 := by decide +kernel
theorem own_pd7 : parseMethodDescriptor "()I" = some ⟨[], (some .int)⟩ := by decide +kernel
theorem own_pd8 : parseMethodDescriptor "(Ljava/lang/Object;)Z" = some ⟨[(.object "java/lang/Object")], (some .boolean)⟩ := by decide +kernel
set_option maxRecDepth 65536 in
set_option maxHeartbeats 40000000 in
theorem own_law (l : Launch) (Z : State) (a0 : Array Value) (hw : ∀ d ∈ tables_1, d.before a0 Z = true) (x1 : Int32) (x2 : Int32) (x3 : Int32) (x4 : Int32) (x5 : Int32) (x6 : Int32) (G1 : Int32) (G3 : Value) (h0 : Heap) (n0 : Nat) (z0 : n0 ≤ h0.size) (X00 : Old Z n0 h0) (O2 : Sta Z Z.heap "java/lang/String" "COMPACT_STRINGS" "Z" (.int G1)) (O4 : Sta Z Z.heap "jdk/internal/util/Preconditions" "SIOOBE_FORMATTER" "Ljava/util/function/BiFunction;" G3) (P5 : ¬ G1 = (0 : Int32)) (rG3 : G3.isRef = true) :
    own_Met l Z x code maxLocals ret room_1 n0 #[(.int x1), (.int x2), (.int x3), (.int x4), (.int x5), (.int x6)] h0 (fun v h => v = some (.int 1)) := by
  refine own_met (by decide +kernel) #[.val (.int x1), .val (.int x2), .val (.int x3), .val (.int x4), .val (.int x5), .val (.int x6), .unset, .unset, .unset, .unset, .unset, .unset, .unset, .unset, .unset, .unset, .unset, .unset, .unset, .unset, .unset] (fun m => by first | (simp [entryFrame, mkF, argsToLocals, Value.category, maxLocals]; done) | rfl) ?_
  intro p e s m below meth c T0 C S0
  have J : ∀ (T415 : State) (f : Int32) (en : Int32) (ar : Int32), own_S p l e room_1 s m #[(.int x1), (.int x2), (.int x3), (.int x4), (.int x5), (.int x6)] below meth c n0 T415 h0 0 0 → (f = (1 : Int32) ∧ en = (1 : Int32) ∧ ar = (1 : Int32)) ∨ (f = (1 : Int32) ∧ en = (0 : Int32) ∧ ar = (1 : Int32)) ∨ (f = (0 : Int32) ∧ en = (0 : Int32) ∧ ar = (1 : Int32)) ∨ (f = (0 : Int32) ∧ en = (1 : Int32) ∧ ar = (1 : Int32)) ∨ (f = (0 : Int32) ∧ en = (1 : Int32) ∧ ar = (0 : Int32)) → own_Go p e below s n0 (fun v h => v = some (.int 1)) room_1.cells room_1.slots T415 (mkF m 49 #[.val (.int x1), .val (.int x2), .val (.int x3), .val (.int x4), .val (.int x5), .val (.int x6), .val (.int f), .val (.int en), .val (.int ar), .unset, .unset, .unset, .unset, .unset, .unset, .unset, .unset, .unset, .unset, .unset, .unset] []) := by
    intro T415 f en ar S416 hc
    refine own_seg C S416 [(49, .iconst 2, 1)] (by decide +kernel) 50 #[.val (.int x1), .val (.int x2), .val (.int x3), .val (.int x4), .val (.int x5), .val (.int x6), .val (.int f), .val (.int en), .val (.int ar), .unset, .unset, .unset, .unset, .unset, .unset, .unset, .unset, .unset, .unset, .unset, .unset] [(.int (2 : Int32))] rfl ?_
    refine own_newP C S416 (aty := .char) (own_wd hw 0 rfl) (by decide +kernel) (by decide) 2 (by decide) (by decide) (by decide) (by decide) ?_
    intro T417 h419 a420 k421 S418 g422 E423 f424
    have f425 : Arv Z h419 a420 k421 .char (2 : Int32) ([(.int (0 : Int32)), (.int (0 : Int32))]) (.int (0 : Int32)) := Arv.pad f424 (pad_rep [] (.int (0 : Int32)) 2)
    refine own_seg C S418 [(52, .astore 9, 2), (54, .aload 9, 2), (56, .iconst 0, 1), (57, .iload_n 1, 1), (58, .sipush 255, 3), (61, .iand, 1), (62, .i2c, 1)] (by decide +kernel) 63 #[.val (.int x1), .val (.int x2), .val (.int x3), .val (.int x4), .val (.int x5), .val (.int x6), .val (.int f), .val (.int en), .val (.int ar), .val (.ref a420), .unset, .unset, .unset, .unset, .unset, .unset, .unset, .unset, .unset, .unset, .unset] [(.int ((x2 &&& (255 : Int32)).toUInt32.toUInt16.toUInt32.toInt32)), (.int (0 : Int32)), (.ref a420)] rfl ?_
    have g426 : n0 ≤ a420 := by rw [g422]; exact z0
    refine own_castore C S418 f425 ⟨(by decide), (by decide)⟩ 0 rfl (Nat.le_of_ble_eq_true rfl) (x2 &&& (255 : Int32)) (own_mask255 _) g426 (by decide +kernel) ?_
    intro T427 h429 S428 W430 f431
    have f432 : Arv Z h429 a420 k421 .char (2 : Int32) ([(.int (x2 &&& (255 : Int32))), (.int (0 : Int32))]) (.int (0 : Int32)) := f431
    refine own_seg C S428 [(64, .aload 9, 2), (66, .iconst 1, 1), (67, .iload_n 1, 1), (68, .bipush 8, 2), (70, .iushr, 1), (71, .sipush 255, 3), (74, .iand, 1), (75, .i2c, 1)] (by decide +kernel) 76 #[.val (.int x1), .val (.int x2), .val (.int x3), .val (.int x4), .val (.int x5), .val (.int x6), .val (.int f), .val (.int en), .val (.int ar), .val (.ref a420), .unset, .unset, .unset, .unset, .unset, .unset, .unset, .unset, .unset, .unset, .unset] [(.int (((Jvm.Free.XT.ushr x2 (8 : Int32)) &&& (255 : Int32)).toUInt32.toUInt16.toUInt32.toInt32)), (.int (1 : Int32)), (.ref a420)] rfl ?_
    refine own_castore C S428 f432 ⟨(by decide), (by decide)⟩ 1 rfl (Nat.le_of_ble_eq_true rfl) ((Jvm.Free.XT.ushr x2 (8 : Int32)) &&& (255 : Int32)) (own_mask255 _) g426 (by decide +kernel) ?_
    intro T433 h435 S434 W436 f437
    have f438 : Arv Z h435 a420 k421 .char (2 : Int32) ([(.int (x2 &&& (255 : Int32))), (.int ((Jvm.Free.XT.ushr x2 (8 : Int32)) &&& (255 : Int32)))]) (.int (0 : Int32)) := f437
    refine own_new C S434 (own_wd hw 1 rfl) (own_wd hw 2 rfl) (own_wd hw 3 rfl) (by decide +kernel) (by decide) (by decide) ?_
    intro T439 h441 a442 S440 g443 E444 x445 D446
    have f447 : Fld Z h441 a442 "java/lang/String" "coder" "B" (.int (0 : Int32)) := D446 (ty := .byte) (Or.inr (own_wd hw 27 rfl)) own_fd5
    have f448 : Fld Z h441 a442 "java/lang/String" "value" "[B" .null := D446 (ty := (.array .byte)) (Or.inr (own_wd hw 29 rfl)) own_fd6
    refine own_seg C S440 [(80, .dup, 1), (81, .aload 9, 2)] (by decide +kernel) 83 #[.val (.int x1), .val (.int x2), .val (.int x3), .val (.int x4), .val (.int x5), .val (.int x6), .val (.int f), .val (.int en), .val (.int ar), .val (.ref a420), .unset, .unset, .unset, .unset, .unset, .unset, .unset, .unset, .unset, .unset, .unset] [(.ref a420), (.ref a442), (.ref a442)] rfl ?_
    have hp449 : ∀ c ∈ ([(x2 &&& (255 : Int32)), ((Jvm.Free.XT.ushr x2 (8 : Int32)) &&& (255 : Int32))] : List Int32), ¬ c < 0 ∧ ¬ (255 : Int32) < c := by
      intro c hc; simp only [List.mem_cons, List.not_mem_nil, or_false] at hc
      rcases hc with rfl | rfl
      · exact own_and255 _
      · exact own_and255 _
    have f450 : n0 ≤ h441.size := (Nat.le_trans (by rw [W436.size]; exact (by rw [W430.size]; exact (Nat.le_trans z0 E423.1))) E444.1)
    have f451 : n0 ≤ h435.size := (by rw [W436.size]; exact (by rw [W430.size]; exact (Nat.le_trans z0 E423.1)))
    have g452 : n0 ≤ a442 := by rw [g443]; exact f451
    have f453 : Arv Z h441 a420 k421 .char (2 : Int32) ([(.int (x2 &&& (255 : Int32))), (.int ((Jvm.Free.XT.ushr x2 (8 : Int32)) &&& (255 : Int32)))]) (.int (0 : Int32)) := (f438.ext E444)
    have f454 : Old Z n0 h441 := ((((X00.ext E423).wr W430 g426).wr W436 g426).ext E444)
    refine own_callI C S440 rfl (own_wd hw 4 rfl) (own_wd hw 5 rfl) (own_wd hw 6 rfl) (by decide) (StrChars.Road.backV (W := 1) C.2.2.2.2.2.2.2 (fun d hd => hw d (own_hws d hd)) (kI := 4) (own_wd hw 2 rfl) (cs := ([(x2 &&& (255 : Int32)), ((Jvm.Free.XT.ushr x2 (8 : Int32)) &&& (255 : Int32))] : List Int32)) (bs := (([(x2 &&& (255 : Int32)), ((Jvm.Free.XT.ushr x2 (8 : Int32)) &&& (255 : Int32))] : List Int32)).map (fun c => c.toInt8.toInt32)) (n := 2) g452 f450 x445 f448 f447 f453 (O2.ext f454.2) P5 rfl rfl (by decide) (by decide) hp449 rfl (by decide) (by decide)) (fun _ _ _ q => q.2.1) [(.ref a420)] [(.ref a442)] rfl own_pd2 rfl rfl rfl (Nat.le_of_ble_eq_true rfl) (by decide) (by decide) (by decide +kernel) ?_
    rintro T465 h466 v467 L468 S469 ⟨rfl, -, K455, x456, f457, t458, k459, g460, g461, g462, f463, f464⟩
    replace S469 : own_S p l e room_1 s m #[(.int x1), (.int x2), (.int x3), (.int x4), (.int x5), (.int x6)] below meth c n0 T465 h466 3 8 := S469
    have hcd470 : StrChars.Road.CodA ([(x2 &&& (255 : Int32)), ((Jvm.Free.XT.ushr x2 (8 : Int32)) &&& (255 : Int32))] : List Int32) 0 (2 : Int32) (((([(x2 &&& (255 : Int32)), ((Jvm.Free.XT.ushr x2 (8 : Int32)) &&& (255 : Int32))] : List Int32)).map (fun c => c.toInt8.toInt32)).map Value.int) := StrChars.Road.codOf (n := 2) rfl (fun c hc => (hp449 c hc).2)
    show own_Go p e below s n0 _ _ _ T465 (mkF m 86 #[.val (.int x1), .val (.int x2), .val (.int x3), .val (.int x4), .val (.int x5), .val (.int x6), .val (.int f), .val (.int en), .val (.int ar), .val (.ref a420), .unset, .unset, .unset, .unset, .unset, .unset, .unset, .unset, .unset, .unset, .unset] [(.ref a442)])
    refine own_seg C S469 [(86, .astore 10, 2), (88, .iconst 3, 1)] (by decide +kernel) 89 #[.val (.int x1), .val (.int x2), .val (.int x3), .val (.int x4), .val (.int x5), .val (.int x6), .val (.int f), .val (.int en), .val (.int ar), .val (.ref a420), .val (.ref a442), .unset, .unset, .unset, .unset, .unset, .unset, .unset, .unset, .unset, .unset] [(.int (3 : Int32))] rfl ?_
    refine own_newP C S469 (aty := .char) (own_wd hw 0 rfl) (by decide +kernel) (by decide) 3 (by decide) (by decide) (by decide) (by decide) ?_
    intro T471 h473 a474 k475 S472 g476 E477 f478
    have f479 : Arv Z h473 a474 k475 .char (3 : Int32) ([(.int (0 : Int32)), (.int (0 : Int32)), (.int (0 : Int32))]) (.int (0 : Int32)) := Arv.pad f478 (pad_rep [] (.int (0 : Int32)) 3)
    refine own_seg C S472 [(91, .astore 11, 2), (93, .aload 11, 2), (95, .iconst 0, 1), (96, .iload_n 2, 1), (97, .sipush 255, 3), (100, .iand, 1), (101, .i2c, 1)] (by decide +kernel) 102 #[.val (.int x1), .val (.int x2), .val (.int x3), .val (.int x4), .val (.int x5), .val (.int x6), .val (.int f), .val (.int en), .val (.int ar), .val (.ref a420), .val (.ref a442), .val (.ref a474), .unset, .unset, .unset, .unset, .unset, .unset, .unset, .unset, .unset] [(.int ((x3 &&& (255 : Int32)).toUInt32.toUInt16.toUInt32.toInt32)), (.int (0 : Int32)), (.ref a474)] rfl ?_
    have f480 : n0 ≤ h466.size := (Nat.le_trans f450 K455.1)
    have g481 : n0 ≤ a474 := by rw [g476]; exact f480
    refine own_castore C S472 f479 ⟨(by decide), (by decide)⟩ 0 rfl (Nat.le_of_ble_eq_true rfl) (x3 &&& (255 : Int32)) (own_mask255 _) g481 (by decide +kernel) ?_
    intro T482 h484 S483 W485 f486
    have f487 : Arv Z h484 a474 k475 .char (3 : Int32) ([(.int (x3 &&& (255 : Int32))), (.int (0 : Int32)), (.int (0 : Int32))]) (.int (0 : Int32)) := f486
    refine own_seg C S483 [(103, .aload 11, 2), (105, .iconst 1, 1), (106, .iload_n 2, 1), (107, .bipush 8, 2), (109, .iushr, 1), (110, .sipush 255, 3), (113, .iand, 1), (114, .i2c, 1)] (by decide +kernel) 115 #[.val (.int x1), .val (.int x2), .val (.int x3), .val (.int x4), .val (.int x5), .val (.int x6), .val (.int f), .val (.int en), .val (.int ar), .val (.ref a420), .val (.ref a442), .val (.ref a474), .unset, .unset, .unset, .unset, .unset, .unset, .unset, .unset, .unset] [(.int (((Jvm.Free.XT.ushr x3 (8 : Int32)) &&& (255 : Int32)).toUInt32.toUInt16.toUInt32.toInt32)), (.int (1 : Int32)), (.ref a474)] rfl ?_
    refine own_castore C S483 f487 ⟨(by decide), (by decide)⟩ 1 rfl (Nat.le_of_ble_eq_true rfl) ((Jvm.Free.XT.ushr x3 (8 : Int32)) &&& (255 : Int32)) (own_mask255 _) g481 (by decide +kernel) ?_
    intro T488 h490 S489 W491 f492
    have f493 : Arv Z h490 a474 k475 .char (3 : Int32) ([(.int (x3 &&& (255 : Int32))), (.int ((Jvm.Free.XT.ushr x3 (8 : Int32)) &&& (255 : Int32))), (.int (0 : Int32))]) (.int (0 : Int32)) := f492
    refine own_seg C S489 [(116, .aload 11, 2), (118, .iconst 2, 1), (119, .iload_n 2, 1), (120, .bipush 16, 2), (122, .iushr, 1), (123, .sipush 255, 3), (126, .iand, 1), (127, .i2c, 1)] (by decide +kernel) 128 #[.val (.int x1), .val (.int x2), .val (.int x3), .val (.int x4), .val (.int x5), .val (.int x6), .val (.int f), .val (.int en), .val (.int ar), .val (.ref a420), .val (.ref a442), .val (.ref a474), .unset, .unset, .unset, .unset, .unset, .unset, .unset, .unset, .unset] [(.int (((Jvm.Free.XT.ushr x3 (16 : Int32)) &&& (255 : Int32)).toUInt32.toUInt16.toUInt32.toInt32)), (.int (2 : Int32)), (.ref a474)] rfl ?_
    refine own_castore C S489 f493 ⟨(by decide), (by decide)⟩ 2 rfl (Nat.le_of_ble_eq_true rfl) ((Jvm.Free.XT.ushr x3 (16 : Int32)) &&& (255 : Int32)) (own_mask255 _) g481 (by decide +kernel) ?_
    intro T494 h496 S495 W497 f498
    have f499 : Arv Z h496 a474 k475 .char (3 : Int32) ([(.int (x3 &&& (255 : Int32))), (.int ((Jvm.Free.XT.ushr x3 (8 : Int32)) &&& (255 : Int32))), (.int ((Jvm.Free.XT.ushr x3 (16 : Int32)) &&& (255 : Int32)))]) (.int (0 : Int32)) := f498
    refine own_new C S495 (own_wd hw 1 rfl) (own_wd hw 2 rfl) (own_wd hw 3 rfl) (by decide +kernel) (by decide) (by decide) ?_
    intro T500 h502 a503 S501 g504 E505 x506 D507
    have f508 : Fld Z h502 a503 "java/lang/String" "coder" "B" (.int (0 : Int32)) := D507 (ty := .byte) (Or.inr (own_wd hw 27 rfl)) own_fd5
    have f509 : Fld Z h502 a503 "java/lang/String" "value" "[B" .null := D507 (ty := (.array .byte)) (Or.inr (own_wd hw 29 rfl)) own_fd6
    refine own_seg C S501 [(132, .dup, 1), (133, .aload 11, 2)] (by decide +kernel) 135 #[.val (.int x1), .val (.int x2), .val (.int x3), .val (.int x4), .val (.int x5), .val (.int x6), .val (.int f), .val (.int en), .val (.int ar), .val (.ref a420), .val (.ref a442), .val (.ref a474), .unset, .unset, .unset, .unset, .unset, .unset, .unset, .unset, .unset] [(.ref a474), (.ref a503), (.ref a503)] rfl ?_
    have hp510 : ∀ c ∈ ([(x3 &&& (255 : Int32)), ((Jvm.Free.XT.ushr x3 (8 : Int32)) &&& (255 : Int32)), ((Jvm.Free.XT.ushr x3 (16 : Int32)) &&& (255 : Int32))] : List Int32), ¬ c < 0 ∧ ¬ (255 : Int32) < c := by
      intro c hc; simp only [List.mem_cons, List.not_mem_nil, or_false] at hc
      rcases hc with rfl | rfl | rfl
      · exact own_and255 _
      · exact own_and255 _
      · exact own_and255 _
    have f511 : n0 ≤ h502.size := (Nat.le_trans (by rw [W497.size]; exact (by rw [W491.size]; exact (by rw [W485.size]; exact (Nat.le_trans f480 E477.1)))) E505.1)
    have f512 : n0 ≤ h496.size := (by rw [W497.size]; exact (by rw [W491.size]; exact (by rw [W485.size]; exact (Nat.le_trans f480 E477.1))))
    have g513 : n0 ≤ a503 := by rw [g504]; exact f512
    have f514 : Arv Z h502 a474 k475 .char (3 : Int32) ([(.int (x3 &&& (255 : Int32))), (.int ((Jvm.Free.XT.ushr x3 (8 : Int32)) &&& (255 : Int32))), (.int ((Jvm.Free.XT.ushr x3 (16 : Int32)) &&& (255 : Int32)))]) (.int (0 : Int32)) := (f499.ext E505)
    have f515 : Old Z n0 h502 := ((((((f454.keep K455 (allS g452 all0)).ext E477).wr W485 g481).wr W491 g481).wr W497 g481).ext E505)
    refine own_callI C S501 rfl (own_wd hw 4 rfl) (own_wd hw 5 rfl) (own_wd hw 6 rfl) (by decide) (StrChars.Road.backV (W := 1) C.2.2.2.2.2.2.2 (fun d hd => hw d (own_hws d hd)) (kI := 4) (own_wd hw 2 rfl) (cs := ([(x3 &&& (255 : Int32)), ((Jvm.Free.XT.ushr x3 (8 : Int32)) &&& (255 : Int32)), ((Jvm.Free.XT.ushr x3 (16 : Int32)) &&& (255 : Int32))] : List Int32)) (bs := (([(x3 &&& (255 : Int32)), ((Jvm.Free.XT.ushr x3 (8 : Int32)) &&& (255 : Int32)), ((Jvm.Free.XT.ushr x3 (16 : Int32)) &&& (255 : Int32))] : List Int32)).map (fun c => c.toInt8.toInt32)) (n := 3) g513 f511 x506 f509 f508 f514 (O2.ext f515.2) P5 rfl rfl (by decide) (by decide) hp510 rfl (by decide) (by decide)) (fun _ _ _ q => q.2.1) [(.ref a474)] [(.ref a503)] rfl own_pd2 rfl rfl rfl (Nat.le_of_ble_eq_true rfl) (by decide) (by decide) (by decide +kernel) ?_
    rintro T526 h527 v528 L529 S530 ⟨rfl, -, K516, x517, f518, t519, k520, g521, g522, g523, f524, f525⟩
    replace S530 : own_S p l e room_1 s m #[(.int x1), (.int x2), (.int x3), (.int x4), (.int x5), (.int x6)] below meth c n0 T526 h527 6 18 := S530
    have hcd531 : StrChars.Road.CodA ([(x3 &&& (255 : Int32)), ((Jvm.Free.XT.ushr x3 (8 : Int32)) &&& (255 : Int32)), ((Jvm.Free.XT.ushr x3 (16 : Int32)) &&& (255 : Int32))] : List Int32) 0 (3 : Int32) (((([(x3 &&& (255 : Int32)), ((Jvm.Free.XT.ushr x3 (8 : Int32)) &&& (255 : Int32)), ((Jvm.Free.XT.ushr x3 (16 : Int32)) &&& (255 : Int32))] : List Int32)).map (fun c => c.toInt8.toInt32)).map Value.int) := StrChars.Road.codOf (n := 3) rfl (fun c hc => (hp510 c hc).2)
    show own_Go p e below s n0 _ _ _ T526 (mkF m 138 #[.val (.int x1), .val (.int x2), .val (.int x3), .val (.int x4), .val (.int x5), .val (.int x6), .val (.int f), .val (.int en), .val (.int ar), .val (.ref a420), .val (.ref a442), .val (.ref a474), .unset, .unset, .unset, .unset, .unset, .unset, .unset, .unset, .unset] [(.ref a503)])
    refine own_seg C S530 [(138, .astore 12, 2), (140, .iload_n 3, 1)] (by decide +kernel) 141 #[.val (.int x1), .val (.int x2), .val (.int x3), .val (.int x4), .val (.int x5), .val (.int x6), .val (.int f), .val (.int en), .val (.int ar), .val (.ref a420), .val (.ref a442), .val (.ref a474), .val (.ref a503), .unset, .unset, .unset, .unset, .unset, .unset, .unset, .unset] [(.int x4)] rfl ?_
    refine own_ldc C S530 (own_wd hw 30 rfl) (by decide +kernel) ?_
    refine own_seg C S530 [(143, .iand, 1), (144, .istore 13, 2), (146, .iload 13, 2), (148, .iload 4, 2)] (by decide +kernel) 150 #[.val (.int x1), .val (.int x2), .val (.int x3), .val (.int x4), .val (.int x5), .val (.int x6), .val (.int f), .val (.int en), .val (.int ar), .val (.ref a420), .val (.ref a442), .val (.ref a474), .val (.ref a503), .val (.int (x4 &&& 2147483647)), .unset, .unset, .unset, .unset, .unset, .unset, .unset] [(.int x5), (.int (x4 &&& 2147483647))] rfl ?_
    refine own_ldc C S530 (own_wd hw 30 rfl) (by decide +kernel) ?_
    refine own_seg C S530 [(152, .iand, 1)] (by decide +kernel) 153 #[.val (.int x1), .val (.int x2), .val (.int x3), .val (.int x4), .val (.int x5), .val (.int x6), .val (.int f), .val (.int en), .val (.int ar), .val (.ref a420), .val (.ref a442), .val (.ref a474), .val (.ref a503), .val (.int (x4 &&& 2147483647)), .unset, .unset, .unset, .unset, .unset, .unset, .unset] [(.int (x5 &&& 2147483647)), (.int (x4 &&& 2147483647))] rfl ?_
    have f532 : n0 ≤ h527.size := (Nat.le_trans f511 K516.1)
    refine own_callS C S530 (own_wd hw 31 rfl) (own_wd hw 32 rfl) (own_wd hw 33 rfl) (own_wd hw 34 rfl) (by decide) (own_Met.pay (own_max l Z a0 hw (x4 &&& 2147483647) (x5 &&& 2147483647) h527 n0 f532) C 0 (own_wd hw 34 rfl) (own_wd hw 33 rfl) (by decide) (by decide)) (fun _ _ _ q => q.2) [(.int (x4 &&& 2147483647)), (.int (x5 &&& 2147483647))] [] rfl own_pd3 rfl rfl rfl (Nat.le_of_ble_eq_true rfl) (by decide) (by decide) (by decide +kernel) ?_
    rintro T534 h535 v536 L537 S538 ⟨⟨rfl, e533⟩, -⟩
    replace S538 : own_S p l e room_1 s m #[(.int x1), (.int x2), (.int x3), (.int x4), (.int x5), (.int x6)] below meth c n0 T534 h535 6 18 := S538
    rw [e533] at S538; clear e533
    show own_Go p e below s n0 _ _ _ T534 (mkF m 156 #[.val (.int x1), .val (.int x2), .val (.int x3), .val (.int x4), .val (.int x5), .val (.int x6), .val (.int f), .val (.int en), .val (.int ar), .val (.ref a420), .val (.ref a442), .val (.ref a474), .val (.ref a503), .val (.int (x4 &&& 2147483647)), .unset, .unset, .unset, .unset, .unset, .unset, .unset] [(.int (if (x4 &&& 2147483647) < (x5 &&& 2147483647) then (x5 &&& 2147483647) else (x4 &&& 2147483647)))])
    refine own_seg C S538 [(156, .istore 14, 2)] (by decide +kernel) 158 #[.val (.int x1), .val (.int x2), .val (.int x3), .val (.int x4), .val (.int x5), .val (.int x6), .val (.int f), .val (.int en), .val (.int ar), .val (.ref a420), .val (.ref a442), .val (.ref a474), .val (.ref a503), .val (.int (x4 &&& 2147483647)), .val (.int (if (x4 &&& 2147483647) < (x5 &&& 2147483647) then (x5 &&& 2147483647) else (x4 &&& 2147483647))), .unset, .unset, .unset, .unset, .unset, .unset] [] rfl ?_
    refine own_new C S538 (own_wd hw 35 rfl) (own_wd hw 36 rfl) (own_wd hw 37 rfl) (by decide +kernel) (by decide) (by decide) ?_
    intro T539 h541 a542 S540 g543 E544 x545 D546
    have f547 : Fld Z h541 a542 "com/example/answer_by_role/answerbyrole/engine/index/SentencePosition" "document" "I" (.int (0 : Int32)) := D546 (ty := .int) (Or.inr (own_wd hw 48 rfl)) own_fd0
    have f548 : Fld Z h541 a542 "com/example/answer_by_role/answerbyrole/engine/index/SentencePosition" "paragraph" "I" (.int (0 : Int32)) := D546 (ty := .int) (Or.inr (own_wd hw 50 rfl)) own_fd0
    have f549 : Fld Z h541 a542 "com/example/answer_by_role/answerbyrole/engine/index/SentencePosition" "sentence" "I" (.int (0 : Int32)) := D546 (ty := .int) (Or.inr (own_wd hw 52 rfl)) own_fd0
    refine own_seg C S540 [(161, .dup, 1), (162, .iload 5, 2)] (by decide +kernel) 164 #[.val (.int x1), .val (.int x2), .val (.int x3), .val (.int x4), .val (.int x5), .val (.int x6), .val (.int f), .val (.int en), .val (.int ar), .val (.ref a420), .val (.ref a442), .val (.ref a474), .val (.ref a503), .val (.int (x4 &&& 2147483647)), .val (.int (if (x4 &&& 2147483647) < (x5 &&& 2147483647) then (x5 &&& 2147483647) else (x4 &&& 2147483647))), .unset, .unset, .unset, .unset, .unset, .unset] [(.int x6), (.ref a542), (.ref a542)] rfl ?_
    refine own_ldc C S540 (own_wd hw 30 rfl) (by decide +kernel) ?_
    refine own_seg C S540 [(166, .iand, 1), (167, .iload 5, 2), (169, .bipush 8, 2), (171, .iushr, 1), (172, .sipush 255, 3), (175, .iand, 1), (176, .iload 5, 2), (178, .bipush 16, 2), (180, .iushr, 1), (181, .sipush 255, 3), (184, .iand, 1)] (by decide +kernel) 185 #[.val (.int x1), .val (.int x2), .val (.int x3), .val (.int x4), .val (.int x5), .val (.int x6), .val (.int f), .val (.int en), .val (.int ar), .val (.ref a420), .val (.ref a442), .val (.ref a474), .val (.ref a503), .val (.int (x4 &&& 2147483647)), .val (.int (if (x4 &&& 2147483647) < (x5 &&& 2147483647) then (x5 &&& 2147483647) else (x4 &&& 2147483647))), .unset, .unset, .unset, .unset, .unset, .unset] [(.int ((Jvm.Free.XT.ushr x6 (16 : Int32)) &&& (255 : Int32))), (.int ((Jvm.Free.XT.ushr x6 (8 : Int32)) &&& (255 : Int32))), (.int (x6 &&& 2147483647)), (.ref a542), (.ref a542)] rfl ?_
    have f550 : n0 ≤ h541.size := (Nat.le_trans f532 E544.1)
    have g551 : n0 ≤ a542 := by rw [g543]; exact f532
    refine own_callI C S540 rfl (own_wd hw 38 rfl) (own_wd hw 39 rfl) (own_wd hw 40 rfl) (by decide) (own_Met.pay (own_sp l Z a0 hw a542 (x6 &&& 2147483647) ((Jvm.Free.XT.ushr x6 (8 : Int32)) &&& (255 : Int32)) ((Jvm.Free.XT.ushr x6 (16 : Int32)) &&& (255 : Int32)) h541 n0 f550 g551 x545 f547 f548 f549 (own_nn _ _ (by decide)) (own_nn _ _ (by decide)) (own_nn _ _ (by decide))) C 1 (own_wd hw 40 rfl) (own_wd hw 37 rfl) (by decide) (by decide)) (fun _ _ _ q => q.2) [(.int (x6 &&& 2147483647)), (.int ((Jvm.Free.XT.ushr x6 (8 : Int32)) &&& (255 : Int32))), (.int ((Jvm.Free.XT.ushr x6 (16 : Int32)) &&& (255 : Int32)))] [(.ref a542)] rfl own_pd4 rfl rfl rfl (Nat.le_of_ble_eq_true rfl) (by decide) (by decide) (by decide +kernel) ?_
    rintro T557 h558 v559 L560 S561 ⟨⟨rfl, K552, x553, f554, f555, f556⟩, -⟩
    replace S561 : own_S p l e room_1 s m #[(.int x1), (.int x2), (.int x3), (.int x4), (.int x5), (.int x6)] below meth c n0 T557 h558 7 21 := S561
    show own_Go p e below s n0 _ _ _ T557 (mkF m 188 #[.val (.int x1), .val (.int x2), .val (.int x3), .val (.int x4), .val (.int x5), .val (.int x6), .val (.int f), .val (.int en), .val (.int ar), .val (.ref a420), .val (.ref a442), .val (.ref a474), .val (.ref a503), .val (.int (x4 &&& 2147483647)), .val (.int (if (x4 &&& 2147483647) < (x5 &&& 2147483647) then (x5 &&& 2147483647) else (x4 &&& 2147483647))), .unset, .unset, .unset, .unset, .unset, .unset] [(.ref a542)])
    refine own_seg C S561 [(188, .astore 15, 2)] (by decide +kernel) 190 #[.val (.int x1), .val (.int x2), .val (.int x3), .val (.int x4), .val (.int x5), .val (.int x6), .val (.int f), .val (.int en), .val (.int ar), .val (.ref a420), .val (.ref a442), .val (.ref a474), .val (.ref a503), .val (.int (x4 &&& 2147483647)), .val (.int (if (x4 &&& 2147483647) < (x5 &&& 2147483647) then (x5 &&& 2147483647) else (x4 &&& 2147483647))), .val (.ref a542), .unset, .unset, .unset, .unset, .unset] [] rfl ?_
    refine own_seg C S561 [(190, .aconst_null, 1), (191, .astore 16, 2), (193, .iload 8, 2)] (by decide +kernel) 195 #[.val (.int x1), .val (.int x2), .val (.int x3), .val (.int x4), .val (.int x5), .val (.int x6), .val (.int f), .val (.int en), .val (.int ar), .val (.ref a420), .val (.ref a442), .val (.ref a474), .val (.ref a503), .val (.int (x4 &&& 2147483647)), .val (.int (if (x4 &&& 2147483647) < (x5 &&& 2147483647) then (x5 &&& 2147483647) else (x4 &&& 2147483647))), .val (.ref a542), .val .null, .unset, .unset, .unset, .unset] [(.int ar)] rfl ?_
    rcases hc with ⟨rfl, rfl, rfl⟩ | ⟨rfl, rfl, rfl⟩ | ⟨rfl, rfl, rfl⟩ | ⟨rfl, rfl, rfl⟩ | ⟨rfl, rfl, rfl⟩
    · refine own_if C S561 (q := .eq) (o := 28) (by decide +kernel) 223 (by decide) (by decide) (fun (hq : (1 : Int32) = (0 : Int32)) => False.elim (absurd hq (by decide))) (fun (q562 : ¬ (1 : Int32) = (0 : Int32)) => ?_)
      refine own_new C S561 (own_wd hw 53 rfl) (own_wd hw 54 rfl) (own_wd hw 55 rfl) (by decide +kernel) (by decide) (by decide) ?_
      intro T563 h565 a566 S564 g567 E568 x569 D570
      have f571 : Fld Z h565 a566 "com/example/answer_by_role/answerbyrole/analysis/label/Argument" "predicate" "I" (.int (0 : Int32)) := D570 (ty := .int) (Or.inr (own_wd hw 62 rfl)) own_fd0
      have f572 : Fld Z h565 a566 "com/example/answer_by_role/answerbyrole/analysis/label/Argument" "head" "I" (.int (0 : Int32)) := D570 (ty := .int) (Or.inr (own_wd hw 64 rfl)) own_fd0
      have f573 : Fld Z h565 a566 "com/example/answer_by_role/answerbyrole/analysis/label/Argument" "label" "Ljava/lang/String;" .null := D570 (ty := (.object "java/lang/String")) (Or.inr (own_wd hw 66 rfl)) own_fd1
      refine own_seg C S564 [(201, .dup, 1), (202, .iload_n 0, 1), (203, .iconst 3, 1), (204, .iushr, 1)] (by decide +kernel) 205 #[.val (.int x1), .val (.int x2), .val (.int x3), .val (.int x4), .val (.int x5), .val (.int x6), .val (.int (1 : Int32)), .val (.int (1 : Int32)), .val (.int (1 : Int32)), .val (.ref a420), .val (.ref a442), .val (.ref a474), .val (.ref a503), .val (.int (x4 &&& 2147483647)), .val (.int (if (x4 &&& 2147483647) < (x5 &&& 2147483647) then (x5 &&& 2147483647) else (x4 &&& 2147483647))), .val (.ref a542), .val .null, .unset, .unset, .unset, .unset] [(.int (Jvm.Free.XT.ushr x1 (3 : Int32))), (.ref a566), (.ref a566)] rfl ?_
      refine own_ldc C S564 (own_wd hw 56 rfl) (by decide +kernel) ?_
      refine own_seg C S564 [(207, .iand, 1), (208, .iload_n 0, 1), (209, .bipush 19, 2), (211, .iushr, 1), (212, .sipush 4095, 3), (215, .iand, 1), (216, .aload 10, 2)] (by decide +kernel) 218 #[.val (.int x1), .val (.int x2), .val (.int x3), .val (.int x4), .val (.int x5), .val (.int x6), .val (.int (1 : Int32)), .val (.int (1 : Int32)), .val (.int (1 : Int32)), .val (.ref a420), .val (.ref a442), .val (.ref a474), .val (.ref a503), .val (.int (x4 &&& 2147483647)), .val (.int (if (x4 &&& 2147483647) < (x5 &&& 2147483647) then (x5 &&& 2147483647) else (x4 &&& 2147483647))), .val (.ref a542), .val .null, .unset, .unset, .unset, .unset] [(.ref a442), (.int ((Jvm.Free.XT.ushr x1 (19 : Int32)) &&& (4095 : Int32))), (.int ((Jvm.Free.XT.ushr x1 (3 : Int32)) &&& 65535)), (.ref a566), (.ref a566)] rfl ?_
      have f574 : n0 ≤ h565.size := (Nat.le_trans (Nat.le_trans f550 K552.1) E568.1)
      have f575 : n0 ≤ h558.size := (Nat.le_trans f550 K552.1)
      have g576 : n0 ≤ a566 := by rw [g567]; exact f575
      refine own_callI C S564 rfl (own_wd hw 57 rfl) (own_wd hw 58 rfl) (own_wd hw 59 rfl) (by decide) (own_Met.pay (own_ar l Z a0 hw a566 ((Jvm.Free.XT.ushr x1 (3 : Int32)) &&& 65535) ((Jvm.Free.XT.ushr x1 (19 : Int32)) &&& (4095 : Int32)) a442 h565 n0 f574 g576 x569 f571 f572 f573 (own_nn _ _ (by decide)) (own_nn _ _ (by decide))) C 1 (own_wd hw 59 rfl) (own_wd hw 55 rfl) (by decide) (by decide)) (fun _ _ _ q => q.2) [(.int ((Jvm.Free.XT.ushr x1 (3 : Int32)) &&& 65535)), (.int ((Jvm.Free.XT.ushr x1 (19 : Int32)) &&& (4095 : Int32))), (.ref a442)] [(.ref a566)] rfl own_pd5 rfl rfl rfl (Nat.le_of_ble_eq_true rfl) (by decide) (by decide) (by decide +kernel) ?_
      rintro T582 h583 v584 L585 S586 ⟨⟨rfl, K577, x578, f579, f580, f581⟩, -⟩
      replace S586 : own_S p l e room_1 s m #[(.int x1), (.int x2), (.int x3), (.int x4), (.int x5), (.int x6)] below meth c n0 T582 h583 8 24 := S586
      show own_Go p e below s n0 _ _ _ T582 (mkF m 221 #[.val (.int x1), .val (.int x2), .val (.int x3), .val (.int x4), .val (.int x5), .val (.int x6), .val (.int (1 : Int32)), .val (.int (1 : Int32)), .val (.int (1 : Int32)), .val (.ref a420), .val (.ref a442), .val (.ref a474), .val (.ref a503), .val (.int (x4 &&& 2147483647)), .val (.int (if (x4 &&& 2147483647) < (x5 &&& 2147483647) then (x5 &&& 2147483647) else (x4 &&& 2147483647))), .val (.ref a542), .val .null, .unset, .unset, .unset, .unset] [(.ref a566)])
      refine own_seg C S586 [(221, .astore 16, 2), (223, .aconst_null, 1), (224, .astore 17, 2), (226, .iload 7, 2)] (by decide +kernel) 228 #[.val (.int x1), .val (.int x2), .val (.int x3), .val (.int x4), .val (.int x5), .val (.int x6), .val (.int (1 : Int32)), .val (.int (1 : Int32)), .val (.int (1 : Int32)), .val (.ref a420), .val (.ref a442), .val (.ref a474), .val (.ref a503), .val (.int (x4 &&& 2147483647)), .val (.int (if (x4 &&& 2147483647) < (x5 &&& 2147483647) then (x5 &&& 2147483647) else (x4 &&& 2147483647))), .val (.ref a542), .val (.ref a566), .val .null, .unset, .unset, .unset] [(.int (1 : Int32))] rfl ?_
      refine own_if C S586 (q := .eq) (o := 7) (by decide +kernel) 235 (by decide) (by decide) (fun (hq : (1 : Int32) = (0 : Int32)) => False.elim (absurd hq (by decide))) (fun (q587 : ¬ (1 : Int32) = (0 : Int32)) => ?_)
      refine own_seg C S586 [(231, .aload 12, 2), (233, .astore 17, 2)] (by decide +kernel) 235 #[.val (.int x1), .val (.int x2), .val (.int x3), .val (.int x4), .val (.int x5), .val (.int x6), .val (.int (1 : Int32)), .val (.int (1 : Int32)), .val (.int (1 : Int32)), .val (.ref a420), .val (.ref a442), .val (.ref a474), .val (.ref a503), .val (.int (x4 &&& 2147483647)), .val (.int (if (x4 &&& 2147483647) < (x5 &&& 2147483647) then (x5 &&& 2147483647) else (x4 &&& 2147483647))), .val (.ref a542), .val (.ref a566), .val (.ref a503), .unset, .unset, .unset] [] rfl ?_
      refine own_new C S586 (own_wd hw 67 rfl) (own_wd hw 68 rfl) (own_wd hw 69 rfl) (by decide +kernel) (by decide) (by decide) ?_
      intro T588 h590 a591 S589 g592 E593 x594 D595
      have f596 : Fld Z h590 a591 "com/example/answer_by_role/answerbyrole/engine/extraction/Candidate" "position" "Lcom/example/answer_by_role/answerbyrole/engine/index/SentencePosition;" .null := D595 (ty := (.object "com/example/answer_by_role/answerbyrole/engine/index/SentencePosition")) (Or.inr (own_wd hw 75 rfl)) own_fd2
      have f597 : Fld Z h590 a591 "com/example/answer_by_role/answerbyrole/engine/extraction/Candidate" "first" "I" (.int (0 : Int32)) := D595 (ty := .int) (Or.inr (own_wd hw 77 rfl)) own_fd0
      have f598 : Fld Z h590 a591 "com/example/answer_by_role/answerbyrole/engine/extraction/Candidate" "last" "I" (.int (0 : Int32)) := D595 (ty := .int) (Or.inr (own_wd hw 79 rfl)) own_fd0
      have f599 : Fld Z h590 a591 "com/example/answer_by_role/answerbyrole/engine/extraction/Candidate" "text" "Ljava/lang/String;" .null := D595 (ty := (.object "java/lang/String")) (Or.inr (own_wd hw 81 rfl)) own_fd1
      have f600 : Fld Z h590 a591 "com/example/answer_by_role/answerbyrole/engine/extraction/Candidate" "argument" "Lcom/example/answer_by_role/answerbyrole/analysis/label/Argument;" .null := D595 (ty := (.object "com/example/answer_by_role/answerbyrole/analysis/label/Argument")) (Or.inr (own_wd hw 83 rfl)) own_fd3
      have f601 : Fld Z h590 a591 "com/example/answer_by_role/answerbyrole/engine/extraction/Candidate" "fills" "Z" (.int (0 : Int32)) := D595 (ty := .boolean) (Or.inr (own_wd hw 85 rfl)) own_fd4
      have f602 : Fld Z h590 a591 "com/example/answer_by_role/answerbyrole/engine/extraction/Candidate" "entityType" "Ljava/lang/String;" .null := D595 (ty := (.object "java/lang/String")) (Or.inr (own_wd hw 87 rfl)) own_fd1
      refine own_seg C S589 [(238, .dup, 1), (239, .aload 15, 2), (241, .iload 13, 2), (243, .iload 14, 2), (245, .aload 10, 2), (247, .aload 16, 2), (249, .iload 6, 2), (251, .aload 17, 2)] (by decide +kernel) 253 #[.val (.int x1), .val (.int x2), .val (.int x3), .val (.int x4), .val (.int x5), .val (.int x6), .val (.int (1 : Int32)), .val (.int (1 : Int32)), .val (.int (1 : Int32)), .val (.ref a420), .val (.ref a442), .val (.ref a474), .val (.ref a503), .val (.int (x4 &&& 2147483647)), .val (.int (if (x4 &&& 2147483647) < (x5 &&& 2147483647) then (x5 &&& 2147483647) else (x4 &&& 2147483647))), .val (.ref a542), .val (.ref a566), .val (.ref a503), .unset, .unset, .unset] [(.ref a503), (.int (1 : Int32)), (.ref a566), (.ref a442), (.int (if (x4 &&& 2147483647) < (x5 &&& 2147483647) then (x5 &&& 2147483647) else (x4 &&& 2147483647))), (.int (x4 &&& 2147483647)), (.ref a542), (.ref a591), (.ref a591)] rfl ?_
      have f603 : n0 ≤ h590.size := (Nat.le_trans (Nat.le_trans f574 K577.1) E593.1)
      have f604 : n0 ≤ h583.size := (Nat.le_trans f574 K577.1)
      have g605 : n0 ≤ a591 := by rw [g592]; exact f604
      refine own_callI C S589 rfl (own_wd hw 70 rfl) (own_wd hw 71 rfl) (own_wd hw 72 rfl) (by decide) (own_Met.pay (own_ca111 l Z a0 hw a591 a542 (x4 &&& 2147483647) (if (x4 &&& 2147483647) < (x5 &&& 2147483647) then (x5 &&& 2147483647) else (x4 &&& 2147483647)) a442 a566 a503 h590 n0 f603 g605 x594 f596 f597 f598 f599 f600 f601 f602 (own_nn _ _ (by decide)) (own_mx _ _)) C 1 (own_wd hw 72 rfl) (own_wd hw 69 rfl) (by decide) (by decide)) (fun _ _ _ q => q.2) [(.ref a542), (.int (x4 &&& 2147483647)), (.int (if (x4 &&& 2147483647) < (x5 &&& 2147483647) then (x5 &&& 2147483647) else (x4 &&& 2147483647))), (.ref a442), (.ref a566), (.int (1 : Int32)), (.ref a503)] [(.ref a591)] rfl own_pd6 rfl rfl rfl (Nat.le_of_ble_eq_true rfl) (by decide) (by decide) (by decide +kernel) ?_
      rintro T615 h616 v617 L618 S619 ⟨⟨rfl, K606, x607, f608, f609, f610, f611, f612, f613, f614⟩, -⟩
      replace S619 : own_S p l e room_1 s m #[(.int x1), (.int x2), (.int x3), (.int x4), (.int x5), (.int x6)] below meth c n0 T615 h616 9 31 := S619
      show own_Go p e below s n0 _ _ _ T615 (mkF m 256 #[.val (.int x1), .val (.int x2), .val (.int x3), .val (.int x4), .val (.int x5), .val (.int x6), .val (.int (1 : Int32)), .val (.int (1 : Int32)), .val (.int (1 : Int32)), .val (.ref a420), .val (.ref a442), .val (.ref a474), .val (.ref a503), .val (.int (x4 &&& 2147483647)), .val (.int (if (x4 &&& 2147483647) < (x5 &&& 2147483647) then (x5 &&& 2147483647) else (x4 &&& 2147483647))), .val (.ref a542), .val (.ref a566), .val (.ref a503), .unset, .unset, .unset] [(.ref a591)])
      refine own_seg C S619 [(256, .astore 18, 2), (258, .aload 18, 2)] (by decide +kernel) 260 #[.val (.int x1), .val (.int x2), .val (.int x3), .val (.int x4), .val (.int x5), .val (.int x6), .val (.int (1 : Int32)), .val (.int (1 : Int32)), .val (.int (1 : Int32)), .val (.ref a420), .val (.ref a442), .val (.ref a474), .val (.ref a503), .val (.int (x4 &&& 2147483647)), .val (.int (if (x4 &&& 2147483647) < (x5 &&& 2147483647) then (x5 &&& 2147483647) else (x4 &&& 2147483647))), .val (.ref a542), .val (.ref a566), .val (.ref a503), .val (.ref a591), .unset, .unset] [(.ref a591)] rfl ?_
      have f620 : Exa Z h616 a566 "com/example/answer_by_role/answerbyrole/analysis/label/Argument" := ((Exa.ext E593 x578).keep K606)
      have f621 : a566 < h583.size := (Nat.lt_of_lt_of_le f571.lt K577.1)
      have n622 : a566 ≠ a591 := by rw [g592]; exact Nat.ne_of_lt f621
      have f623 : Fld Z h616 a566 "com/example/answer_by_role/answerbyrole/analysis/label/Argument" "label" "Ljava/lang/String;" (.ref a442) := ((Fld.ext E593 f581).keep K606 (ninS n622 nin0))
      have f624 : n0 ≤ h616.size := (Nat.le_trans f603 K606.1)
      refine own_callV C S619 (own_wd hw 88 rfl) (own_wd hw 89 rfl) (own_wd hw 91 rfl) (own_wd hw 91 rfl) (own_wd hw 90 rfl) (by decide) (own_Met.pay (own_lab1 l Z a0 hw a591 a566 a442 h616 n0 f624 x607 f613 f612 f620 f623) C 0 (own_wd hw 92 rfl) (own_wd hw 69 rfl) (by decide) (by decide)) (fun _ _ _ q => q.2) x607 [] [] rfl own_pd1 rfl rfl rfl (Nat.le_of_ble_eq_true rfl) (by decide) (by decide) (by decide +kernel) ?_
      rintro T626 h627 v628 L629 S630 ⟨⟨rfl, e625⟩, -⟩
      replace S630 : own_S p l e room_1 s m #[(.int x1), (.int x2), (.int x3), (.int x4), (.int x5), (.int x6)] below meth c n0 T626 h627 9 31 := S630
      rw [e625] at S630; clear e625
      show own_Go p e below s n0 _ _ _ T626 (mkF m 263 #[.val (.int x1), .val (.int x2), .val (.int x3), .val (.int x4), .val (.int x5), .val (.int x6), .val (.int (1 : Int32)), .val (.int (1 : Int32)), .val (.int (1 : Int32)), .val (.ref a420), .val (.ref a442), .val (.ref a474), .val (.ref a503), .val (.int (x4 &&& 2147483647)), .val (.int (if (x4 &&& 2147483647) < (x5 &&& 2147483647) then (x5 &&& 2147483647) else (x4 &&& 2147483647))), .val (.ref a542), .val (.ref a566), .val (.ref a503), .val (.ref a591), .unset, .unset] [(.ref a442)])
      refine own_seg C S630 [(263, .astore 19, 2), (265, .iload 6, 2)] (by decide +kernel) 267 #[.val (.int x1), .val (.int x2), .val (.int x3), .val (.int x4), .val (.int x5), .val (.int x6), .val (.int (1 : Int32)), .val (.int (1 : Int32)), .val (.int (1 : Int32)), .val (.ref a420), .val (.ref a442), .val (.ref a474), .val (.ref a503), .val (.int (x4 &&& 2147483647)), .val (.int (if (x4 &&& 2147483647) < (x5 &&& 2147483647) then (x5 &&& 2147483647) else (x4 &&& 2147483647))), .val (.ref a542), .val (.ref a566), .val (.ref a503), .val (.ref a591), .val (.ref a442), .unset] [(.int (1 : Int32))] rfl ?_
      refine own_if C S630 (q := .eq) (o := 10) (by decide +kernel) 277 (by decide) (by decide) (fun (hq : (1 : Int32) = (0 : Int32)) => False.elim (absurd hq (by decide))) (fun (q631 : ¬ (1 : Int32) = (0 : Int32)) => ?_)
      refine own_seg C S630 [(270, .aload 10, 2), (272, .astore 20, 2), (274, .goto 19, 3), (293, .aload 19, 2), (295, .ifnull 30, 3), (298, .aload 19, 2)] (by decide +kernel) 300 #[.val (.int x1), .val (.int x2), .val (.int x3), .val (.int x4), .val (.int x5), .val (.int x6), .val (.int (1 : Int32)), .val (.int (1 : Int32)), .val (.int (1 : Int32)), .val (.ref a420), .val (.ref a442), .val (.ref a474), .val (.ref a503), .val (.int (x4 &&& 2147483647)), .val (.int (if (x4 &&& 2147483647) < (x5 &&& 2147483647) then (x5 &&& 2147483647) else (x4 &&& 2147483647))), .val (.ref a542), .val (.ref a566), .val (.ref a503), .val (.ref a591), .val (.ref a442), .val (.ref a442)] [(.ref a442)] rfl ?_
      have f632 : Exa Z h616 a442 "java/lang/String" := ((Exa.ext E593 ((Exa.ext E568 ((Exa.ext E544 ((Exa.ext E505 (Exa.wr W497 (Exa.wr W491 (Exa.wr W485 (Exa.ext E477 x456))))).keep K516)).keep K552)).keep K577)).keep K606)
      have f633 : a442 < h466.size := (Nat.lt_of_lt_of_le f448.lt K455.1)
      have n634 : a442 ≠ a474 := by rw [g476]; exact Nat.ne_of_lt f633
      have f635 : a442 < h496.size := (by rw [W497.size]; exact (by rw [W491.size]; exact (by rw [W485.size]; exact (Nat.lt_of_lt_of_le f633 E477.1))))
      have n636 : a442 ≠ a503 := by rw [g504]; exact Nat.ne_of_lt f635
      have f637 : a442 < h527.size := (Nat.lt_of_lt_of_le (Nat.lt_of_lt_of_le f635 E505.1) K516.1)
      have n638 : a442 ≠ a542 := by rw [g543]; exact Nat.ne_of_lt f637
      have f639 : a442 < h558.size := (Nat.lt_of_lt_of_le (Nat.lt_of_lt_of_le f637 E544.1) K552.1)
      have n640 : a442 ≠ a566 := by rw [g567]; exact Nat.ne_of_lt f639
      have f641 : a442 < h583.size := (Nat.lt_of_lt_of_le (Nat.lt_of_lt_of_le f639 E568.1) K577.1)
      have n642 : a442 ≠ a591 := by rw [g592]; exact Nat.ne_of_lt f641
      have f643 : Fld Z h616 a442 "java/lang/String" "value" "[B" (.ref t458) := ((Fld.ext E593 ((Fld.ext E568 ((Fld.ext E544 ((Fld.ext E505 (Fld.other W497 (Fld.other W491 (Fld.other W485 (Fld.ext E477 f463) (Or.inl n634)) (Or.inl n634)) (Or.inl n634))).keep K516 (ninS n636 nin0))).keep K552 (ninS n638 nin0))).keep K577 (ninS n640 nin0))).keep K606 (ninS n642 nin0))
      have f644 : Fld Z h616 a442 "java/lang/String" "coder" "B" (.int 0) := ((Fld.ext E593 ((Fld.ext E568 ((Fld.ext E544 ((Fld.ext E505 (Fld.other W497 (Fld.other W491 (Fld.other W485 (Fld.ext E477 f457) (Or.inl n634)) (Or.inl n634)) (Or.inl n634))).keep K516 (ninS n636 nin0))).keep K552 (ninS n638 nin0))).keep K577 (ninS n640 nin0))).keep K606 (ninS n642 nin0))
      have n645 : t458 ≠ a474 := by rw [g476]; exact Nat.ne_of_lt f464.lt
      have f646 : t458 < h496.size := (by rw [W497.size]; exact (by rw [W491.size]; exact (by rw [W485.size]; exact (Nat.lt_of_lt_of_le f464.lt E477.1))))
      have n647 : t458 ≠ a503 := by rw [g504]; exact Nat.ne_of_lt f646
      have f648 : t458 < h527.size := (Nat.lt_of_lt_of_le (Nat.lt_of_lt_of_le f646 E505.1) K516.1)
      have n649 : t458 ≠ a542 := by rw [g543]; exact Nat.ne_of_lt f648
      have f650 : t458 < h558.size := (Nat.lt_of_lt_of_le (Nat.lt_of_lt_of_le f648 E544.1) K552.1)
      have n651 : t458 ≠ a566 := by rw [g567]; exact Nat.ne_of_lt f650
      have f652 : t458 < h583.size := (Nat.lt_of_lt_of_le (Nat.lt_of_lt_of_le f650 E568.1) K577.1)
      have n653 : t458 ≠ a591 := by rw [g592]; exact Nat.ne_of_lt f652
      have f654 : Arv Z h616 t458 k459 .byte (2 : Int32) (((([(x2 &&& (255 : Int32)), ((Jvm.Free.XT.ushr x2 (8 : Int32)) &&& (255 : Int32))] : List Int32)).map (fun c => c.toInt8.toInt32)).map Value.int) (.int 0) := ((((((((((((f464.ext E477).other W485 n645).other W491 n645).other W497 n645).ext E505).keep K516 (ninS n647 nin0)).ext E544).keep K552 (ninS n649 nin0)).ext E568).keep K577 (ninS n651 nin0)).ext E593).keep K606 (ninS n653 nin0))
      have f655 : Old Z n0 h616 := (((((((f515.keep K516 (allS g513 all0)).ext E544).keep K552 (allS g551 all0)).ext E568).keep K577 (allS g576 all0)).ext E593).keep K606 (allS g605 all0))
      refine own_callV C S630 (own_wd hw 98 rfl) (own_wd hw 99 rfl) (own_wd hw 101 rfl) (own_wd hw 101 rfl) (own_wd hw 100 rfl) (by decide) (Q := (fun v h' L => v = some (.int (Int32.ofNat (([(x2 &&& (255 : Int32)), ((Jvm.Free.XT.ushr x2 (8 : Int32)) &&& (255 : Int32))] : List Int32)).length)) ∧ L = [] ∧ h' = h616)) (StrChars.Road.lenW (W := 0) C.2.2.2.2.2.2.2 (fun d hd => hw d (own_hln d hd)) (kI := 4) (own_wd hw 2 rfl) f632 f643 f644 f654 hcd470 (own_up _ hp449) (O2.ext f655.2) P5 (Nat.le_of_ble_eq_true rfl) (by decide) (by decide)) (fun _ _ L q => by rw [q.2.1]; exact Fr.nil _) f632 [] [] rfl own_pd7 rfl rfl rfl (Nat.le_of_ble_eq_true rfl) (by decide) (by decide) (by decide +kernel) ?_
      rintro T657 h658 v659 L660 S661 ⟨rfl, -, e656⟩
      replace S661 : own_S p l e room_1 s m #[(.int x1), (.int x2), (.int x3), (.int x4), (.int x5), (.int x6)] below meth c n0 T657 h658 9 31 := S661
      rw [e656] at S661; clear e656
      show own_Go p e below s n0 _ _ _ T657 (mkF m 303 #[.val (.int x1), .val (.int x2), .val (.int x3), .val (.int x4), .val (.int x5), .val (.int x6), .val (.int (1 : Int32)), .val (.int (1 : Int32)), .val (.int (1 : Int32)), .val (.ref a420), .val (.ref a442), .val (.ref a474), .val (.ref a503), .val (.int (x4 &&& 2147483647)), .val (.int (if (x4 &&& 2147483647) < (x5 &&& 2147483647) then (x5 &&& 2147483647) else (x4 &&& 2147483647))), .val (.ref a542), .val (.ref a566), .val (.ref a503), .val (.ref a591), .val (.ref a442), .val (.ref a442)] [(.int (2 : Int32))])
      refine own_seg C S661 [(303, .aload 20, 2)] (by decide +kernel) 305 #[.val (.int x1), .val (.int x2), .val (.int x3), .val (.int x4), .val (.int x5), .val (.int x6), .val (.int (1 : Int32)), .val (.int (1 : Int32)), .val (.int (1 : Int32)), .val (.ref a420), .val (.ref a442), .val (.ref a474), .val (.ref a503), .val (.int (x4 &&& 2147483647)), .val (.int (if (x4 &&& 2147483647) < (x5 &&& 2147483647) then (x5 &&& 2147483647) else (x4 &&& 2147483647))), .val (.ref a542), .val (.ref a566), .val (.ref a503), .val (.ref a591), .val (.ref a442), .val (.ref a442)] [(.ref a442), (.int (2 : Int32))] rfl ?_
      refine own_callV C S661 (own_wd hw 98 rfl) (own_wd hw 99 rfl) (own_wd hw 101 rfl) (own_wd hw 101 rfl) (own_wd hw 100 rfl) (by decide) (Q := (fun v h' L => v = some (.int (Int32.ofNat (([(x2 &&& (255 : Int32)), ((Jvm.Free.XT.ushr x2 (8 : Int32)) &&& (255 : Int32))] : List Int32)).length)) ∧ L = [] ∧ h' = h616)) (StrChars.Road.lenW (W := 1) C.2.2.2.2.2.2.2 (fun d hd => hw d (own_hln d hd)) (kI := 4) (own_wd hw 2 rfl) f632 f643 f644 f654 hcd470 (own_up _ hp449) (O2.ext f655.2) P5 (Nat.le_of_ble_eq_true rfl) (by decide) (by decide)) (fun _ _ L q => by rw [q.2.1]; exact Fr.nil _) f632 [] [(.int (2 : Int32))] rfl own_pd7 rfl rfl rfl (Nat.le_of_ble_eq_true rfl) (by decide) (by decide) (by decide +kernel) ?_
      rintro T663 h664 v665 L666 S667 ⟨rfl, -, e662⟩
      replace S667 : own_S p l e room_1 s m #[(.int x1), (.int x2), (.int x3), (.int x4), (.int x5), (.int x6)] below meth c n0 T663 h664 9 31 := S667
      rw [e662] at S667; clear e662
      show own_Go p e below s n0 _ _ _ T663 (mkF m 308 #[.val (.int x1), .val (.int x2), .val (.int x3), .val (.int x4), .val (.int x5), .val (.int x6), .val (.int (1 : Int32)), .val (.int (1 : Int32)), .val (.int (1 : Int32)), .val (.ref a420), .val (.ref a442), .val (.ref a474), .val (.ref a503), .val (.int (x4 &&& 2147483647)), .val (.int (if (x4 &&& 2147483647) < (x5 &&& 2147483647) then (x5 &&& 2147483647) else (x4 &&& 2147483647))), .val (.ref a542), .val (.ref a566), .val (.ref a503), .val (.ref a591), .val (.ref a442), .val (.ref a442)] [(.int (2 : Int32)), (.int (2 : Int32))])
      refine own_icmp C S667 (q := .ne) (o := 17) (by decide +kernel) 325 (by decide) (by decide) (fun (hq : ¬ (2 : Int32) = (2 : Int32)) => False.elim (hq rfl)) (fun (q668 : (2 : Int32) = (2 : Int32)) => ?_)
      refine own_seg C S667 [(311, .aload 19, 2), (313, .aload 20, 2)] (by decide +kernel) 315 #[.val (.int x1), .val (.int x2), .val (.int x3), .val (.int x4), .val (.int x5), .val (.int x6), .val (.int (1 : Int32)), .val (.int (1 : Int32)), .val (.int (1 : Int32)), .val (.ref a420), .val (.ref a442), .val (.ref a474), .val (.ref a503), .val (.int (x4 &&& 2147483647)), .val (.int (if (x4 &&& 2147483647) < (x5 &&& 2147483647) then (x5 &&& 2147483647) else (x4 &&& 2147483647))), .val (.ref a542), .val (.ref a566), .val (.ref a503), .val (.ref a591), .val (.ref a442), .val (.ref a442)] [(.ref a442), (.ref a442)] rfl ?_
      refine own_callV C S667 (own_wd hw 108 rfl) (own_wd hw 109 rfl) (own_wd hw 111 rfl) (own_wd hw 111 rfl) (own_wd hw 110 rfl) (by decide) (own_Met.pay (own_eqs l Z a0 hw a442 h616 n0 f624) C 0 (own_wd hw 112 rfl) (own_wd hw 3 rfl) (by decide) (by decide)) (fun _ _ _ q => q.2) f632 [(.ref a442)] [] rfl own_pd8 rfl rfl rfl (Nat.le_of_ble_eq_true rfl) (by decide) (by decide) (by decide +kernel) ?_
      rintro T670 h671 v672 L673 S674 ⟨⟨rfl, e669⟩, -⟩
      replace S674 : own_S p l e room_1 s m #[(.int x1), (.int x2), (.int x3), (.int x4), (.int x5), (.int x6)] below meth c n0 T670 h671 9 31 := S674
      rw [e669] at S674; clear e669
      show own_Go p e below s n0 _ _ _ T670 (mkF m 318 #[.val (.int x1), .val (.int x2), .val (.int x3), .val (.int x4), .val (.int x5), .val (.int x6), .val (.int (1 : Int32)), .val (.int (1 : Int32)), .val (.int (1 : Int32)), .val (.ref a420), .val (.ref a442), .val (.ref a474), .val (.ref a503), .val (.int (x4 &&& 2147483647)), .val (.int (if (x4 &&& 2147483647) < (x5 &&& 2147483647) then (x5 &&& 2147483647) else (x4 &&& 2147483647))), .val (.ref a542), .val (.ref a566), .val (.ref a503), .val (.ref a591), .val (.ref a442), .val (.ref a442)] [(.int (1 : Int32))])
      refine own_if C S674 (q := .eq) (o := 7) (by decide +kernel) 325 (by decide) (by decide) (fun (hq : (1 : Int32) = (0 : Int32)) => False.elim (absurd hq (by decide))) (fun (q675 : ¬ (1 : Int32) = (0 : Int32)) => ?_)
      refine own_seg C S674 [(321, .iconst 1, 1), (322, .goto 4, 3)] (by decide +kernel) 326 #[.val (.int x1), .val (.int x2), .val (.int x3), .val (.int x4), .val (.int x5), .val (.int x6), .val (.int (1 : Int32)), .val (.int (1 : Int32)), .val (.int (1 : Int32)), .val (.ref a420), .val (.ref a442), .val (.ref a474), .val (.ref a503), .val (.int (x4 &&& 2147483647)), .val (.int (if (x4 &&& 2147483647) < (x5 &&& 2147483647) then (x5 &&& 2147483647) else (x4 &&& 2147483647))), .val (.ref a542), .val (.ref a566), .val (.ref a503), .val (.ref a591), .val (.ref a442), .val (.ref a442)] [(.int (1 : Int32))] rfl ?_
      refine own_retZ C S674 (by decide +kernel) (by decide) (by decide) (by decide) ?_
      rfl
    · refine own_if C S561 (q := .eq) (o := 28) (by decide +kernel) 223 (by decide) (by decide) (fun (hq : (1 : Int32) = (0 : Int32)) => False.elim (absurd hq (by decide))) (fun (q676 : ¬ (1 : Int32) = (0 : Int32)) => ?_)
      refine own_new C S561 (own_wd hw 53 rfl) (own_wd hw 54 rfl) (own_wd hw 55 rfl) (by decide +kernel) (by decide) (by decide) ?_
      intro T677 h679 a680 S678 g681 E682 x683 D684
      have f685 : Fld Z h679 a680 "com/example/answer_by_role/answerbyrole/analysis/label/Argument" "predicate" "I" (.int (0 : Int32)) := D684 (ty := .int) (Or.inr (own_wd hw 62 rfl)) own_fd0
      have f686 : Fld Z h679 a680 "com/example/answer_by_role/answerbyrole/analysis/label/Argument" "head" "I" (.int (0 : Int32)) := D684 (ty := .int) (Or.inr (own_wd hw 64 rfl)) own_fd0
      have f687 : Fld Z h679 a680 "com/example/answer_by_role/answerbyrole/analysis/label/Argument" "label" "Ljava/lang/String;" .null := D684 (ty := (.object "java/lang/String")) (Or.inr (own_wd hw 66 rfl)) own_fd1
      refine own_seg C S678 [(201, .dup, 1), (202, .iload_n 0, 1), (203, .iconst 3, 1), (204, .iushr, 1)] (by decide +kernel) 205 #[.val (.int x1), .val (.int x2), .val (.int x3), .val (.int x4), .val (.int x5), .val (.int x6), .val (.int (1 : Int32)), .val (.int (0 : Int32)), .val (.int (1 : Int32)), .val (.ref a420), .val (.ref a442), .val (.ref a474), .val (.ref a503), .val (.int (x4 &&& 2147483647)), .val (.int (if (x4 &&& 2147483647) < (x5 &&& 2147483647) then (x5 &&& 2147483647) else (x4 &&& 2147483647))), .val (.ref a542), .val .null, .unset, .unset, .unset, .unset] [(.int (Jvm.Free.XT.ushr x1 (3 : Int32))), (.ref a680), (.ref a680)] rfl ?_
      refine own_ldc C S678 (own_wd hw 56 rfl) (by decide +kernel) ?_
      refine own_seg C S678 [(207, .iand, 1), (208, .iload_n 0, 1), (209, .bipush 19, 2), (211, .iushr, 1), (212, .sipush 4095, 3), (215, .iand, 1), (216, .aload 10, 2)] (by decide +kernel) 218 #[.val (.int x1), .val (.int x2), .val (.int x3), .val (.int x4), .val (.int x5), .val (.int x6), .val (.int (1 : Int32)), .val (.int (0 : Int32)), .val (.int (1 : Int32)), .val (.ref a420), .val (.ref a442), .val (.ref a474), .val (.ref a503), .val (.int (x4 &&& 2147483647)), .val (.int (if (x4 &&& 2147483647) < (x5 &&& 2147483647) then (x5 &&& 2147483647) else (x4 &&& 2147483647))), .val (.ref a542), .val .null, .unset, .unset, .unset, .unset] [(.ref a442), (.int ((Jvm.Free.XT.ushr x1 (19 : Int32)) &&& (4095 : Int32))), (.int ((Jvm.Free.XT.ushr x1 (3 : Int32)) &&& 65535)), (.ref a680), (.ref a680)] rfl ?_
      have f688 : n0 ≤ h679.size := (Nat.le_trans (Nat.le_trans f550 K552.1) E682.1)
      have f689 : n0 ≤ h558.size := (Nat.le_trans f550 K552.1)
      have g690 : n0 ≤ a680 := by rw [g681]; exact f689
      refine own_callI C S678 rfl (own_wd hw 57 rfl) (own_wd hw 58 rfl) (own_wd hw 59 rfl) (by decide) (own_Met.pay (own_ar l Z a0 hw a680 ((Jvm.Free.XT.ushr x1 (3 : Int32)) &&& 65535) ((Jvm.Free.XT.ushr x1 (19 : Int32)) &&& (4095 : Int32)) a442 h679 n0 f688 g690 x683 f685 f686 f687 (own_nn _ _ (by decide)) (own_nn _ _ (by decide))) C 1 (own_wd hw 59 rfl) (own_wd hw 55 rfl) (by decide) (by decide)) (fun _ _ _ q => q.2) [(.int ((Jvm.Free.XT.ushr x1 (3 : Int32)) &&& 65535)), (.int ((Jvm.Free.XT.ushr x1 (19 : Int32)) &&& (4095 : Int32))), (.ref a442)] [(.ref a680)] rfl own_pd5 rfl rfl rfl (Nat.le_of_ble_eq_true rfl) (by decide) (by decide) (by decide +kernel) ?_
      rintro T696 h697 v698 L699 S700 ⟨⟨rfl, K691, x692, f693, f694, f695⟩, -⟩
      replace S700 : own_S p l e room_1 s m #[(.int x1), (.int x2), (.int x3), (.int x4), (.int x5), (.int x6)] below meth c n0 T696 h697 8 24 := S700
      show own_Go p e below s n0 _ _ _ T696 (mkF m 221 #[.val (.int x1), .val (.int x2), .val (.int x3), .val (.int x4), .val (.int x5), .val (.int x6), .val (.int (1 : Int32)), .val (.int (0 : Int32)), .val (.int (1 : Int32)), .val (.ref a420), .val (.ref a442), .val (.ref a474), .val (.ref a503), .val (.int (x4 &&& 2147483647)), .val (.int (if (x4 &&& 2147483647) < (x5 &&& 2147483647) then (x5 &&& 2147483647) else (x4 &&& 2147483647))), .val (.ref a542), .val .null, .unset, .unset, .unset, .unset] [(.ref a680)])
      refine own_seg C S700 [(221, .astore 16, 2), (223, .aconst_null, 1), (224, .astore 17, 2), (226, .iload 7, 2)] (by decide +kernel) 228 #[.val (.int x1), .val (.int x2), .val (.int x3), .val (.int x4), .val (.int x5), .val (.int x6), .val (.int (1 : Int32)), .val (.int (0 : Int32)), .val (.int (1 : Int32)), .val (.ref a420), .val (.ref a442), .val (.ref a474), .val (.ref a503), .val (.int (x4 &&& 2147483647)), .val (.int (if (x4 &&& 2147483647) < (x5 &&& 2147483647) then (x5 &&& 2147483647) else (x4 &&& 2147483647))), .val (.ref a542), .val (.ref a680), .val .null, .unset, .unset, .unset] [(.int (0 : Int32))] rfl ?_
      refine own_if C S700 (q := .eq) (o := 7) (by decide +kernel) 235 (by decide) (by decide) (fun (q701 : (0 : Int32) = (0 : Int32)) => ?_) (fun (hq : ¬ (0 : Int32) = (0 : Int32)) => False.elim (absurd hq (by decide)))
      refine own_new C S700 (own_wd hw 67 rfl) (own_wd hw 68 rfl) (own_wd hw 69 rfl) (by decide +kernel) (by decide) (by decide) ?_
      intro T702 h704 a705 S703 g706 E707 x708 D709
      have f710 : Fld Z h704 a705 "com/example/answer_by_role/answerbyrole/engine/extraction/Candidate" "position" "Lcom/example/answer_by_role/answerbyrole/engine/index/SentencePosition;" .null := D709 (ty := (.object "com/example/answer_by_role/answerbyrole/engine/index/SentencePosition")) (Or.inr (own_wd hw 75 rfl)) own_fd2
      have f711 : Fld Z h704 a705 "com/example/answer_by_role/answerbyrole/engine/extraction/Candidate" "first" "I" (.int (0 : Int32)) := D709 (ty := .int) (Or.inr (own_wd hw 77 rfl)) own_fd0
      have f712 : Fld Z h704 a705 "com/example/answer_by_role/answerbyrole/engine/extraction/Candidate" "last" "I" (.int (0 : Int32)) := D709 (ty := .int) (Or.inr (own_wd hw 79 rfl)) own_fd0
      have f713 : Fld Z h704 a705 "com/example/answer_by_role/answerbyrole/engine/extraction/Candidate" "text" "Ljava/lang/String;" .null := D709 (ty := (.object "java/lang/String")) (Or.inr (own_wd hw 81 rfl)) own_fd1
      have f714 : Fld Z h704 a705 "com/example/answer_by_role/answerbyrole/engine/extraction/Candidate" "argument" "Lcom/example/answer_by_role/answerbyrole/analysis/label/Argument;" .null := D709 (ty := (.object "com/example/answer_by_role/answerbyrole/analysis/label/Argument")) (Or.inr (own_wd hw 83 rfl)) own_fd3
      have f715 : Fld Z h704 a705 "com/example/answer_by_role/answerbyrole/engine/extraction/Candidate" "fills" "Z" (.int (0 : Int32)) := D709 (ty := .boolean) (Or.inr (own_wd hw 85 rfl)) own_fd4
      have f716 : Fld Z h704 a705 "com/example/answer_by_role/answerbyrole/engine/extraction/Candidate" "entityType" "Ljava/lang/String;" .null := D709 (ty := (.object "java/lang/String")) (Or.inr (own_wd hw 87 rfl)) own_fd1
      refine own_seg C S703 [(238, .dup, 1), (239, .aload 15, 2), (241, .iload 13, 2), (243, .iload 14, 2), (245, .aload 10, 2), (247, .aload 16, 2), (249, .iload 6, 2), (251, .aload 17, 2)] (by decide +kernel) 253 #[.val (.int x1), .val (.int x2), .val (.int x3), .val (.int x4), .val (.int x5), .val (.int x6), .val (.int (1 : Int32)), .val (.int (0 : Int32)), .val (.int (1 : Int32)), .val (.ref a420), .val (.ref a442), .val (.ref a474), .val (.ref a503), .val (.int (x4 &&& 2147483647)), .val (.int (if (x4 &&& 2147483647) < (x5 &&& 2147483647) then (x5 &&& 2147483647) else (x4 &&& 2147483647))), .val (.ref a542), .val (.ref a680), .val .null, .unset, .unset, .unset] [.null, (.int (1 : Int32)), (.ref a680), (.ref a442), (.int (if (x4 &&& 2147483647) < (x5 &&& 2147483647) then (x5 &&& 2147483647) else (x4 &&& 2147483647))), (.int (x4 &&& 2147483647)), (.ref a542), (.ref a705), (.ref a705)] rfl ?_
      have f717 : n0 ≤ h704.size := (Nat.le_trans (Nat.le_trans f688 K691.1) E707.1)
      have f718 : n0 ≤ h697.size := (Nat.le_trans f688 K691.1)
      have g719 : n0 ≤ a705 := by rw [g706]; exact f718
      refine own_callI C S703 rfl (own_wd hw 70 rfl) (own_wd hw 71 rfl) (own_wd hw 72 rfl) (by decide) (own_Met.pay (own_ca101 l Z a0 hw a705 a542 (x4 &&& 2147483647) (if (x4 &&& 2147483647) < (x5 &&& 2147483647) then (x5 &&& 2147483647) else (x4 &&& 2147483647)) a442 a680 h704 n0 f717 g719 x708 f710 f711 f712 f713 f714 f715 f716 (own_nn _ _ (by decide)) (own_mx _ _)) C 1 (own_wd hw 72 rfl) (own_wd hw 69 rfl) (by decide) (by decide)) (fun _ _ _ q => q.2) [(.ref a542), (.int (x4 &&& 2147483647)), (.int (if (x4 &&& 2147483647) < (x5 &&& 2147483647) then (x5 &&& 2147483647) else (x4 &&& 2147483647))), (.ref a442), (.ref a680), (.int (1 : Int32)), .null] [(.ref a705)] rfl own_pd6 rfl rfl rfl (Nat.le_of_ble_eq_true rfl) (by decide) (by decide) (by decide +kernel) ?_
      rintro T729 h730 v731 L732 S733 ⟨⟨rfl, K720, x721, f722, f723, f724, f725, f726, f727, f728⟩, -⟩
      replace S733 : own_S p l e room_1 s m #[(.int x1), (.int x2), (.int x3), (.int x4), (.int x5), (.int x6)] below meth c n0 T729 h730 9 31 := S733
      show own_Go p e below s n0 _ _ _ T729 (mkF m 256 #[.val (.int x1), .val (.int x2), .val (.int x3), .val (.int x4), .val (.int x5), .val (.int x6), .val (.int (1 : Int32)), .val (.int (0 : Int32)), .val (.int (1 : Int32)), .val (.ref a420), .val (.ref a442), .val (.ref a474), .val (.ref a503), .val (.int (x4 &&& 2147483647)), .val (.int (if (x4 &&& 2147483647) < (x5 &&& 2147483647) then (x5 &&& 2147483647) else (x4 &&& 2147483647))), .val (.ref a542), .val (.ref a680), .val .null, .unset, .unset, .unset] [(.ref a705)])
      refine own_seg C S733 [(256, .astore 18, 2), (258, .aload 18, 2)] (by decide +kernel) 260 #[.val (.int x1), .val (.int x2), .val (.int x3), .val (.int x4), .val (.int x5), .val (.int x6), .val (.int (1 : Int32)), .val (.int (0 : Int32)), .val (.int (1 : Int32)), .val (.ref a420), .val (.ref a442), .val (.ref a474), .val (.ref a503), .val (.int (x4 &&& 2147483647)), .val (.int (if (x4 &&& 2147483647) < (x5 &&& 2147483647) then (x5 &&& 2147483647) else (x4 &&& 2147483647))), .val (.ref a542), .val (.ref a680), .val .null, .val (.ref a705), .unset, .unset] [(.ref a705)] rfl ?_
      have f734 : Exa Z h730 a680 "com/example/answer_by_role/answerbyrole/analysis/label/Argument" := ((Exa.ext E707 x692).keep K720)
      have f735 : a680 < h697.size := (Nat.lt_of_lt_of_le f685.lt K691.1)
      have n736 : a680 ≠ a705 := by rw [g706]; exact Nat.ne_of_lt f735
      have f737 : Fld Z h730 a680 "com/example/answer_by_role/answerbyrole/analysis/label/Argument" "label" "Ljava/lang/String;" (.ref a442) := ((Fld.ext E707 f695).keep K720 (ninS n736 nin0))
      have f738 : n0 ≤ h730.size := (Nat.le_trans f717 K720.1)
      refine own_callV C S733 (own_wd hw 88 rfl) (own_wd hw 89 rfl) (own_wd hw 91 rfl) (own_wd hw 91 rfl) (own_wd hw 90 rfl) (by decide) (own_Met.pay (own_lab1 l Z a0 hw a705 a680 a442 h730 n0 f738 x721 f727 f726 f734 f737) C 0 (own_wd hw 92 rfl) (own_wd hw 69 rfl) (by decide) (by decide)) (fun _ _ _ q => q.2) x721 [] [] rfl own_pd1 rfl rfl rfl (Nat.le_of_ble_eq_true rfl) (by decide) (by decide) (by decide +kernel) ?_
      rintro T740 h741 v742 L743 S744 ⟨⟨rfl, e739⟩, -⟩
      replace S744 : own_S p l e room_1 s m #[(.int x1), (.int x2), (.int x3), (.int x4), (.int x5), (.int x6)] below meth c n0 T740 h741 9 31 := S744
      rw [e739] at S744; clear e739
      show own_Go p e below s n0 _ _ _ T740 (mkF m 263 #[.val (.int x1), .val (.int x2), .val (.int x3), .val (.int x4), .val (.int x5), .val (.int x6), .val (.int (1 : Int32)), .val (.int (0 : Int32)), .val (.int (1 : Int32)), .val (.ref a420), .val (.ref a442), .val (.ref a474), .val (.ref a503), .val (.int (x4 &&& 2147483647)), .val (.int (if (x4 &&& 2147483647) < (x5 &&& 2147483647) then (x5 &&& 2147483647) else (x4 &&& 2147483647))), .val (.ref a542), .val (.ref a680), .val .null, .val (.ref a705), .unset, .unset] [(.ref a442)])
      refine own_seg C S744 [(263, .astore 19, 2), (265, .iload 6, 2)] (by decide +kernel) 267 #[.val (.int x1), .val (.int x2), .val (.int x3), .val (.int x4), .val (.int x5), .val (.int x6), .val (.int (1 : Int32)), .val (.int (0 : Int32)), .val (.int (1 : Int32)), .val (.ref a420), .val (.ref a442), .val (.ref a474), .val (.ref a503), .val (.int (x4 &&& 2147483647)), .val (.int (if (x4 &&& 2147483647) < (x5 &&& 2147483647) then (x5 &&& 2147483647) else (x4 &&& 2147483647))), .val (.ref a542), .val (.ref a680), .val .null, .val (.ref a705), .val (.ref a442), .unset] [(.int (1 : Int32))] rfl ?_
      refine own_if C S744 (q := .eq) (o := 10) (by decide +kernel) 277 (by decide) (by decide) (fun (hq : (1 : Int32) = (0 : Int32)) => False.elim (absurd hq (by decide))) (fun (q745 : ¬ (1 : Int32) = (0 : Int32)) => ?_)
      refine own_seg C S744 [(270, .aload 10, 2), (272, .astore 20, 2), (274, .goto 19, 3), (293, .aload 19, 2), (295, .ifnull 30, 3), (298, .aload 19, 2)] (by decide +kernel) 300 #[.val (.int x1), .val (.int x2), .val (.int x3), .val (.int x4), .val (.int x5), .val (.int x6), .val (.int (1 : Int32)), .val (.int (0 : Int32)), .val (.int (1 : Int32)), .val (.ref a420), .val (.ref a442), .val (.ref a474), .val (.ref a503), .val (.int (x4 &&& 2147483647)), .val (.int (if (x4 &&& 2147483647) < (x5 &&& 2147483647) then (x5 &&& 2147483647) else (x4 &&& 2147483647))), .val (.ref a542), .val (.ref a680), .val .null, .val (.ref a705), .val (.ref a442), .val (.ref a442)] [(.ref a442)] rfl ?_
      have f746 : Exa Z h730 a442 "java/lang/String" := ((Exa.ext E707 ((Exa.ext E682 ((Exa.ext E544 ((Exa.ext E505 (Exa.wr W497 (Exa.wr W491 (Exa.wr W485 (Exa.ext E477 x456))))).keep K516)).keep K552)).keep K691)).keep K720)
      have f747 : a442 < h466.size := (Nat.lt_of_lt_of_le f448.lt K455.1)
      have n748 : a442 ≠ a474 := by rw [g476]; exact Nat.ne_of_lt f747
      have f749 : a442 < h496.size := (by rw [W497.size]; exact (by rw [W491.size]; exact (by rw [W485.size]; exact (Nat.lt_of_lt_of_le f747 E477.1))))
      have n750 : a442 ≠ a503 := by rw [g504]; exact Nat.ne_of_lt f749
      have f751 : a442 < h527.size := (Nat.lt_of_lt_of_le (Nat.lt_of_lt_of_le f749 E505.1) K516.1)
      have n752 : a442 ≠ a542 := by rw [g543]; exact Nat.ne_of_lt f751
      have f753 : a442 < h558.size := (Nat.lt_of_lt_of_le (Nat.lt_of_lt_of_le f751 E544.1) K552.1)
      have n754 : a442 ≠ a680 := by rw [g681]; exact Nat.ne_of_lt f753
      have f755 : a442 < h697.size := (Nat.lt_of_lt_of_le (Nat.lt_of_lt_of_le f753 E682.1) K691.1)
      have n756 : a442 ≠ a705 := by rw [g706]; exact Nat.ne_of_lt f755
      have f757 : Fld Z h730 a442 "java/lang/String" "value" "[B" (.ref t458) := ((Fld.ext E707 ((Fld.ext E682 ((Fld.ext E544 ((Fld.ext E505 (Fld.other W497 (Fld.other W491 (Fld.other W485 (Fld.ext E477 f463) (Or.inl n748)) (Or.inl n748)) (Or.inl n748))).keep K516 (ninS n750 nin0))).keep K552 (ninS n752 nin0))).keep K691 (ninS n754 nin0))).keep K720 (ninS n756 nin0))
      have f758 : Fld Z h730 a442 "java/lang/String" "coder" "B" (.int 0) := ((Fld.ext E707 ((Fld.ext E682 ((Fld.ext E544 ((Fld.ext E505 (Fld.other W497 (Fld.other W491 (Fld.other W485 (Fld.ext E477 f457) (Or.inl n748)) (Or.inl n748)) (Or.inl n748))).keep K516 (ninS n750 nin0))).keep K552 (ninS n752 nin0))).keep K691 (ninS n754 nin0))).keep K720 (ninS n756 nin0))
      have n759 : t458 ≠ a474 := by rw [g476]; exact Nat.ne_of_lt f464.lt
      have f760 : t458 < h496.size := (by rw [W497.size]; exact (by rw [W491.size]; exact (by rw [W485.size]; exact (Nat.lt_of_lt_of_le f464.lt E477.1))))
      have n761 : t458 ≠ a503 := by rw [g504]; exact Nat.ne_of_lt f760
      have f762 : t458 < h527.size := (Nat.lt_of_lt_of_le (Nat.lt_of_lt_of_le f760 E505.1) K516.1)
      have n763 : t458 ≠ a542 := by rw [g543]; exact Nat.ne_of_lt f762
      have f764 : t458 < h558.size := (Nat.lt_of_lt_of_le (Nat.lt_of_lt_of_le f762 E544.1) K552.1)
      have n765 : t458 ≠ a680 := by rw [g681]; exact Nat.ne_of_lt f764
      have f766 : t458 < h697.size := (Nat.lt_of_lt_of_le (Nat.lt_of_lt_of_le f764 E682.1) K691.1)
      have n767 : t458 ≠ a705 := by rw [g706]; exact Nat.ne_of_lt f766
      have f768 : Arv Z h730 t458 k459 .byte (2 : Int32) (((([(x2 &&& (255 : Int32)), ((Jvm.Free.XT.ushr x2 (8 : Int32)) &&& (255 : Int32))] : List Int32)).map (fun c => c.toInt8.toInt32)).map Value.int) (.int 0) := ((((((((((((f464.ext E477).other W485 n759).other W491 n759).other W497 n759).ext E505).keep K516 (ninS n761 nin0)).ext E544).keep K552 (ninS n763 nin0)).ext E682).keep K691 (ninS n765 nin0)).ext E707).keep K720 (ninS n767 nin0))
      have f769 : Old Z n0 h730 := (((((((f515.keep K516 (allS g513 all0)).ext E544).keep K552 (allS g551 all0)).ext E682).keep K691 (allS g690 all0)).ext E707).keep K720 (allS g719 all0))
      refine own_callV C S744 (own_wd hw 98 rfl) (own_wd hw 99 rfl) (own_wd hw 101 rfl) (own_wd hw 101 rfl) (own_wd hw 100 rfl) (by decide) (Q := (fun v h' L => v = some (.int (Int32.ofNat (([(x2 &&& (255 : Int32)), ((Jvm.Free.XT.ushr x2 (8 : Int32)) &&& (255 : Int32))] : List Int32)).length)) ∧ L = [] ∧ h' = h730)) (StrChars.Road.lenW (W := 0) C.2.2.2.2.2.2.2 (fun d hd => hw d (own_hln d hd)) (kI := 4) (own_wd hw 2 rfl) f746 f757 f758 f768 hcd470 (own_up _ hp449) (O2.ext f769.2) P5 (Nat.le_of_ble_eq_true rfl) (by decide) (by decide)) (fun _ _ L q => by rw [q.2.1]; exact Fr.nil _) f746 [] [] rfl own_pd7 rfl rfl rfl (Nat.le_of_ble_eq_true rfl) (by decide) (by decide) (by decide +kernel) ?_
      rintro T771 h772 v773 L774 S775 ⟨rfl, -, e770⟩
      replace S775 : own_S p l e room_1 s m #[(.int x1), (.int x2), (.int x3), (.int x4), (.int x5), (.int x6)] below meth c n0 T771 h772 9 31 := S775
      rw [e770] at S775; clear e770
      show own_Go p e below s n0 _ _ _ T771 (mkF m 303 #[.val (.int x1), .val (.int x2), .val (.int x3), .val (.int x4), .val (.int x5), .val (.int x6), .val (.int (1 : Int32)), .val (.int (0 : Int32)), .val (.int (1 : Int32)), .val (.ref a420), .val (.ref a442), .val (.ref a474), .val (.ref a503), .val (.int (x4 &&& 2147483647)), .val (.int (if (x4 &&& 2147483647) < (x5 &&& 2147483647) then (x5 &&& 2147483647) else (x4 &&& 2147483647))), .val (.ref a542), .val (.ref a680), .val .null, .val (.ref a705), .val (.ref a442), .val (.ref a442)] [(.int (2 : Int32))])
      refine own_seg C S775 [(303, .aload 20, 2)] (by decide +kernel) 305 #[.val (.int x1), .val (.int x2), .val (.int x3), .val (.int x4), .val (.int x5), .val (.int x6), .val (.int (1 : Int32)), .val (.int (0 : Int32)), .val (.int (1 : Int32)), .val (.ref a420), .val (.ref a442), .val (.ref a474), .val (.ref a503), .val (.int (x4 &&& 2147483647)), .val (.int (if (x4 &&& 2147483647) < (x5 &&& 2147483647) then (x5 &&& 2147483647) else (x4 &&& 2147483647))), .val (.ref a542), .val (.ref a680), .val .null, .val (.ref a705), .val (.ref a442), .val (.ref a442)] [(.ref a442), (.int (2 : Int32))] rfl ?_
      refine own_callV C S775 (own_wd hw 98 rfl) (own_wd hw 99 rfl) (own_wd hw 101 rfl) (own_wd hw 101 rfl) (own_wd hw 100 rfl) (by decide) (Q := (fun v h' L => v = some (.int (Int32.ofNat (([(x2 &&& (255 : Int32)), ((Jvm.Free.XT.ushr x2 (8 : Int32)) &&& (255 : Int32))] : List Int32)).length)) ∧ L = [] ∧ h' = h730)) (StrChars.Road.lenW (W := 1) C.2.2.2.2.2.2.2 (fun d hd => hw d (own_hln d hd)) (kI := 4) (own_wd hw 2 rfl) f746 f757 f758 f768 hcd470 (own_up _ hp449) (O2.ext f769.2) P5 (Nat.le_of_ble_eq_true rfl) (by decide) (by decide)) (fun _ _ L q => by rw [q.2.1]; exact Fr.nil _) f746 [] [(.int (2 : Int32))] rfl own_pd7 rfl rfl rfl (Nat.le_of_ble_eq_true rfl) (by decide) (by decide) (by decide +kernel) ?_
      rintro T777 h778 v779 L780 S781 ⟨rfl, -, e776⟩
      replace S781 : own_S p l e room_1 s m #[(.int x1), (.int x2), (.int x3), (.int x4), (.int x5), (.int x6)] below meth c n0 T777 h778 9 31 := S781
      rw [e776] at S781; clear e776
      show own_Go p e below s n0 _ _ _ T777 (mkF m 308 #[.val (.int x1), .val (.int x2), .val (.int x3), .val (.int x4), .val (.int x5), .val (.int x6), .val (.int (1 : Int32)), .val (.int (0 : Int32)), .val (.int (1 : Int32)), .val (.ref a420), .val (.ref a442), .val (.ref a474), .val (.ref a503), .val (.int (x4 &&& 2147483647)), .val (.int (if (x4 &&& 2147483647) < (x5 &&& 2147483647) then (x5 &&& 2147483647) else (x4 &&& 2147483647))), .val (.ref a542), .val (.ref a680), .val .null, .val (.ref a705), .val (.ref a442), .val (.ref a442)] [(.int (2 : Int32)), (.int (2 : Int32))])
      refine own_icmp C S781 (q := .ne) (o := 17) (by decide +kernel) 325 (by decide) (by decide) (fun (hq : ¬ (2 : Int32) = (2 : Int32)) => False.elim (hq rfl)) (fun (q782 : (2 : Int32) = (2 : Int32)) => ?_)
      refine own_seg C S781 [(311, .aload 19, 2), (313, .aload 20, 2)] (by decide +kernel) 315 #[.val (.int x1), .val (.int x2), .val (.int x3), .val (.int x4), .val (.int x5), .val (.int x6), .val (.int (1 : Int32)), .val (.int (0 : Int32)), .val (.int (1 : Int32)), .val (.ref a420), .val (.ref a442), .val (.ref a474), .val (.ref a503), .val (.int (x4 &&& 2147483647)), .val (.int (if (x4 &&& 2147483647) < (x5 &&& 2147483647) then (x5 &&& 2147483647) else (x4 &&& 2147483647))), .val (.ref a542), .val (.ref a680), .val .null, .val (.ref a705), .val (.ref a442), .val (.ref a442)] [(.ref a442), (.ref a442)] rfl ?_
      refine own_callV C S781 (own_wd hw 108 rfl) (own_wd hw 109 rfl) (own_wd hw 111 rfl) (own_wd hw 111 rfl) (own_wd hw 110 rfl) (by decide) (own_Met.pay (own_eqs l Z a0 hw a442 h730 n0 f738) C 0 (own_wd hw 112 rfl) (own_wd hw 3 rfl) (by decide) (by decide)) (fun _ _ _ q => q.2) f746 [(.ref a442)] [] rfl own_pd8 rfl rfl rfl (Nat.le_of_ble_eq_true rfl) (by decide) (by decide) (by decide +kernel) ?_
      rintro T784 h785 v786 L787 S788 ⟨⟨rfl, e783⟩, -⟩
      replace S788 : own_S p l e room_1 s m #[(.int x1), (.int x2), (.int x3), (.int x4), (.int x5), (.int x6)] below meth c n0 T784 h785 9 31 := S788
      rw [e783] at S788; clear e783
      show own_Go p e below s n0 _ _ _ T784 (mkF m 318 #[.val (.int x1), .val (.int x2), .val (.int x3), .val (.int x4), .val (.int x5), .val (.int x6), .val (.int (1 : Int32)), .val (.int (0 : Int32)), .val (.int (1 : Int32)), .val (.ref a420), .val (.ref a442), .val (.ref a474), .val (.ref a503), .val (.int (x4 &&& 2147483647)), .val (.int (if (x4 &&& 2147483647) < (x5 &&& 2147483647) then (x5 &&& 2147483647) else (x4 &&& 2147483647))), .val (.ref a542), .val (.ref a680), .val .null, .val (.ref a705), .val (.ref a442), .val (.ref a442)] [(.int (1 : Int32))])
      refine own_if C S788 (q := .eq) (o := 7) (by decide +kernel) 325 (by decide) (by decide) (fun (hq : (1 : Int32) = (0 : Int32)) => False.elim (absurd hq (by decide))) (fun (q789 : ¬ (1 : Int32) = (0 : Int32)) => ?_)
      refine own_seg C S788 [(321, .iconst 1, 1), (322, .goto 4, 3)] (by decide +kernel) 326 #[.val (.int x1), .val (.int x2), .val (.int x3), .val (.int x4), .val (.int x5), .val (.int x6), .val (.int (1 : Int32)), .val (.int (0 : Int32)), .val (.int (1 : Int32)), .val (.ref a420), .val (.ref a442), .val (.ref a474), .val (.ref a503), .val (.int (x4 &&& 2147483647)), .val (.int (if (x4 &&& 2147483647) < (x5 &&& 2147483647) then (x5 &&& 2147483647) else (x4 &&& 2147483647))), .val (.ref a542), .val (.ref a680), .val .null, .val (.ref a705), .val (.ref a442), .val (.ref a442)] [(.int (1 : Int32))] rfl ?_
      refine own_retZ C S788 (by decide +kernel) (by decide) (by decide) (by decide) ?_
      rfl
    · refine own_if C S561 (q := .eq) (o := 28) (by decide +kernel) 223 (by decide) (by decide) (fun (hq : (1 : Int32) = (0 : Int32)) => False.elim (absurd hq (by decide))) (fun (q790 : ¬ (1 : Int32) = (0 : Int32)) => ?_)
      refine own_new C S561 (own_wd hw 53 rfl) (own_wd hw 54 rfl) (own_wd hw 55 rfl) (by decide +kernel) (by decide) (by decide) ?_
      intro T791 h793 a794 S792 g795 E796 x797 D798
      have f799 : Fld Z h793 a794 "com/example/answer_by_role/answerbyrole/analysis/label/Argument" "predicate" "I" (.int (0 : Int32)) := D798 (ty := .int) (Or.inr (own_wd hw 62 rfl)) own_fd0
      have f800 : Fld Z h793 a794 "com/example/answer_by_role/answerbyrole/analysis/label/Argument" "head" "I" (.int (0 : Int32)) := D798 (ty := .int) (Or.inr (own_wd hw 64 rfl)) own_fd0
      have f801 : Fld Z h793 a794 "com/example/answer_by_role/answerbyrole/analysis/label/Argument" "label" "Ljava/lang/String;" .null := D798 (ty := (.object "java/lang/String")) (Or.inr (own_wd hw 66 rfl)) own_fd1
      refine own_seg C S792 [(201, .dup, 1), (202, .iload_n 0, 1), (203, .iconst 3, 1), (204, .iushr, 1)] (by decide +kernel) 205 #[.val (.int x1), .val (.int x2), .val (.int x3), .val (.int x4), .val (.int x5), .val (.int x6), .val (.int (0 : Int32)), .val (.int (0 : Int32)), .val (.int (1 : Int32)), .val (.ref a420), .val (.ref a442), .val (.ref a474), .val (.ref a503), .val (.int (x4 &&& 2147483647)), .val (.int (if (x4 &&& 2147483647) < (x5 &&& 2147483647) then (x5 &&& 2147483647) else (x4 &&& 2147483647))), .val (.ref a542), .val .null, .unset, .unset, .unset, .unset] [(.int (Jvm.Free.XT.ushr x1 (3 : Int32))), (.ref a794), (.ref a794)] rfl ?_
      refine own_ldc C S792 (own_wd hw 56 rfl) (by decide +kernel) ?_
      refine own_seg C S792 [(207, .iand, 1), (208, .iload_n 0, 1), (209, .bipush 19, 2), (211, .iushr, 1), (212, .sipush 4095, 3), (215, .iand, 1), (216, .aload 10, 2)] (by decide +kernel) 218 #[.val (.int x1), .val (.int x2), .val (.int x3), .val (.int x4), .val (.int x5), .val (.int x6), .val (.int (0 : Int32)), .val (.int (0 : Int32)), .val (.int (1 : Int32)), .val (.ref a420), .val (.ref a442), .val (.ref a474), .val (.ref a503), .val (.int (x4 &&& 2147483647)), .val (.int (if (x4 &&& 2147483647) < (x5 &&& 2147483647) then (x5 &&& 2147483647) else (x4 &&& 2147483647))), .val (.ref a542), .val .null, .unset, .unset, .unset, .unset] [(.ref a442), (.int ((Jvm.Free.XT.ushr x1 (19 : Int32)) &&& (4095 : Int32))), (.int ((Jvm.Free.XT.ushr x1 (3 : Int32)) &&& 65535)), (.ref a794), (.ref a794)] rfl ?_
      have f802 : n0 ≤ h793.size := (Nat.le_trans (Nat.le_trans f550 K552.1) E796.1)
      have f803 : n0 ≤ h558.size := (Nat.le_trans f550 K552.1)
      have g804 : n0 ≤ a794 := by rw [g795]; exact f803
      refine own_callI C S792 rfl (own_wd hw 57 rfl) (own_wd hw 58 rfl) (own_wd hw 59 rfl) (by decide) (own_Met.pay (own_ar l Z a0 hw a794 ((Jvm.Free.XT.ushr x1 (3 : Int32)) &&& 65535) ((Jvm.Free.XT.ushr x1 (19 : Int32)) &&& (4095 : Int32)) a442 h793 n0 f802 g804 x797 f799 f800 f801 (own_nn _ _ (by decide)) (own_nn _ _ (by decide))) C 1 (own_wd hw 59 rfl) (own_wd hw 55 rfl) (by decide) (by decide)) (fun _ _ _ q => q.2) [(.int ((Jvm.Free.XT.ushr x1 (3 : Int32)) &&& 65535)), (.int ((Jvm.Free.XT.ushr x1 (19 : Int32)) &&& (4095 : Int32))), (.ref a442)] [(.ref a794)] rfl own_pd5 rfl rfl rfl (Nat.le_of_ble_eq_true rfl) (by decide) (by decide) (by decide +kernel) ?_
      rintro T810 h811 v812 L813 S814 ⟨⟨rfl, K805, x806, f807, f808, f809⟩, -⟩
      replace S814 : own_S p l e room_1 s m #[(.int x1), (.int x2), (.int x3), (.int x4), (.int x5), (.int x6)] below meth c n0 T810 h811 8 24 := S814
      show own_Go p e below s n0 _ _ _ T810 (mkF m 221 #[.val (.int x1), .val (.int x2), .val (.int x3), .val (.int x4), .val (.int x5), .val (.int x6), .val (.int (0 : Int32)), .val (.int (0 : Int32)), .val (.int (1 : Int32)), .val (.ref a420), .val (.ref a442), .val (.ref a474), .val (.ref a503), .val (.int (x4 &&& 2147483647)), .val (.int (if (x4 &&& 2147483647) < (x5 &&& 2147483647) then (x5 &&& 2147483647) else (x4 &&& 2147483647))), .val (.ref a542), .val .null, .unset, .unset, .unset, .unset] [(.ref a794)])
      refine own_seg C S814 [(221, .astore 16, 2), (223, .aconst_null, 1), (224, .astore 17, 2), (226, .iload 7, 2)] (by decide +kernel) 228 #[.val (.int x1), .val (.int x2), .val (.int x3), .val (.int x4), .val (.int x5), .val (.int x6), .val (.int (0 : Int32)), .val (.int (0 : Int32)), .val (.int (1 : Int32)), .val (.ref a420), .val (.ref a442), .val (.ref a474), .val (.ref a503), .val (.int (x4 &&& 2147483647)), .val (.int (if (x4 &&& 2147483647) < (x5 &&& 2147483647) then (x5 &&& 2147483647) else (x4 &&& 2147483647))), .val (.ref a542), .val (.ref a794), .val .null, .unset, .unset, .unset] [(.int (0 : Int32))] rfl ?_
      refine own_if C S814 (q := .eq) (o := 7) (by decide +kernel) 235 (by decide) (by decide) (fun (q815 : (0 : Int32) = (0 : Int32)) => ?_) (fun (hq : ¬ (0 : Int32) = (0 : Int32)) => False.elim (absurd hq (by decide)))
      refine own_new C S814 (own_wd hw 67 rfl) (own_wd hw 68 rfl) (own_wd hw 69 rfl) (by decide +kernel) (by decide) (by decide) ?_
      intro T816 h818 a819 S817 g820 E821 x822 D823
      have f824 : Fld Z h818 a819 "com/example/answer_by_role/answerbyrole/engine/extraction/Candidate" "position" "Lcom/example/answer_by_role/answerbyrole/engine/index/SentencePosition;" .null := D823 (ty := (.object "com/example/answer_by_role/answerbyrole/engine/index/SentencePosition")) (Or.inr (own_wd hw 75 rfl)) own_fd2
      have f825 : Fld Z h818 a819 "com/example/answer_by_role/answerbyrole/engine/extraction/Candidate" "first" "I" (.int (0 : Int32)) := D823 (ty := .int) (Or.inr (own_wd hw 77 rfl)) own_fd0
      have f826 : Fld Z h818 a819 "com/example/answer_by_role/answerbyrole/engine/extraction/Candidate" "last" "I" (.int (0 : Int32)) := D823 (ty := .int) (Or.inr (own_wd hw 79 rfl)) own_fd0
      have f827 : Fld Z h818 a819 "com/example/answer_by_role/answerbyrole/engine/extraction/Candidate" "text" "Ljava/lang/String;" .null := D823 (ty := (.object "java/lang/String")) (Or.inr (own_wd hw 81 rfl)) own_fd1
      have f828 : Fld Z h818 a819 "com/example/answer_by_role/answerbyrole/engine/extraction/Candidate" "argument" "Lcom/example/answer_by_role/answerbyrole/analysis/label/Argument;" .null := D823 (ty := (.object "com/example/answer_by_role/answerbyrole/analysis/label/Argument")) (Or.inr (own_wd hw 83 rfl)) own_fd3
      have f829 : Fld Z h818 a819 "com/example/answer_by_role/answerbyrole/engine/extraction/Candidate" "fills" "Z" (.int (0 : Int32)) := D823 (ty := .boolean) (Or.inr (own_wd hw 85 rfl)) own_fd4
      have f830 : Fld Z h818 a819 "com/example/answer_by_role/answerbyrole/engine/extraction/Candidate" "entityType" "Ljava/lang/String;" .null := D823 (ty := (.object "java/lang/String")) (Or.inr (own_wd hw 87 rfl)) own_fd1
      refine own_seg C S817 [(238, .dup, 1), (239, .aload 15, 2), (241, .iload 13, 2), (243, .iload 14, 2), (245, .aload 10, 2), (247, .aload 16, 2), (249, .iload 6, 2), (251, .aload 17, 2)] (by decide +kernel) 253 #[.val (.int x1), .val (.int x2), .val (.int x3), .val (.int x4), .val (.int x5), .val (.int x6), .val (.int (0 : Int32)), .val (.int (0 : Int32)), .val (.int (1 : Int32)), .val (.ref a420), .val (.ref a442), .val (.ref a474), .val (.ref a503), .val (.int (x4 &&& 2147483647)), .val (.int (if (x4 &&& 2147483647) < (x5 &&& 2147483647) then (x5 &&& 2147483647) else (x4 &&& 2147483647))), .val (.ref a542), .val (.ref a794), .val .null, .unset, .unset, .unset] [.null, (.int (0 : Int32)), (.ref a794), (.ref a442), (.int (if (x4 &&& 2147483647) < (x5 &&& 2147483647) then (x5 &&& 2147483647) else (x4 &&& 2147483647))), (.int (x4 &&& 2147483647)), (.ref a542), (.ref a819), (.ref a819)] rfl ?_
      have f831 : n0 ≤ h818.size := (Nat.le_trans (Nat.le_trans f802 K805.1) E821.1)
      have f832 : n0 ≤ h811.size := (Nat.le_trans f802 K805.1)
      have g833 : n0 ≤ a819 := by rw [g820]; exact f832
      refine own_callI C S817 rfl (own_wd hw 70 rfl) (own_wd hw 71 rfl) (own_wd hw 72 rfl) (by decide) (own_Met.pay (own_ca001 l Z a0 hw a819 a542 (x4 &&& 2147483647) (if (x4 &&& 2147483647) < (x5 &&& 2147483647) then (x5 &&& 2147483647) else (x4 &&& 2147483647)) a442 a794 h818 n0 f831 g833 x822 f824 f825 f826 f827 f828 f829 f830 (own_nn _ _ (by decide)) (own_mx _ _)) C 1 (own_wd hw 72 rfl) (own_wd hw 69 rfl) (by decide) (by decide)) (fun _ _ _ q => q.2) [(.ref a542), (.int (x4 &&& 2147483647)), (.int (if (x4 &&& 2147483647) < (x5 &&& 2147483647) then (x5 &&& 2147483647) else (x4 &&& 2147483647))), (.ref a442), (.ref a794), (.int (0 : Int32)), .null] [(.ref a819)] rfl own_pd6 rfl rfl rfl (Nat.le_of_ble_eq_true rfl) (by decide) (by decide) (by decide +kernel) ?_
      rintro T843 h844 v845 L846 S847 ⟨⟨rfl, K834, x835, f836, f837, f838, f839, f840, f841, f842⟩, -⟩
      replace S847 : own_S p l e room_1 s m #[(.int x1), (.int x2), (.int x3), (.int x4), (.int x5), (.int x6)] below meth c n0 T843 h844 9 31 := S847
      show own_Go p e below s n0 _ _ _ T843 (mkF m 256 #[.val (.int x1), .val (.int x2), .val (.int x3), .val (.int x4), .val (.int x5), .val (.int x6), .val (.int (0 : Int32)), .val (.int (0 : Int32)), .val (.int (1 : Int32)), .val (.ref a420), .val (.ref a442), .val (.ref a474), .val (.ref a503), .val (.int (x4 &&& 2147483647)), .val (.int (if (x4 &&& 2147483647) < (x5 &&& 2147483647) then (x5 &&& 2147483647) else (x4 &&& 2147483647))), .val (.ref a542), .val (.ref a794), .val .null, .unset, .unset, .unset] [(.ref a819)])
      refine own_seg C S847 [(256, .astore 18, 2), (258, .aload 18, 2)] (by decide +kernel) 260 #[.val (.int x1), .val (.int x2), .val (.int x3), .val (.int x4), .val (.int x5), .val (.int x6), .val (.int (0 : Int32)), .val (.int (0 : Int32)), .val (.int (1 : Int32)), .val (.ref a420), .val (.ref a442), .val (.ref a474), .val (.ref a503), .val (.int (x4 &&& 2147483647)), .val (.int (if (x4 &&& 2147483647) < (x5 &&& 2147483647) then (x5 &&& 2147483647) else (x4 &&& 2147483647))), .val (.ref a542), .val (.ref a794), .val .null, .val (.ref a819), .unset, .unset] [(.ref a819)] rfl ?_
      have f848 : Exa Z h844 a794 "com/example/answer_by_role/answerbyrole/analysis/label/Argument" := ((Exa.ext E821 x806).keep K834)
      have f849 : a794 < h811.size := (Nat.lt_of_lt_of_le f799.lt K805.1)
      have n850 : a794 ≠ a819 := by rw [g820]; exact Nat.ne_of_lt f849
      have f851 : Fld Z h844 a794 "com/example/answer_by_role/answerbyrole/analysis/label/Argument" "label" "Ljava/lang/String;" (.ref a442) := ((Fld.ext E821 f809).keep K834 (ninS n850 nin0))
      have f852 : n0 ≤ h844.size := (Nat.le_trans f831 K834.1)
      refine own_callV C S847 (own_wd hw 88 rfl) (own_wd hw 89 rfl) (own_wd hw 91 rfl) (own_wd hw 91 rfl) (own_wd hw 90 rfl) (by decide) (own_Met.pay (own_lab2 l Z a0 hw a819 a794 a442 h844 n0 f852 x835 f841 f840 f848 f851 f842) C 0 (own_wd hw 92 rfl) (own_wd hw 69 rfl) (by decide) (by decide)) (fun _ _ _ q => q.2) x835 [] [] rfl own_pd1 rfl rfl rfl (Nat.le_of_ble_eq_true rfl) (by decide) (by decide) (by decide +kernel) ?_
      rintro T854 h855 v856 L857 S858 ⟨⟨rfl, e853⟩, -⟩
      replace S858 : own_S p l e room_1 s m #[(.int x1), (.int x2), (.int x3), (.int x4), (.int x5), (.int x6)] below meth c n0 T854 h855 9 31 := S858
      rw [e853] at S858; clear e853
      show own_Go p e below s n0 _ _ _ T854 (mkF m 263 #[.val (.int x1), .val (.int x2), .val (.int x3), .val (.int x4), .val (.int x5), .val (.int x6), .val (.int (0 : Int32)), .val (.int (0 : Int32)), .val (.int (1 : Int32)), .val (.ref a420), .val (.ref a442), .val (.ref a474), .val (.ref a503), .val (.int (x4 &&& 2147483647)), .val (.int (if (x4 &&& 2147483647) < (x5 &&& 2147483647) then (x5 &&& 2147483647) else (x4 &&& 2147483647))), .val (.ref a542), .val (.ref a794), .val .null, .val (.ref a819), .unset, .unset] [(.ref a442)])
      refine own_seg C S858 [(263, .astore 19, 2), (265, .iload 6, 2)] (by decide +kernel) 267 #[.val (.int x1), .val (.int x2), .val (.int x3), .val (.int x4), .val (.int x5), .val (.int x6), .val (.int (0 : Int32)), .val (.int (0 : Int32)), .val (.int (1 : Int32)), .val (.ref a420), .val (.ref a442), .val (.ref a474), .val (.ref a503), .val (.int (x4 &&& 2147483647)), .val (.int (if (x4 &&& 2147483647) < (x5 &&& 2147483647) then (x5 &&& 2147483647) else (x4 &&& 2147483647))), .val (.ref a542), .val (.ref a794), .val .null, .val (.ref a819), .val (.ref a442), .unset] [(.int (0 : Int32))] rfl ?_
      refine own_if C S858 (q := .eq) (o := 10) (by decide +kernel) 277 (by decide) (by decide) (fun (q859 : (0 : Int32) = (0 : Int32)) => ?_) (fun (hq : ¬ (0 : Int32) = (0 : Int32)) => False.elim (absurd hq (by decide)))
      refine own_seg C S858 [(277, .iload 7, 2)] (by decide +kernel) 279 #[.val (.int x1), .val (.int x2), .val (.int x3), .val (.int x4), .val (.int x5), .val (.int x6), .val (.int (0 : Int32)), .val (.int (0 : Int32)), .val (.int (1 : Int32)), .val (.ref a420), .val (.ref a442), .val (.ref a474), .val (.ref a503), .val (.int (x4 &&& 2147483647)), .val (.int (if (x4 &&& 2147483647) < (x5 &&& 2147483647) then (x5 &&& 2147483647) else (x4 &&& 2147483647))), .val (.ref a542), .val (.ref a794), .val .null, .val (.ref a819), .val (.ref a442), .unset] [(.int (0 : Int32))] rfl ?_
      refine own_if C S858 (q := .eq) (o := 10) (by decide +kernel) 289 (by decide) (by decide) (fun (q860 : (0 : Int32) = (0 : Int32)) => ?_) (fun (hq : ¬ (0 : Int32) = (0 : Int32)) => False.elim (absurd hq (by decide)))
      refine own_seg C S858 [(289, .aload 10, 2), (291, .astore 20, 2), (293, .aload 19, 2), (295, .ifnull 30, 3), (298, .aload 19, 2)] (by decide +kernel) 300 #[.val (.int x1), .val (.int x2), .val (.int x3), .val (.int x4), .val (.int x5), .val (.int x6), .val (.int (0 : Int32)), .val (.int (0 : Int32)), .val (.int (1 : Int32)), .val (.ref a420), .val (.ref a442), .val (.ref a474), .val (.ref a503), .val (.int (x4 &&& 2147483647)), .val (.int (if (x4 &&& 2147483647) < (x5 &&& 2147483647) then (x5 &&& 2147483647) else (x4 &&& 2147483647))), .val (.ref a542), .val (.ref a794), .val .null, .val (.ref a819), .val (.ref a442), .val (.ref a442)] [(.ref a442)] rfl ?_
      have f861 : Exa Z h844 a442 "java/lang/String" := ((Exa.ext E821 ((Exa.ext E796 ((Exa.ext E544 ((Exa.ext E505 (Exa.wr W497 (Exa.wr W491 (Exa.wr W485 (Exa.ext E477 x456))))).keep K516)).keep K552)).keep K805)).keep K834)
      have f862 : a442 < h466.size := (Nat.lt_of_lt_of_le f448.lt K455.1)
      have n863 : a442 ≠ a474 := by rw [g476]; exact Nat.ne_of_lt f862
      have f864 : a442 < h496.size := (by rw [W497.size]; exact (by rw [W491.size]; exact (by rw [W485.size]; exact (Nat.lt_of_lt_of_le f862 E477.1))))
      have n865 : a442 ≠ a503 := by rw [g504]; exact Nat.ne_of_lt f864
      have f866 : a442 < h527.size := (Nat.lt_of_lt_of_le (Nat.lt_of_lt_of_le f864 E505.1) K516.1)
      have n867 : a442 ≠ a542 := by rw [g543]; exact Nat.ne_of_lt f866
      have f868 : a442 < h558.size := (Nat.lt_of_lt_of_le (Nat.lt_of_lt_of_le f866 E544.1) K552.1)
      have n869 : a442 ≠ a794 := by rw [g795]; exact Nat.ne_of_lt f868
      have f870 : a442 < h811.size := (Nat.lt_of_lt_of_le (Nat.lt_of_lt_of_le f868 E796.1) K805.1)
      have n871 : a442 ≠ a819 := by rw [g820]; exact Nat.ne_of_lt f870
      have f872 : Fld Z h844 a442 "java/lang/String" "value" "[B" (.ref t458) := ((Fld.ext E821 ((Fld.ext E796 ((Fld.ext E544 ((Fld.ext E505 (Fld.other W497 (Fld.other W491 (Fld.other W485 (Fld.ext E477 f463) (Or.inl n863)) (Or.inl n863)) (Or.inl n863))).keep K516 (ninS n865 nin0))).keep K552 (ninS n867 nin0))).keep K805 (ninS n869 nin0))).keep K834 (ninS n871 nin0))
      have f873 : Fld Z h844 a442 "java/lang/String" "coder" "B" (.int 0) := ((Fld.ext E821 ((Fld.ext E796 ((Fld.ext E544 ((Fld.ext E505 (Fld.other W497 (Fld.other W491 (Fld.other W485 (Fld.ext E477 f457) (Or.inl n863)) (Or.inl n863)) (Or.inl n863))).keep K516 (ninS n865 nin0))).keep K552 (ninS n867 nin0))).keep K805 (ninS n869 nin0))).keep K834 (ninS n871 nin0))
      have n874 : t458 ≠ a474 := by rw [g476]; exact Nat.ne_of_lt f464.lt
      have f875 : t458 < h496.size := (by rw [W497.size]; exact (by rw [W491.size]; exact (by rw [W485.size]; exact (Nat.lt_of_lt_of_le f464.lt E477.1))))
      have n876 : t458 ≠ a503 := by rw [g504]; exact Nat.ne_of_lt f875
      have f877 : t458 < h527.size := (Nat.lt_of_lt_of_le (Nat.lt_of_lt_of_le f875 E505.1) K516.1)
      have n878 : t458 ≠ a542 := by rw [g543]; exact Nat.ne_of_lt f877
      have f879 : t458 < h558.size := (Nat.lt_of_lt_of_le (Nat.lt_of_lt_of_le f877 E544.1) K552.1)
      have n880 : t458 ≠ a794 := by rw [g795]; exact Nat.ne_of_lt f879
      have f881 : t458 < h811.size := (Nat.lt_of_lt_of_le (Nat.lt_of_lt_of_le f879 E796.1) K805.1)
      have n882 : t458 ≠ a819 := by rw [g820]; exact Nat.ne_of_lt f881
      have f883 : Arv Z h844 t458 k459 .byte (2 : Int32) (((([(x2 &&& (255 : Int32)), ((Jvm.Free.XT.ushr x2 (8 : Int32)) &&& (255 : Int32))] : List Int32)).map (fun c => c.toInt8.toInt32)).map Value.int) (.int 0) := ((((((((((((f464.ext E477).other W485 n874).other W491 n874).other W497 n874).ext E505).keep K516 (ninS n876 nin0)).ext E544).keep K552 (ninS n878 nin0)).ext E796).keep K805 (ninS n880 nin0)).ext E821).keep K834 (ninS n882 nin0))
      have f884 : Old Z n0 h844 := (((((((f515.keep K516 (allS g513 all0)).ext E544).keep K552 (allS g551 all0)).ext E796).keep K805 (allS g804 all0)).ext E821).keep K834 (allS g833 all0))
      refine own_callV C S858 (own_wd hw 98 rfl) (own_wd hw 99 rfl) (own_wd hw 101 rfl) (own_wd hw 101 rfl) (own_wd hw 100 rfl) (by decide) (Q := (fun v h' L => v = some (.int (Int32.ofNat (([(x2 &&& (255 : Int32)), ((Jvm.Free.XT.ushr x2 (8 : Int32)) &&& (255 : Int32))] : List Int32)).length)) ∧ L = [] ∧ h' = h844)) (StrChars.Road.lenW (W := 0) C.2.2.2.2.2.2.2 (fun d hd => hw d (own_hln d hd)) (kI := 4) (own_wd hw 2 rfl) f861 f872 f873 f883 hcd470 (own_up _ hp449) (O2.ext f884.2) P5 (Nat.le_of_ble_eq_true rfl) (by decide) (by decide)) (fun _ _ L q => by rw [q.2.1]; exact Fr.nil _) f861 [] [] rfl own_pd7 rfl rfl rfl (Nat.le_of_ble_eq_true rfl) (by decide) (by decide) (by decide +kernel) ?_
      rintro T886 h887 v888 L889 S890 ⟨rfl, -, e885⟩
      replace S890 : own_S p l e room_1 s m #[(.int x1), (.int x2), (.int x3), (.int x4), (.int x5), (.int x6)] below meth c n0 T886 h887 9 31 := S890
      rw [e885] at S890; clear e885
      show own_Go p e below s n0 _ _ _ T886 (mkF m 303 #[.val (.int x1), .val (.int x2), .val (.int x3), .val (.int x4), .val (.int x5), .val (.int x6), .val (.int (0 : Int32)), .val (.int (0 : Int32)), .val (.int (1 : Int32)), .val (.ref a420), .val (.ref a442), .val (.ref a474), .val (.ref a503), .val (.int (x4 &&& 2147483647)), .val (.int (if (x4 &&& 2147483647) < (x5 &&& 2147483647) then (x5 &&& 2147483647) else (x4 &&& 2147483647))), .val (.ref a542), .val (.ref a794), .val .null, .val (.ref a819), .val (.ref a442), .val (.ref a442)] [(.int (2 : Int32))])
      refine own_seg C S890 [(303, .aload 20, 2)] (by decide +kernel) 305 #[.val (.int x1), .val (.int x2), .val (.int x3), .val (.int x4), .val (.int x5), .val (.int x6), .val (.int (0 : Int32)), .val (.int (0 : Int32)), .val (.int (1 : Int32)), .val (.ref a420), .val (.ref a442), .val (.ref a474), .val (.ref a503), .val (.int (x4 &&& 2147483647)), .val (.int (if (x4 &&& 2147483647) < (x5 &&& 2147483647) then (x5 &&& 2147483647) else (x4 &&& 2147483647))), .val (.ref a542), .val (.ref a794), .val .null, .val (.ref a819), .val (.ref a442), .val (.ref a442)] [(.ref a442), (.int (2 : Int32))] rfl ?_
      refine own_callV C S890 (own_wd hw 98 rfl) (own_wd hw 99 rfl) (own_wd hw 101 rfl) (own_wd hw 101 rfl) (own_wd hw 100 rfl) (by decide) (Q := (fun v h' L => v = some (.int (Int32.ofNat (([(x2 &&& (255 : Int32)), ((Jvm.Free.XT.ushr x2 (8 : Int32)) &&& (255 : Int32))] : List Int32)).length)) ∧ L = [] ∧ h' = h844)) (StrChars.Road.lenW (W := 1) C.2.2.2.2.2.2.2 (fun d hd => hw d (own_hln d hd)) (kI := 4) (own_wd hw 2 rfl) f861 f872 f873 f883 hcd470 (own_up _ hp449) (O2.ext f884.2) P5 (Nat.le_of_ble_eq_true rfl) (by decide) (by decide)) (fun _ _ L q => by rw [q.2.1]; exact Fr.nil _) f861 [] [(.int (2 : Int32))] rfl own_pd7 rfl rfl rfl (Nat.le_of_ble_eq_true rfl) (by decide) (by decide) (by decide +kernel) ?_
      rintro T892 h893 v894 L895 S896 ⟨rfl, -, e891⟩
      replace S896 : own_S p l e room_1 s m #[(.int x1), (.int x2), (.int x3), (.int x4), (.int x5), (.int x6)] below meth c n0 T892 h893 9 31 := S896
      rw [e891] at S896; clear e891
      show own_Go p e below s n0 _ _ _ T892 (mkF m 308 #[.val (.int x1), .val (.int x2), .val (.int x3), .val (.int x4), .val (.int x5), .val (.int x6), .val (.int (0 : Int32)), .val (.int (0 : Int32)), .val (.int (1 : Int32)), .val (.ref a420), .val (.ref a442), .val (.ref a474), .val (.ref a503), .val (.int (x4 &&& 2147483647)), .val (.int (if (x4 &&& 2147483647) < (x5 &&& 2147483647) then (x5 &&& 2147483647) else (x4 &&& 2147483647))), .val (.ref a542), .val (.ref a794), .val .null, .val (.ref a819), .val (.ref a442), .val (.ref a442)] [(.int (2 : Int32)), (.int (2 : Int32))])
      refine own_icmp C S896 (q := .ne) (o := 17) (by decide +kernel) 325 (by decide) (by decide) (fun (hq : ¬ (2 : Int32) = (2 : Int32)) => False.elim (hq rfl)) (fun (q897 : (2 : Int32) = (2 : Int32)) => ?_)
      refine own_seg C S896 [(311, .aload 19, 2), (313, .aload 20, 2)] (by decide +kernel) 315 #[.val (.int x1), .val (.int x2), .val (.int x3), .val (.int x4), .val (.int x5), .val (.int x6), .val (.int (0 : Int32)), .val (.int (0 : Int32)), .val (.int (1 : Int32)), .val (.ref a420), .val (.ref a442), .val (.ref a474), .val (.ref a503), .val (.int (x4 &&& 2147483647)), .val (.int (if (x4 &&& 2147483647) < (x5 &&& 2147483647) then (x5 &&& 2147483647) else (x4 &&& 2147483647))), .val (.ref a542), .val (.ref a794), .val .null, .val (.ref a819), .val (.ref a442), .val (.ref a442)] [(.ref a442), (.ref a442)] rfl ?_
      refine own_callV C S896 (own_wd hw 108 rfl) (own_wd hw 109 rfl) (own_wd hw 111 rfl) (own_wd hw 111 rfl) (own_wd hw 110 rfl) (by decide) (own_Met.pay (own_eqs l Z a0 hw a442 h844 n0 f852) C 0 (own_wd hw 112 rfl) (own_wd hw 3 rfl) (by decide) (by decide)) (fun _ _ _ q => q.2) f861 [(.ref a442)] [] rfl own_pd8 rfl rfl rfl (Nat.le_of_ble_eq_true rfl) (by decide) (by decide) (by decide +kernel) ?_
      rintro T899 h900 v901 L902 S903 ⟨⟨rfl, e898⟩, -⟩
      replace S903 : own_S p l e room_1 s m #[(.int x1), (.int x2), (.int x3), (.int x4), (.int x5), (.int x6)] below meth c n0 T899 h900 9 31 := S903
      rw [e898] at S903; clear e898
      show own_Go p e below s n0 _ _ _ T899 (mkF m 318 #[.val (.int x1), .val (.int x2), .val (.int x3), .val (.int x4), .val (.int x5), .val (.int x6), .val (.int (0 : Int32)), .val (.int (0 : Int32)), .val (.int (1 : Int32)), .val (.ref a420), .val (.ref a442), .val (.ref a474), .val (.ref a503), .val (.int (x4 &&& 2147483647)), .val (.int (if (x4 &&& 2147483647) < (x5 &&& 2147483647) then (x5 &&& 2147483647) else (x4 &&& 2147483647))), .val (.ref a542), .val (.ref a794), .val .null, .val (.ref a819), .val (.ref a442), .val (.ref a442)] [(.int (1 : Int32))])
      refine own_if C S903 (q := .eq) (o := 7) (by decide +kernel) 325 (by decide) (by decide) (fun (hq : (1 : Int32) = (0 : Int32)) => False.elim (absurd hq (by decide))) (fun (q904 : ¬ (1 : Int32) = (0 : Int32)) => ?_)
      refine own_seg C S903 [(321, .iconst 1, 1), (322, .goto 4, 3)] (by decide +kernel) 326 #[.val (.int x1), .val (.int x2), .val (.int x3), .val (.int x4), .val (.int x5), .val (.int x6), .val (.int (0 : Int32)), .val (.int (0 : Int32)), .val (.int (1 : Int32)), .val (.ref a420), .val (.ref a442), .val (.ref a474), .val (.ref a503), .val (.int (x4 &&& 2147483647)), .val (.int (if (x4 &&& 2147483647) < (x5 &&& 2147483647) then (x5 &&& 2147483647) else (x4 &&& 2147483647))), .val (.ref a542), .val (.ref a794), .val .null, .val (.ref a819), .val (.ref a442), .val (.ref a442)] [(.int (1 : Int32))] rfl ?_
      refine own_retZ C S903 (by decide +kernel) (by decide) (by decide) (by decide) ?_
      rfl
    · refine own_if C S561 (q := .eq) (o := 28) (by decide +kernel) 223 (by decide) (by decide) (fun (hq : (1 : Int32) = (0 : Int32)) => False.elim (absurd hq (by decide))) (fun (q905 : ¬ (1 : Int32) = (0 : Int32)) => ?_)
      refine own_new C S561 (own_wd hw 53 rfl) (own_wd hw 54 rfl) (own_wd hw 55 rfl) (by decide +kernel) (by decide) (by decide) ?_
      intro T906 h908 a909 S907 g910 E911 x912 D913
      have f914 : Fld Z h908 a909 "com/example/answer_by_role/answerbyrole/analysis/label/Argument" "predicate" "I" (.int (0 : Int32)) := D913 (ty := .int) (Or.inr (own_wd hw 62 rfl)) own_fd0
      have f915 : Fld Z h908 a909 "com/example/answer_by_role/answerbyrole/analysis/label/Argument" "head" "I" (.int (0 : Int32)) := D913 (ty := .int) (Or.inr (own_wd hw 64 rfl)) own_fd0
      have f916 : Fld Z h908 a909 "com/example/answer_by_role/answerbyrole/analysis/label/Argument" "label" "Ljava/lang/String;" .null := D913 (ty := (.object "java/lang/String")) (Or.inr (own_wd hw 66 rfl)) own_fd1
      refine own_seg C S907 [(201, .dup, 1), (202, .iload_n 0, 1), (203, .iconst 3, 1), (204, .iushr, 1)] (by decide +kernel) 205 #[.val (.int x1), .val (.int x2), .val (.int x3), .val (.int x4), .val (.int x5), .val (.int x6), .val (.int (0 : Int32)), .val (.int (1 : Int32)), .val (.int (1 : Int32)), .val (.ref a420), .val (.ref a442), .val (.ref a474), .val (.ref a503), .val (.int (x4 &&& 2147483647)), .val (.int (if (x4 &&& 2147483647) < (x5 &&& 2147483647) then (x5 &&& 2147483647) else (x4 &&& 2147483647))), .val (.ref a542), .val .null, .unset, .unset, .unset, .unset] [(.int (Jvm.Free.XT.ushr x1 (3 : Int32))), (.ref a909), (.ref a909)] rfl ?_
      refine own_ldc C S907 (own_wd hw 56 rfl) (by decide +kernel) ?_
      refine own_seg C S907 [(207, .iand, 1), (208, .iload_n 0, 1), (209, .bipush 19, 2), (211, .iushr, 1), (212, .sipush 4095, 3), (215, .iand, 1), (216, .aload 10, 2)] (by decide +kernel) 218 #[.val (.int x1), .val (.int x2), .val (.int x3), .val (.int x4), .val (.int x5), .val (.int x6), .val (.int (0 : Int32)), .val (.int (1 : Int32)), .val (.int (1 : Int32)), .val (.ref a420), .val (.ref a442), .val (.ref a474), .val (.ref a503), .val (.int (x4 &&& 2147483647)), .val (.int (if (x4 &&& 2147483647) < (x5 &&& 2147483647) then (x5 &&& 2147483647) else (x4 &&& 2147483647))), .val (.ref a542), .val .null, .unset, .unset, .unset, .unset] [(.ref a442), (.int ((Jvm.Free.XT.ushr x1 (19 : Int32)) &&& (4095 : Int32))), (.int ((Jvm.Free.XT.ushr x1 (3 : Int32)) &&& 65535)), (.ref a909), (.ref a909)] rfl ?_
      have f917 : n0 ≤ h908.size := (Nat.le_trans (Nat.le_trans f550 K552.1) E911.1)
      have f918 : n0 ≤ h558.size := (Nat.le_trans f550 K552.1)
      have g919 : n0 ≤ a909 := by rw [g910]; exact f918
      refine own_callI C S907 rfl (own_wd hw 57 rfl) (own_wd hw 58 rfl) (own_wd hw 59 rfl) (by decide) (own_Met.pay (own_ar l Z a0 hw a909 ((Jvm.Free.XT.ushr x1 (3 : Int32)) &&& 65535) ((Jvm.Free.XT.ushr x1 (19 : Int32)) &&& (4095 : Int32)) a442 h908 n0 f917 g919 x912 f914 f915 f916 (own_nn _ _ (by decide)) (own_nn _ _ (by decide))) C 1 (own_wd hw 59 rfl) (own_wd hw 55 rfl) (by decide) (by decide)) (fun _ _ _ q => q.2) [(.int ((Jvm.Free.XT.ushr x1 (3 : Int32)) &&& 65535)), (.int ((Jvm.Free.XT.ushr x1 (19 : Int32)) &&& (4095 : Int32))), (.ref a442)] [(.ref a909)] rfl own_pd5 rfl rfl rfl (Nat.le_of_ble_eq_true rfl) (by decide) (by decide) (by decide +kernel) ?_
      rintro T925 h926 v927 L928 S929 ⟨⟨rfl, K920, x921, f922, f923, f924⟩, -⟩
      replace S929 : own_S p l e room_1 s m #[(.int x1), (.int x2), (.int x3), (.int x4), (.int x5), (.int x6)] below meth c n0 T925 h926 8 24 := S929
      show own_Go p e below s n0 _ _ _ T925 (mkF m 221 #[.val (.int x1), .val (.int x2), .val (.int x3), .val (.int x4), .val (.int x5), .val (.int x6), .val (.int (0 : Int32)), .val (.int (1 : Int32)), .val (.int (1 : Int32)), .val (.ref a420), .val (.ref a442), .val (.ref a474), .val (.ref a503), .val (.int (x4 &&& 2147483647)), .val (.int (if (x4 &&& 2147483647) < (x5 &&& 2147483647) then (x5 &&& 2147483647) else (x4 &&& 2147483647))), .val (.ref a542), .val .null, .unset, .unset, .unset, .unset] [(.ref a909)])
      refine own_seg C S929 [(221, .astore 16, 2), (223, .aconst_null, 1), (224, .astore 17, 2), (226, .iload 7, 2)] (by decide +kernel) 228 #[.val (.int x1), .val (.int x2), .val (.int x3), .val (.int x4), .val (.int x5), .val (.int x6), .val (.int (0 : Int32)), .val (.int (1 : Int32)), .val (.int (1 : Int32)), .val (.ref a420), .val (.ref a442), .val (.ref a474), .val (.ref a503), .val (.int (x4 &&& 2147483647)), .val (.int (if (x4 &&& 2147483647) < (x5 &&& 2147483647) then (x5 &&& 2147483647) else (x4 &&& 2147483647))), .val (.ref a542), .val (.ref a909), .val .null, .unset, .unset, .unset] [(.int (1 : Int32))] rfl ?_
      refine own_if C S929 (q := .eq) (o := 7) (by decide +kernel) 235 (by decide) (by decide) (fun (hq : (1 : Int32) = (0 : Int32)) => False.elim (absurd hq (by decide))) (fun (q930 : ¬ (1 : Int32) = (0 : Int32)) => ?_)
      refine own_seg C S929 [(231, .aload 12, 2), (233, .astore 17, 2)] (by decide +kernel) 235 #[.val (.int x1), .val (.int x2), .val (.int x3), .val (.int x4), .val (.int x5), .val (.int x6), .val (.int (0 : Int32)), .val (.int (1 : Int32)), .val (.int (1 : Int32)), .val (.ref a420), .val (.ref a442), .val (.ref a474), .val (.ref a503), .val (.int (x4 &&& 2147483647)), .val (.int (if (x4 &&& 2147483647) < (x5 &&& 2147483647) then (x5 &&& 2147483647) else (x4 &&& 2147483647))), .val (.ref a542), .val (.ref a909), .val (.ref a503), .unset, .unset, .unset] [] rfl ?_
      refine own_new C S929 (own_wd hw 67 rfl) (own_wd hw 68 rfl) (own_wd hw 69 rfl) (by decide +kernel) (by decide) (by decide) ?_
      intro T931 h933 a934 S932 g935 E936 x937 D938
      have f939 : Fld Z h933 a934 "com/example/answer_by_role/answerbyrole/engine/extraction/Candidate" "position" "Lcom/example/answer_by_role/answerbyrole/engine/index/SentencePosition;" .null := D938 (ty := (.object "com/example/answer_by_role/answerbyrole/engine/index/SentencePosition")) (Or.inr (own_wd hw 75 rfl)) own_fd2
      have f940 : Fld Z h933 a934 "com/example/answer_by_role/answerbyrole/engine/extraction/Candidate" "first" "I" (.int (0 : Int32)) := D938 (ty := .int) (Or.inr (own_wd hw 77 rfl)) own_fd0
      have f941 : Fld Z h933 a934 "com/example/answer_by_role/answerbyrole/engine/extraction/Candidate" "last" "I" (.int (0 : Int32)) := D938 (ty := .int) (Or.inr (own_wd hw 79 rfl)) own_fd0
      have f942 : Fld Z h933 a934 "com/example/answer_by_role/answerbyrole/engine/extraction/Candidate" "text" "Ljava/lang/String;" .null := D938 (ty := (.object "java/lang/String")) (Or.inr (own_wd hw 81 rfl)) own_fd1
      have f943 : Fld Z h933 a934 "com/example/answer_by_role/answerbyrole/engine/extraction/Candidate" "argument" "Lcom/example/answer_by_role/answerbyrole/analysis/label/Argument;" .null := D938 (ty := (.object "com/example/answer_by_role/answerbyrole/analysis/label/Argument")) (Or.inr (own_wd hw 83 rfl)) own_fd3
      have f944 : Fld Z h933 a934 "com/example/answer_by_role/answerbyrole/engine/extraction/Candidate" "fills" "Z" (.int (0 : Int32)) := D938 (ty := .boolean) (Or.inr (own_wd hw 85 rfl)) own_fd4
      have f945 : Fld Z h933 a934 "com/example/answer_by_role/answerbyrole/engine/extraction/Candidate" "entityType" "Ljava/lang/String;" .null := D938 (ty := (.object "java/lang/String")) (Or.inr (own_wd hw 87 rfl)) own_fd1
      refine own_seg C S932 [(238, .dup, 1), (239, .aload 15, 2), (241, .iload 13, 2), (243, .iload 14, 2), (245, .aload 10, 2), (247, .aload 16, 2), (249, .iload 6, 2), (251, .aload 17, 2)] (by decide +kernel) 253 #[.val (.int x1), .val (.int x2), .val (.int x3), .val (.int x4), .val (.int x5), .val (.int x6), .val (.int (0 : Int32)), .val (.int (1 : Int32)), .val (.int (1 : Int32)), .val (.ref a420), .val (.ref a442), .val (.ref a474), .val (.ref a503), .val (.int (x4 &&& 2147483647)), .val (.int (if (x4 &&& 2147483647) < (x5 &&& 2147483647) then (x5 &&& 2147483647) else (x4 &&& 2147483647))), .val (.ref a542), .val (.ref a909), .val (.ref a503), .unset, .unset, .unset] [(.ref a503), (.int (0 : Int32)), (.ref a909), (.ref a442), (.int (if (x4 &&& 2147483647) < (x5 &&& 2147483647) then (x5 &&& 2147483647) else (x4 &&& 2147483647))), (.int (x4 &&& 2147483647)), (.ref a542), (.ref a934), (.ref a934)] rfl ?_
      have f946 : n0 ≤ h933.size := (Nat.le_trans (Nat.le_trans f917 K920.1) E936.1)
      have f947 : n0 ≤ h926.size := (Nat.le_trans f917 K920.1)
      have g948 : n0 ≤ a934 := by rw [g935]; exact f947
      refine own_callI C S932 rfl (own_wd hw 70 rfl) (own_wd hw 71 rfl) (own_wd hw 72 rfl) (by decide) (own_Met.pay (own_ca011 l Z a0 hw a934 a542 (x4 &&& 2147483647) (if (x4 &&& 2147483647) < (x5 &&& 2147483647) then (x5 &&& 2147483647) else (x4 &&& 2147483647)) a442 a909 a503 h933 n0 f946 g948 x937 f939 f940 f941 f942 f943 f944 f945 (own_nn _ _ (by decide)) (own_mx _ _)) C 1 (own_wd hw 72 rfl) (own_wd hw 69 rfl) (by decide) (by decide)) (fun _ _ _ q => q.2) [(.ref a542), (.int (x4 &&& 2147483647)), (.int (if (x4 &&& 2147483647) < (x5 &&& 2147483647) then (x5 &&& 2147483647) else (x4 &&& 2147483647))), (.ref a442), (.ref a909), (.int (0 : Int32)), (.ref a503)] [(.ref a934)] rfl own_pd6 rfl rfl rfl (Nat.le_of_ble_eq_true rfl) (by decide) (by decide) (by decide +kernel) ?_
      rintro T958 h959 v960 L961 S962 ⟨⟨rfl, K949, x950, f951, f952, f953, f954, f955, f956, f957⟩, -⟩
      replace S962 : own_S p l e room_1 s m #[(.int x1), (.int x2), (.int x3), (.int x4), (.int x5), (.int x6)] below meth c n0 T958 h959 9 31 := S962
      show own_Go p e below s n0 _ _ _ T958 (mkF m 256 #[.val (.int x1), .val (.int x2), .val (.int x3), .val (.int x4), .val (.int x5), .val (.int x6), .val (.int (0 : Int32)), .val (.int (1 : Int32)), .val (.int (1 : Int32)), .val (.ref a420), .val (.ref a442), .val (.ref a474), .val (.ref a503), .val (.int (x4 &&& 2147483647)), .val (.int (if (x4 &&& 2147483647) < (x5 &&& 2147483647) then (x5 &&& 2147483647) else (x4 &&& 2147483647))), .val (.ref a542), .val (.ref a909), .val (.ref a503), .unset, .unset, .unset] [(.ref a934)])
      refine own_seg C S962 [(256, .astore 18, 2), (258, .aload 18, 2)] (by decide +kernel) 260 #[.val (.int x1), .val (.int x2), .val (.int x3), .val (.int x4), .val (.int x5), .val (.int x6), .val (.int (0 : Int32)), .val (.int (1 : Int32)), .val (.int (1 : Int32)), .val (.ref a420), .val (.ref a442), .val (.ref a474), .val (.ref a503), .val (.int (x4 &&& 2147483647)), .val (.int (if (x4 &&& 2147483647) < (x5 &&& 2147483647) then (x5 &&& 2147483647) else (x4 &&& 2147483647))), .val (.ref a542), .val (.ref a909), .val (.ref a503), .val (.ref a934), .unset, .unset] [(.ref a934)] rfl ?_
      have f963 : n0 ≤ h959.size := (Nat.le_trans f946 K949.1)
      refine own_callV C S962 (own_wd hw 88 rfl) (own_wd hw 89 rfl) (own_wd hw 91 rfl) (own_wd hw 91 rfl) (own_wd hw 90 rfl) (by decide) (own_Met.pay (own_lab3 l Z a0 hw a934 a503 h959 n0 f963 x950 f956 f957) C 0 (own_wd hw 92 rfl) (own_wd hw 69 rfl) (by decide) (by decide)) (fun _ _ _ q => q.2) x950 [] [] rfl own_pd1 rfl rfl rfl (Nat.le_of_ble_eq_true rfl) (by decide) (by decide) (by decide +kernel) ?_
      rintro T965 h966 v967 L968 S969 ⟨⟨rfl, e964⟩, -⟩
      replace S969 : own_S p l e room_1 s m #[(.int x1), (.int x2), (.int x3), (.int x4), (.int x5), (.int x6)] below meth c n0 T965 h966 9 31 := S969
      rw [e964] at S969; clear e964
      show own_Go p e below s n0 _ _ _ T965 (mkF m 263 #[.val (.int x1), .val (.int x2), .val (.int x3), .val (.int x4), .val (.int x5), .val (.int x6), .val (.int (0 : Int32)), .val (.int (1 : Int32)), .val (.int (1 : Int32)), .val (.ref a420), .val (.ref a442), .val (.ref a474), .val (.ref a503), .val (.int (x4 &&& 2147483647)), .val (.int (if (x4 &&& 2147483647) < (x5 &&& 2147483647) then (x5 &&& 2147483647) else (x4 &&& 2147483647))), .val (.ref a542), .val (.ref a909), .val (.ref a503), .val (.ref a934), .unset, .unset] [(.ref a503)])
      refine own_seg C S969 [(263, .astore 19, 2), (265, .iload 6, 2)] (by decide +kernel) 267 #[.val (.int x1), .val (.int x2), .val (.int x3), .val (.int x4), .val (.int x5), .val (.int x6), .val (.int (0 : Int32)), .val (.int (1 : Int32)), .val (.int (1 : Int32)), .val (.ref a420), .val (.ref a442), .val (.ref a474), .val (.ref a503), .val (.int (x4 &&& 2147483647)), .val (.int (if (x4 &&& 2147483647) < (x5 &&& 2147483647) then (x5 &&& 2147483647) else (x4 &&& 2147483647))), .val (.ref a542), .val (.ref a909), .val (.ref a503), .val (.ref a934), .val (.ref a503), .unset] [(.int (0 : Int32))] rfl ?_
      refine own_if C S969 (q := .eq) (o := 10) (by decide +kernel) 277 (by decide) (by decide) (fun (q970 : (0 : Int32) = (0 : Int32)) => ?_) (fun (hq : ¬ (0 : Int32) = (0 : Int32)) => False.elim (absurd hq (by decide)))
      refine own_seg C S969 [(277, .iload 7, 2)] (by decide +kernel) 279 #[.val (.int x1), .val (.int x2), .val (.int x3), .val (.int x4), .val (.int x5), .val (.int x6), .val (.int (0 : Int32)), .val (.int (1 : Int32)), .val (.int (1 : Int32)), .val (.ref a420), .val (.ref a442), .val (.ref a474), .val (.ref a503), .val (.int (x4 &&& 2147483647)), .val (.int (if (x4 &&& 2147483647) < (x5 &&& 2147483647) then (x5 &&& 2147483647) else (x4 &&& 2147483647))), .val (.ref a542), .val (.ref a909), .val (.ref a503), .val (.ref a934), .val (.ref a503), .unset] [(.int (1 : Int32))] rfl ?_
      refine own_if C S969 (q := .eq) (o := 10) (by decide +kernel) 289 (by decide) (by decide) (fun (hq : (1 : Int32) = (0 : Int32)) => False.elim (absurd hq (by decide))) (fun (q971 : ¬ (1 : Int32) = (0 : Int32)) => ?_)
      refine own_seg C S969 [(282, .aload 12, 2), (284, .astore 20, 2), (286, .goto 7, 3), (293, .aload 19, 2), (295, .ifnull 30, 3), (298, .aload 19, 2)] (by decide +kernel) 300 #[.val (.int x1), .val (.int x2), .val (.int x3), .val (.int x4), .val (.int x5), .val (.int x6), .val (.int (0 : Int32)), .val (.int (1 : Int32)), .val (.int (1 : Int32)), .val (.ref a420), .val (.ref a442), .val (.ref a474), .val (.ref a503), .val (.int (x4 &&& 2147483647)), .val (.int (if (x4 &&& 2147483647) < (x5 &&& 2147483647) then (x5 &&& 2147483647) else (x4 &&& 2147483647))), .val (.ref a542), .val (.ref a909), .val (.ref a503), .val (.ref a934), .val (.ref a503), .val (.ref a503)] [(.ref a503)] rfl ?_
      have f972 : Exa Z h959 a503 "java/lang/String" := ((Exa.ext E936 ((Exa.ext E911 ((Exa.ext E544 x517).keep K552)).keep K920)).keep K949)
      have f973 : a503 < h527.size := (Nat.lt_of_lt_of_le f509.lt K516.1)
      have n974 : a503 ≠ a542 := by rw [g543]; exact Nat.ne_of_lt f973
      have f975 : a503 < h558.size := (Nat.lt_of_lt_of_le (Nat.lt_of_lt_of_le f973 E544.1) K552.1)
      have n976 : a503 ≠ a909 := by rw [g910]; exact Nat.ne_of_lt f975
      have f977 : a503 < h926.size := (Nat.lt_of_lt_of_le (Nat.lt_of_lt_of_le f975 E911.1) K920.1)
      have n978 : a503 ≠ a934 := by rw [g935]; exact Nat.ne_of_lt f977
      have f979 : Fld Z h959 a503 "java/lang/String" "value" "[B" (.ref t519) := ((Fld.ext E936 ((Fld.ext E911 ((Fld.ext E544 f524).keep K552 (ninS n974 nin0))).keep K920 (ninS n976 nin0))).keep K949 (ninS n978 nin0))
      have f980 : Fld Z h959 a503 "java/lang/String" "coder" "B" (.int 0) := ((Fld.ext E936 ((Fld.ext E911 ((Fld.ext E544 f518).keep K552 (ninS n974 nin0))).keep K920 (ninS n976 nin0))).keep K949 (ninS n978 nin0))
      have n981 : t519 ≠ a542 := by rw [g543]; exact Nat.ne_of_lt f525.lt
      have f982 : t519 < h558.size := (Nat.lt_of_lt_of_le (Nat.lt_of_lt_of_le f525.lt E544.1) K552.1)
      have n983 : t519 ≠ a909 := by rw [g910]; exact Nat.ne_of_lt f982
      have f984 : t519 < h926.size := (Nat.lt_of_lt_of_le (Nat.lt_of_lt_of_le f982 E911.1) K920.1)
      have n985 : t519 ≠ a934 := by rw [g935]; exact Nat.ne_of_lt f984
      have f986 : Arv Z h959 t519 k520 .byte (3 : Int32) (((([(x3 &&& (255 : Int32)), ((Jvm.Free.XT.ushr x3 (8 : Int32)) &&& (255 : Int32)), ((Jvm.Free.XT.ushr x3 (16 : Int32)) &&& (255 : Int32))] : List Int32)).map (fun c => c.toInt8.toInt32)).map Value.int) (.int 0) := ((((((f525.ext E544).keep K552 (ninS n981 nin0)).ext E911).keep K920 (ninS n983 nin0)).ext E936).keep K949 (ninS n985 nin0))
      have f987 : Old Z n0 h959 := (((((((f515.keep K516 (allS g513 all0)).ext E544).keep K552 (allS g551 all0)).ext E911).keep K920 (allS g919 all0)).ext E936).keep K949 (allS g948 all0))
      refine own_callV C S969 (own_wd hw 98 rfl) (own_wd hw 99 rfl) (own_wd hw 101 rfl) (own_wd hw 101 rfl) (own_wd hw 100 rfl) (by decide) (Q := (fun v h' L => v = some (.int (Int32.ofNat (([(x3 &&& (255 : Int32)), ((Jvm.Free.XT.ushr x3 (8 : Int32)) &&& (255 : Int32)), ((Jvm.Free.XT.ushr x3 (16 : Int32)) &&& (255 : Int32))] : List Int32)).length)) ∧ L = [] ∧ h' = h959)) (StrChars.Road.lenW (W := 0) C.2.2.2.2.2.2.2 (fun d hd => hw d (own_hln d hd)) (kI := 4) (own_wd hw 2 rfl) f972 f979 f980 f986 hcd531 (own_up _ hp510) (O2.ext f987.2) P5 (Nat.le_of_ble_eq_true rfl) (by decide) (by decide)) (fun _ _ L q => by rw [q.2.1]; exact Fr.nil _) f972 [] [] rfl own_pd7 rfl rfl rfl (Nat.le_of_ble_eq_true rfl) (by decide) (by decide) (by decide +kernel) ?_
      rintro T989 h990 v991 L992 S993 ⟨rfl, -, e988⟩
      replace S993 : own_S p l e room_1 s m #[(.int x1), (.int x2), (.int x3), (.int x4), (.int x5), (.int x6)] below meth c n0 T989 h990 9 31 := S993
      rw [e988] at S993; clear e988
      show own_Go p e below s n0 _ _ _ T989 (mkF m 303 #[.val (.int x1), .val (.int x2), .val (.int x3), .val (.int x4), .val (.int x5), .val (.int x6), .val (.int (0 : Int32)), .val (.int (1 : Int32)), .val (.int (1 : Int32)), .val (.ref a420), .val (.ref a442), .val (.ref a474), .val (.ref a503), .val (.int (x4 &&& 2147483647)), .val (.int (if (x4 &&& 2147483647) < (x5 &&& 2147483647) then (x5 &&& 2147483647) else (x4 &&& 2147483647))), .val (.ref a542), .val (.ref a909), .val (.ref a503), .val (.ref a934), .val (.ref a503), .val (.ref a503)] [(.int (3 : Int32))])
      refine own_seg C S993 [(303, .aload 20, 2)] (by decide +kernel) 305 #[.val (.int x1), .val (.int x2), .val (.int x3), .val (.int x4), .val (.int x5), .val (.int x6), .val (.int (0 : Int32)), .val (.int (1 : Int32)), .val (.int (1 : Int32)), .val (.ref a420), .val (.ref a442), .val (.ref a474), .val (.ref a503), .val (.int (x4 &&& 2147483647)), .val (.int (if (x4 &&& 2147483647) < (x5 &&& 2147483647) then (x5 &&& 2147483647) else (x4 &&& 2147483647))), .val (.ref a542), .val (.ref a909), .val (.ref a503), .val (.ref a934), .val (.ref a503), .val (.ref a503)] [(.ref a503), (.int (3 : Int32))] rfl ?_
      refine own_callV C S993 (own_wd hw 98 rfl) (own_wd hw 99 rfl) (own_wd hw 101 rfl) (own_wd hw 101 rfl) (own_wd hw 100 rfl) (by decide) (Q := (fun v h' L => v = some (.int (Int32.ofNat (([(x3 &&& (255 : Int32)), ((Jvm.Free.XT.ushr x3 (8 : Int32)) &&& (255 : Int32)), ((Jvm.Free.XT.ushr x3 (16 : Int32)) &&& (255 : Int32))] : List Int32)).length)) ∧ L = [] ∧ h' = h959)) (StrChars.Road.lenW (W := 1) C.2.2.2.2.2.2.2 (fun d hd => hw d (own_hln d hd)) (kI := 4) (own_wd hw 2 rfl) f972 f979 f980 f986 hcd531 (own_up _ hp510) (O2.ext f987.2) P5 (Nat.le_of_ble_eq_true rfl) (by decide) (by decide)) (fun _ _ L q => by rw [q.2.1]; exact Fr.nil _) f972 [] [(.int (3 : Int32))] rfl own_pd7 rfl rfl rfl (Nat.le_of_ble_eq_true rfl) (by decide) (by decide) (by decide +kernel) ?_
      rintro T995 h996 v997 L998 S999 ⟨rfl, -, e994⟩
      replace S999 : own_S p l e room_1 s m #[(.int x1), (.int x2), (.int x3), (.int x4), (.int x5), (.int x6)] below meth c n0 T995 h996 9 31 := S999
      rw [e994] at S999; clear e994
      show own_Go p e below s n0 _ _ _ T995 (mkF m 308 #[.val (.int x1), .val (.int x2), .val (.int x3), .val (.int x4), .val (.int x5), .val (.int x6), .val (.int (0 : Int32)), .val (.int (1 : Int32)), .val (.int (1 : Int32)), .val (.ref a420), .val (.ref a442), .val (.ref a474), .val (.ref a503), .val (.int (x4 &&& 2147483647)), .val (.int (if (x4 &&& 2147483647) < (x5 &&& 2147483647) then (x5 &&& 2147483647) else (x4 &&& 2147483647))), .val (.ref a542), .val (.ref a909), .val (.ref a503), .val (.ref a934), .val (.ref a503), .val (.ref a503)] [(.int (3 : Int32)), (.int (3 : Int32))])
      refine own_icmp C S999 (q := .ne) (o := 17) (by decide +kernel) 325 (by decide) (by decide) (fun (hq : ¬ (3 : Int32) = (3 : Int32)) => False.elim (hq rfl)) (fun (q1000 : (3 : Int32) = (3 : Int32)) => ?_)
      refine own_seg C S999 [(311, .aload 19, 2), (313, .aload 20, 2)] (by decide +kernel) 315 #[.val (.int x1), .val (.int x2), .val (.int x3), .val (.int x4), .val (.int x5), .val (.int x6), .val (.int (0 : Int32)), .val (.int (1 : Int32)), .val (.int (1 : Int32)), .val (.ref a420), .val (.ref a442), .val (.ref a474), .val (.ref a503), .val (.int (x4 &&& 2147483647)), .val (.int (if (x4 &&& 2147483647) < (x5 &&& 2147483647) then (x5 &&& 2147483647) else (x4 &&& 2147483647))), .val (.ref a542), .val (.ref a909), .val (.ref a503), .val (.ref a934), .val (.ref a503), .val (.ref a503)] [(.ref a503), (.ref a503)] rfl ?_
      refine own_callV C S999 (own_wd hw 108 rfl) (own_wd hw 109 rfl) (own_wd hw 111 rfl) (own_wd hw 111 rfl) (own_wd hw 110 rfl) (by decide) (own_Met.pay (own_eqs l Z a0 hw a503 h959 n0 f963) C 0 (own_wd hw 112 rfl) (own_wd hw 3 rfl) (by decide) (by decide)) (fun _ _ _ q => q.2) f972 [(.ref a503)] [] rfl own_pd8 rfl rfl rfl (Nat.le_of_ble_eq_true rfl) (by decide) (by decide) (by decide +kernel) ?_
      rintro T1002 h1003 v1004 L1005 S1006 ⟨⟨rfl, e1001⟩, -⟩
      replace S1006 : own_S p l e room_1 s m #[(.int x1), (.int x2), (.int x3), (.int x4), (.int x5), (.int x6)] below meth c n0 T1002 h1003 9 31 := S1006
      rw [e1001] at S1006; clear e1001
      show own_Go p e below s n0 _ _ _ T1002 (mkF m 318 #[.val (.int x1), .val (.int x2), .val (.int x3), .val (.int x4), .val (.int x5), .val (.int x6), .val (.int (0 : Int32)), .val (.int (1 : Int32)), .val (.int (1 : Int32)), .val (.ref a420), .val (.ref a442), .val (.ref a474), .val (.ref a503), .val (.int (x4 &&& 2147483647)), .val (.int (if (x4 &&& 2147483647) < (x5 &&& 2147483647) then (x5 &&& 2147483647) else (x4 &&& 2147483647))), .val (.ref a542), .val (.ref a909), .val (.ref a503), .val (.ref a934), .val (.ref a503), .val (.ref a503)] [(.int (1 : Int32))])
      refine own_if C S1006 (q := .eq) (o := 7) (by decide +kernel) 325 (by decide) (by decide) (fun (hq : (1 : Int32) = (0 : Int32)) => False.elim (absurd hq (by decide))) (fun (q1007 : ¬ (1 : Int32) = (0 : Int32)) => ?_)
      refine own_seg C S1006 [(321, .iconst 1, 1), (322, .goto 4, 3)] (by decide +kernel) 326 #[.val (.int x1), .val (.int x2), .val (.int x3), .val (.int x4), .val (.int x5), .val (.int x6), .val (.int (0 : Int32)), .val (.int (1 : Int32)), .val (.int (1 : Int32)), .val (.ref a420), .val (.ref a442), .val (.ref a474), .val (.ref a503), .val (.int (x4 &&& 2147483647)), .val (.int (if (x4 &&& 2147483647) < (x5 &&& 2147483647) then (x5 &&& 2147483647) else (x4 &&& 2147483647))), .val (.ref a542), .val (.ref a909), .val (.ref a503), .val (.ref a934), .val (.ref a503), .val (.ref a503)] [(.int (1 : Int32))] rfl ?_
      refine own_retZ C S1006 (by decide +kernel) (by decide) (by decide) (by decide) ?_
      rfl
    · refine own_if C S561 (q := .eq) (o := 28) (by decide +kernel) 223 (by decide) (by decide) (fun (q1008 : (0 : Int32) = (0 : Int32)) => ?_) (fun (hq : ¬ (0 : Int32) = (0 : Int32)) => False.elim (absurd hq (by decide)))
      refine own_seg C S561 [(223, .aconst_null, 1), (224, .astore 17, 2), (226, .iload 7, 2)] (by decide +kernel) 228 #[.val (.int x1), .val (.int x2), .val (.int x3), .val (.int x4), .val (.int x5), .val (.int x6), .val (.int (0 : Int32)), .val (.int (1 : Int32)), .val (.int (0 : Int32)), .val (.ref a420), .val (.ref a442), .val (.ref a474), .val (.ref a503), .val (.int (x4 &&& 2147483647)), .val (.int (if (x4 &&& 2147483647) < (x5 &&& 2147483647) then (x5 &&& 2147483647) else (x4 &&& 2147483647))), .val (.ref a542), .val .null, .val .null, .unset, .unset, .unset] [(.int (1 : Int32))] rfl ?_
      refine own_if C S561 (q := .eq) (o := 7) (by decide +kernel) 235 (by decide) (by decide) (fun (hq : (1 : Int32) = (0 : Int32)) => False.elim (absurd hq (by decide))) (fun (q1009 : ¬ (1 : Int32) = (0 : Int32)) => ?_)
      refine own_seg C S561 [(231, .aload 12, 2), (233, .astore 17, 2)] (by decide +kernel) 235 #[.val (.int x1), .val (.int x2), .val (.int x3), .val (.int x4), .val (.int x5), .val (.int x6), .val (.int (0 : Int32)), .val (.int (1 : Int32)), .val (.int (0 : Int32)), .val (.ref a420), .val (.ref a442), .val (.ref a474), .val (.ref a503), .val (.int (x4 &&& 2147483647)), .val (.int (if (x4 &&& 2147483647) < (x5 &&& 2147483647) then (x5 &&& 2147483647) else (x4 &&& 2147483647))), .val (.ref a542), .val .null, .val (.ref a503), .unset, .unset, .unset] [] rfl ?_
      refine own_new C S561 (own_wd hw 67 rfl) (own_wd hw 68 rfl) (own_wd hw 69 rfl) (by decide +kernel) (by decide) (by decide) ?_
      intro T1010 h1012 a1013 S1011 g1014 E1015 x1016 D1017
      have f1018 : Fld Z h1012 a1013 "com/example/answer_by_role/answerbyrole/engine/extraction/Candidate" "position" "Lcom/example/answer_by_role/answerbyrole/engine/index/SentencePosition;" .null := D1017 (ty := (.object "com/example/answer_by_role/answerbyrole/engine/index/SentencePosition")) (Or.inr (own_wd hw 75 rfl)) own_fd2
      have f1019 : Fld Z h1012 a1013 "com/example/answer_by_role/answerbyrole/engine/extraction/Candidate" "first" "I" (.int (0 : Int32)) := D1017 (ty := .int) (Or.inr (own_wd hw 77 rfl)) own_fd0
      have f1020 : Fld Z h1012 a1013 "com/example/answer_by_role/answerbyrole/engine/extraction/Candidate" "last" "I" (.int (0 : Int32)) := D1017 (ty := .int) (Or.inr (own_wd hw 79 rfl)) own_fd0
      have f1021 : Fld Z h1012 a1013 "com/example/answer_by_role/answerbyrole/engine/extraction/Candidate" "text" "Ljava/lang/String;" .null := D1017 (ty := (.object "java/lang/String")) (Or.inr (own_wd hw 81 rfl)) own_fd1
      have f1022 : Fld Z h1012 a1013 "com/example/answer_by_role/answerbyrole/engine/extraction/Candidate" "argument" "Lcom/example/answer_by_role/answerbyrole/analysis/label/Argument;" .null := D1017 (ty := (.object "com/example/answer_by_role/answerbyrole/analysis/label/Argument")) (Or.inr (own_wd hw 83 rfl)) own_fd3
      have f1023 : Fld Z h1012 a1013 "com/example/answer_by_role/answerbyrole/engine/extraction/Candidate" "fills" "Z" (.int (0 : Int32)) := D1017 (ty := .boolean) (Or.inr (own_wd hw 85 rfl)) own_fd4
      have f1024 : Fld Z h1012 a1013 "com/example/answer_by_role/answerbyrole/engine/extraction/Candidate" "entityType" "Ljava/lang/String;" .null := D1017 (ty := (.object "java/lang/String")) (Or.inr (own_wd hw 87 rfl)) own_fd1
      refine own_seg C S1011 [(238, .dup, 1), (239, .aload 15, 2), (241, .iload 13, 2), (243, .iload 14, 2), (245, .aload 10, 2), (247, .aload 16, 2), (249, .iload 6, 2), (251, .aload 17, 2)] (by decide +kernel) 253 #[.val (.int x1), .val (.int x2), .val (.int x3), .val (.int x4), .val (.int x5), .val (.int x6), .val (.int (0 : Int32)), .val (.int (1 : Int32)), .val (.int (0 : Int32)), .val (.ref a420), .val (.ref a442), .val (.ref a474), .val (.ref a503), .val (.int (x4 &&& 2147483647)), .val (.int (if (x4 &&& 2147483647) < (x5 &&& 2147483647) then (x5 &&& 2147483647) else (x4 &&& 2147483647))), .val (.ref a542), .val .null, .val (.ref a503), .unset, .unset, .unset] [(.ref a503), (.int (0 : Int32)), .null, (.ref a442), (.int (if (x4 &&& 2147483647) < (x5 &&& 2147483647) then (x5 &&& 2147483647) else (x4 &&& 2147483647))), (.int (x4 &&& 2147483647)), (.ref a542), (.ref a1013), (.ref a1013)] rfl ?_
      have f1025 : n0 ≤ h1012.size := (Nat.le_trans (Nat.le_trans f550 K552.1) E1015.1)
      have f1026 : n0 ≤ h558.size := (Nat.le_trans f550 K552.1)
      have g1027 : n0 ≤ a1013 := by rw [g1014]; exact f1026
      refine own_callI C S1011 rfl (own_wd hw 70 rfl) (own_wd hw 71 rfl) (own_wd hw 72 rfl) (by decide) (own_Met.pay (own_ca010 l Z a0 hw a1013 a542 (x4 &&& 2147483647) (if (x4 &&& 2147483647) < (x5 &&& 2147483647) then (x5 &&& 2147483647) else (x4 &&& 2147483647)) a442 a503 h1012 n0 f1025 g1027 x1016 f1018 f1019 f1020 f1021 f1022 f1023 f1024 (own_nn _ _ (by decide)) (own_mx _ _)) C 1 (own_wd hw 72 rfl) (own_wd hw 69 rfl) (by decide) (by decide)) (fun _ _ _ q => q.2) [(.ref a542), (.int (x4 &&& 2147483647)), (.int (if (x4 &&& 2147483647) < (x5 &&& 2147483647) then (x5 &&& 2147483647) else (x4 &&& 2147483647))), (.ref a442), .null, (.int (0 : Int32)), (.ref a503)] [(.ref a1013)] rfl own_pd6 rfl rfl rfl (Nat.le_of_ble_eq_true rfl) (by decide) (by decide) (by decide +kernel) ?_
      rintro T1037 h1038 v1039 L1040 S1041 ⟨⟨rfl, K1028, x1029, f1030, f1031, f1032, f1033, f1034, f1035, f1036⟩, -⟩
      replace S1041 : own_S p l e room_1 s m #[(.int x1), (.int x2), (.int x3), (.int x4), (.int x5), (.int x6)] below meth c n0 T1037 h1038 8 28 := S1041
      show own_Go p e below s n0 _ _ _ T1037 (mkF m 256 #[.val (.int x1), .val (.int x2), .val (.int x3), .val (.int x4), .val (.int x5), .val (.int x6), .val (.int (0 : Int32)), .val (.int (1 : Int32)), .val (.int (0 : Int32)), .val (.ref a420), .val (.ref a442), .val (.ref a474), .val (.ref a503), .val (.int (x4 &&& 2147483647)), .val (.int (if (x4 &&& 2147483647) < (x5 &&& 2147483647) then (x5 &&& 2147483647) else (x4 &&& 2147483647))), .val (.ref a542), .val .null, .val (.ref a503), .unset, .unset, .unset] [(.ref a1013)])
      refine own_seg C S1041 [(256, .astore 18, 2), (258, .aload 18, 2)] (by decide +kernel) 260 #[.val (.int x1), .val (.int x2), .val (.int x3), .val (.int x4), .val (.int x5), .val (.int x6), .val (.int (0 : Int32)), .val (.int (1 : Int32)), .val (.int (0 : Int32)), .val (.ref a420), .val (.ref a442), .val (.ref a474), .val (.ref a503), .val (.int (x4 &&& 2147483647)), .val (.int (if (x4 &&& 2147483647) < (x5 &&& 2147483647) then (x5 &&& 2147483647) else (x4 &&& 2147483647))), .val (.ref a542), .val .null, .val (.ref a503), .val (.ref a1013), .unset, .unset] [(.ref a1013)] rfl ?_
      have f1042 : n0 ≤ h1038.size := (Nat.le_trans f1025 K1028.1)
      refine own_callV C S1041 (own_wd hw 88 rfl) (own_wd hw 89 rfl) (own_wd hw 91 rfl) (own_wd hw 91 rfl) (own_wd hw 90 rfl) (by decide) (own_Met.pay (own_lab3 l Z a0 hw a1013 a503 h1038 n0 f1042 x1029 f1035 f1036) C 0 (own_wd hw 92 rfl) (own_wd hw 69 rfl) (by decide) (by decide)) (fun _ _ _ q => q.2) x1029 [] [] rfl own_pd1 rfl rfl rfl (Nat.le_of_ble_eq_true rfl) (by decide) (by decide) (by decide +kernel) ?_
      rintro T1044 h1045 v1046 L1047 S1048 ⟨⟨rfl, e1043⟩, -⟩
      replace S1048 : own_S p l e room_1 s m #[(.int x1), (.int x2), (.int x3), (.int x4), (.int x5), (.int x6)] below meth c n0 T1044 h1045 8 28 := S1048
      rw [e1043] at S1048; clear e1043
      show own_Go p e below s n0 _ _ _ T1044 (mkF m 263 #[.val (.int x1), .val (.int x2), .val (.int x3), .val (.int x4), .val (.int x5), .val (.int x6), .val (.int (0 : Int32)), .val (.int (1 : Int32)), .val (.int (0 : Int32)), .val (.ref a420), .val (.ref a442), .val (.ref a474), .val (.ref a503), .val (.int (x4 &&& 2147483647)), .val (.int (if (x4 &&& 2147483647) < (x5 &&& 2147483647) then (x5 &&& 2147483647) else (x4 &&& 2147483647))), .val (.ref a542), .val .null, .val (.ref a503), .val (.ref a1013), .unset, .unset] [(.ref a503)])
      refine own_seg C S1048 [(263, .astore 19, 2), (265, .iload 6, 2)] (by decide +kernel) 267 #[.val (.int x1), .val (.int x2), .val (.int x3), .val (.int x4), .val (.int x5), .val (.int x6), .val (.int (0 : Int32)), .val (.int (1 : Int32)), .val (.int (0 : Int32)), .val (.ref a420), .val (.ref a442), .val (.ref a474), .val (.ref a503), .val (.int (x4 &&& 2147483647)), .val (.int (if (x4 &&& 2147483647) < (x5 &&& 2147483647) then (x5 &&& 2147483647) else (x4 &&& 2147483647))), .val (.ref a542), .val .null, .val (.ref a503), .val (.ref a1013), .val (.ref a503), .unset] [(.int (0 : Int32))] rfl ?_
      refine own_if C S1048 (q := .eq) (o := 10) (by decide +kernel) 277 (by decide) (by decide) (fun (q1049 : (0 : Int32) = (0 : Int32)) => ?_) (fun (hq : ¬ (0 : Int32) = (0 : Int32)) => False.elim (absurd hq (by decide)))
      refine own_seg C S1048 [(277, .iload 7, 2)] (by decide +kernel) 279 #[.val (.int x1), .val (.int x2), .val (.int x3), .val (.int x4), .val (.int x5), .val (.int x6), .val (.int (0 : Int32)), .val (.int (1 : Int32)), .val (.int (0 : Int32)), .val (.ref a420), .val (.ref a442), .val (.ref a474), .val (.ref a503), .val (.int (x4 &&& 2147483647)), .val (.int (if (x4 &&& 2147483647) < (x5 &&& 2147483647) then (x5 &&& 2147483647) else (x4 &&& 2147483647))), .val (.ref a542), .val .null, .val (.ref a503), .val (.ref a1013), .val (.ref a503), .unset] [(.int (1 : Int32))] rfl ?_
      refine own_if C S1048 (q := .eq) (o := 10) (by decide +kernel) 289 (by decide) (by decide) (fun (hq : (1 : Int32) = (0 : Int32)) => False.elim (absurd hq (by decide))) (fun (q1050 : ¬ (1 : Int32) = (0 : Int32)) => ?_)
      refine own_seg C S1048 [(282, .aload 12, 2), (284, .astore 20, 2), (286, .goto 7, 3), (293, .aload 19, 2), (295, .ifnull 30, 3), (298, .aload 19, 2)] (by decide +kernel) 300 #[.val (.int x1), .val (.int x2), .val (.int x3), .val (.int x4), .val (.int x5), .val (.int x6), .val (.int (0 : Int32)), .val (.int (1 : Int32)), .val (.int (0 : Int32)), .val (.ref a420), .val (.ref a442), .val (.ref a474), .val (.ref a503), .val (.int (x4 &&& 2147483647)), .val (.int (if (x4 &&& 2147483647) < (x5 &&& 2147483647) then (x5 &&& 2147483647) else (x4 &&& 2147483647))), .val (.ref a542), .val .null, .val (.ref a503), .val (.ref a1013), .val (.ref a503), .val (.ref a503)] [(.ref a503)] rfl ?_
      have f1051 : Exa Z h1038 a503 "java/lang/String" := ((Exa.ext E1015 ((Exa.ext E544 x517).keep K552)).keep K1028)
      have f1052 : a503 < h527.size := (Nat.lt_of_lt_of_le f509.lt K516.1)
      have n1053 : a503 ≠ a542 := by rw [g543]; exact Nat.ne_of_lt f1052
      have f1054 : a503 < h558.size := (Nat.lt_of_lt_of_le (Nat.lt_of_lt_of_le f1052 E544.1) K552.1)
      have n1055 : a503 ≠ a1013 := by rw [g1014]; exact Nat.ne_of_lt f1054
      have f1056 : Fld Z h1038 a503 "java/lang/String" "value" "[B" (.ref t519) := ((Fld.ext E1015 ((Fld.ext E544 f524).keep K552 (ninS n1053 nin0))).keep K1028 (ninS n1055 nin0))
      have f1057 : Fld Z h1038 a503 "java/lang/String" "coder" "B" (.int 0) := ((Fld.ext E1015 ((Fld.ext E544 f518).keep K552 (ninS n1053 nin0))).keep K1028 (ninS n1055 nin0))
      have n1058 : t519 ≠ a542 := by rw [g543]; exact Nat.ne_of_lt f525.lt
      have f1059 : t519 < h558.size := (Nat.lt_of_lt_of_le (Nat.lt_of_lt_of_le f525.lt E544.1) K552.1)
      have n1060 : t519 ≠ a1013 := by rw [g1014]; exact Nat.ne_of_lt f1059
      have f1061 : Arv Z h1038 t519 k520 .byte (3 : Int32) (((([(x3 &&& (255 : Int32)), ((Jvm.Free.XT.ushr x3 (8 : Int32)) &&& (255 : Int32)), ((Jvm.Free.XT.ushr x3 (16 : Int32)) &&& (255 : Int32))] : List Int32)).map (fun c => c.toInt8.toInt32)).map Value.int) (.int 0) := ((((f525.ext E544).keep K552 (ninS n1058 nin0)).ext E1015).keep K1028 (ninS n1060 nin0))
      have f1062 : Old Z n0 h1038 := (((((f515.keep K516 (allS g513 all0)).ext E544).keep K552 (allS g551 all0)).ext E1015).keep K1028 (allS g1027 all0))
      refine own_callV C S1048 (own_wd hw 98 rfl) (own_wd hw 99 rfl) (own_wd hw 101 rfl) (own_wd hw 101 rfl) (own_wd hw 100 rfl) (by decide) (Q := (fun v h' L => v = some (.int (Int32.ofNat (([(x3 &&& (255 : Int32)), ((Jvm.Free.XT.ushr x3 (8 : Int32)) &&& (255 : Int32)), ((Jvm.Free.XT.ushr x3 (16 : Int32)) &&& (255 : Int32))] : List Int32)).length)) ∧ L = [] ∧ h' = h1038)) (StrChars.Road.lenW (W := 0) C.2.2.2.2.2.2.2 (fun d hd => hw d (own_hln d hd)) (kI := 4) (own_wd hw 2 rfl) f1051 f1056 f1057 f1061 hcd531 (own_up _ hp510) (O2.ext f1062.2) P5 (Nat.le_of_ble_eq_true rfl) (by decide) (by decide)) (fun _ _ L q => by rw [q.2.1]; exact Fr.nil _) f1051 [] [] rfl own_pd7 rfl rfl rfl (Nat.le_of_ble_eq_true rfl) (by decide) (by decide) (by decide +kernel) ?_
      rintro T1064 h1065 v1066 L1067 S1068 ⟨rfl, -, e1063⟩
      replace S1068 : own_S p l e room_1 s m #[(.int x1), (.int x2), (.int x3), (.int x4), (.int x5), (.int x6)] below meth c n0 T1064 h1065 8 28 := S1068
      rw [e1063] at S1068; clear e1063
      show own_Go p e below s n0 _ _ _ T1064 (mkF m 303 #[.val (.int x1), .val (.int x2), .val (.int x3), .val (.int x4), .val (.int x5), .val (.int x6), .val (.int (0 : Int32)), .val (.int (1 : Int32)), .val (.int (0 : Int32)), .val (.ref a420), .val (.ref a442), .val (.ref a474), .val (.ref a503), .val (.int (x4 &&& 2147483647)), .val (.int (if (x4 &&& 2147483647) < (x5 &&& 2147483647) then (x5 &&& 2147483647) else (x4 &&& 2147483647))), .val (.ref a542), .val .null, .val (.ref a503), .val (.ref a1013), .val (.ref a503), .val (.ref a503)] [(.int (3 : Int32))])
      refine own_seg C S1068 [(303, .aload 20, 2)] (by decide +kernel) 305 #[.val (.int x1), .val (.int x2), .val (.int x3), .val (.int x4), .val (.int x5), .val (.int x6), .val (.int (0 : Int32)), .val (.int (1 : Int32)), .val (.int (0 : Int32)), .val (.ref a420), .val (.ref a442), .val (.ref a474), .val (.ref a503), .val (.int (x4 &&& 2147483647)), .val (.int (if (x4 &&& 2147483647) < (x5 &&& 2147483647) then (x5 &&& 2147483647) else (x4 &&& 2147483647))), .val (.ref a542), .val .null, .val (.ref a503), .val (.ref a1013), .val (.ref a503), .val (.ref a503)] [(.ref a503), (.int (3 : Int32))] rfl ?_
      refine own_callV C S1068 (own_wd hw 98 rfl) (own_wd hw 99 rfl) (own_wd hw 101 rfl) (own_wd hw 101 rfl) (own_wd hw 100 rfl) (by decide) (Q := (fun v h' L => v = some (.int (Int32.ofNat (([(x3 &&& (255 : Int32)), ((Jvm.Free.XT.ushr x3 (8 : Int32)) &&& (255 : Int32)), ((Jvm.Free.XT.ushr x3 (16 : Int32)) &&& (255 : Int32))] : List Int32)).length)) ∧ L = [] ∧ h' = h1038)) (StrChars.Road.lenW (W := 1) C.2.2.2.2.2.2.2 (fun d hd => hw d (own_hln d hd)) (kI := 4) (own_wd hw 2 rfl) f1051 f1056 f1057 f1061 hcd531 (own_up _ hp510) (O2.ext f1062.2) P5 (Nat.le_of_ble_eq_true rfl) (by decide) (by decide)) (fun _ _ L q => by rw [q.2.1]; exact Fr.nil _) f1051 [] [(.int (3 : Int32))] rfl own_pd7 rfl rfl rfl (Nat.le_of_ble_eq_true rfl) (by decide) (by decide) (by decide +kernel) ?_
      rintro T1070 h1071 v1072 L1073 S1074 ⟨rfl, -, e1069⟩
      replace S1074 : own_S p l e room_1 s m #[(.int x1), (.int x2), (.int x3), (.int x4), (.int x5), (.int x6)] below meth c n0 T1070 h1071 8 28 := S1074
      rw [e1069] at S1074; clear e1069
      show own_Go p e below s n0 _ _ _ T1070 (mkF m 308 #[.val (.int x1), .val (.int x2), .val (.int x3), .val (.int x4), .val (.int x5), .val (.int x6), .val (.int (0 : Int32)), .val (.int (1 : Int32)), .val (.int (0 : Int32)), .val (.ref a420), .val (.ref a442), .val (.ref a474), .val (.ref a503), .val (.int (x4 &&& 2147483647)), .val (.int (if (x4 &&& 2147483647) < (x5 &&& 2147483647) then (x5 &&& 2147483647) else (x4 &&& 2147483647))), .val (.ref a542), .val .null, .val (.ref a503), .val (.ref a1013), .val (.ref a503), .val (.ref a503)] [(.int (3 : Int32)), (.int (3 : Int32))])
      refine own_icmp C S1074 (q := .ne) (o := 17) (by decide +kernel) 325 (by decide) (by decide) (fun (hq : ¬ (3 : Int32) = (3 : Int32)) => False.elim (hq rfl)) (fun (q1075 : (3 : Int32) = (3 : Int32)) => ?_)
      refine own_seg C S1074 [(311, .aload 19, 2), (313, .aload 20, 2)] (by decide +kernel) 315 #[.val (.int x1), .val (.int x2), .val (.int x3), .val (.int x4), .val (.int x5), .val (.int x6), .val (.int (0 : Int32)), .val (.int (1 : Int32)), .val (.int (0 : Int32)), .val (.ref a420), .val (.ref a442), .val (.ref a474), .val (.ref a503), .val (.int (x4 &&& 2147483647)), .val (.int (if (x4 &&& 2147483647) < (x5 &&& 2147483647) then (x5 &&& 2147483647) else (x4 &&& 2147483647))), .val (.ref a542), .val .null, .val (.ref a503), .val (.ref a1013), .val (.ref a503), .val (.ref a503)] [(.ref a503), (.ref a503)] rfl ?_
      refine own_callV C S1074 (own_wd hw 108 rfl) (own_wd hw 109 rfl) (own_wd hw 111 rfl) (own_wd hw 111 rfl) (own_wd hw 110 rfl) (by decide) (own_Met.pay (own_eqs l Z a0 hw a503 h1038 n0 f1042) C 0 (own_wd hw 112 rfl) (own_wd hw 3 rfl) (by decide) (by decide)) (fun _ _ _ q => q.2) f1051 [(.ref a503)] [] rfl own_pd8 rfl rfl rfl (Nat.le_of_ble_eq_true rfl) (by decide) (by decide) (by decide +kernel) ?_
      rintro T1077 h1078 v1079 L1080 S1081 ⟨⟨rfl, e1076⟩, -⟩
      replace S1081 : own_S p l e room_1 s m #[(.int x1), (.int x2), (.int x3), (.int x4), (.int x5), (.int x6)] below meth c n0 T1077 h1078 8 28 := S1081
      rw [e1076] at S1081; clear e1076
      show own_Go p e below s n0 _ _ _ T1077 (mkF m 318 #[.val (.int x1), .val (.int x2), .val (.int x3), .val (.int x4), .val (.int x5), .val (.int x6), .val (.int (0 : Int32)), .val (.int (1 : Int32)), .val (.int (0 : Int32)), .val (.ref a420), .val (.ref a442), .val (.ref a474), .val (.ref a503), .val (.int (x4 &&& 2147483647)), .val (.int (if (x4 &&& 2147483647) < (x5 &&& 2147483647) then (x5 &&& 2147483647) else (x4 &&& 2147483647))), .val (.ref a542), .val .null, .val (.ref a503), .val (.ref a1013), .val (.ref a503), .val (.ref a503)] [(.int (1 : Int32))])
      refine own_if C S1081 (q := .eq) (o := 7) (by decide +kernel) 325 (by decide) (by decide) (fun (hq : (1 : Int32) = (0 : Int32)) => False.elim (absurd hq (by decide))) (fun (q1082 : ¬ (1 : Int32) = (0 : Int32)) => ?_)
      refine own_seg C S1081 [(321, .iconst 1, 1), (322, .goto 4, 3)] (by decide +kernel) 326 #[.val (.int x1), .val (.int x2), .val (.int x3), .val (.int x4), .val (.int x5), .val (.int x6), .val (.int (0 : Int32)), .val (.int (1 : Int32)), .val (.int (0 : Int32)), .val (.ref a420), .val (.ref a442), .val (.ref a474), .val (.ref a503), .val (.int (x4 &&& 2147483647)), .val (.int (if (x4 &&& 2147483647) < (x5 &&& 2147483647) then (x5 &&& 2147483647) else (x4 &&& 2147483647))), .val (.ref a542), .val .null, .val (.ref a503), .val (.ref a1013), .val (.ref a503), .val (.ref a503)] [(.int (1 : Int32))] rfl ?_
      refine own_retZ C S1081 (by decide +kernel) (by decide) (by decide) (by decide) ?_
      rfl
  refine own_seg C S0 [(0, .iload_n 0, 1), (1, .iconst 1, 1), (2, .iand, 1)] (by decide +kernel) 3 #[.val (.int x1), .val (.int x2), .val (.int x3), .val (.int x4), .val (.int x5), .val (.int x6), .unset, .unset, .unset, .unset, .unset, .unset, .unset, .unset, .unset, .unset, .unset, .unset, .unset, .unset, .unset] [(.int (x1 &&& (1 : Int32)))] rfl ?_
  refine own_if C S0 (q := .eq) (o := 7) (by decide +kernel) 10 (by decide) (by decide) (fun (q1083 : (x1 &&& (1 : Int32)) = (0 : Int32)) => ?_) (fun (q1084 : ¬ (x1 &&& (1 : Int32)) = (0 : Int32)) => ?_)
  · refine own_seg C S0 [(10, .iconst 0, 1), (11, .istore 6, 2), (13, .iload_n 0, 1), (14, .iconst 2, 1), (15, .iand, 1)] (by decide +kernel) 16 #[.val (.int x1), .val (.int x2), .val (.int x3), .val (.int x4), .val (.int x5), .val (.int x6), .val (.int (0 : Int32)), .unset, .unset, .unset, .unset, .unset, .unset, .unset, .unset, .unset, .unset, .unset, .unset, .unset, .unset] [(.int (x1 &&& (2 : Int32)))] rfl ?_
    refine own_if C S0 (q := .eq) (o := 7) (by decide +kernel) 23 (by decide) (by decide) (fun (q1085 : (x1 &&& (2 : Int32)) = (0 : Int32)) => ?_) (fun (q1086 : ¬ (x1 &&& (2 : Int32)) = (0 : Int32)) => ?_)
    · refine own_seg C S0 [(23, .iconst 0, 1), (24, .istore 7, 2), (26, .iload 6, 2)] (by decide +kernel) 28 #[.val (.int x1), .val (.int x2), .val (.int x3), .val (.int x4), .val (.int x5), .val (.int x6), .val (.int (0 : Int32)), .val (.int (0 : Int32)), .unset, .unset, .unset, .unset, .unset, .unset, .unset, .unset, .unset, .unset, .unset, .unset, .unset] [(.int (0 : Int32))] rfl ?_
      refine own_if C S0 (q := .ne) (o := 14) (by decide +kernel) 42 (by decide) (by decide) (fun (hq : ¬ (0 : Int32) = (0 : Int32)) => False.elim (absurd hq (by decide))) (fun (q1087 : (0 : Int32) = (0 : Int32)) => ?_)
      refine own_seg C S0 [(31, .iload 7, 2)] (by decide +kernel) 33 #[.val (.int x1), .val (.int x2), .val (.int x3), .val (.int x4), .val (.int x5), .val (.int x6), .val (.int (0 : Int32)), .val (.int (0 : Int32)), .unset, .unset, .unset, .unset, .unset, .unset, .unset, .unset, .unset, .unset, .unset, .unset, .unset] [(.int (0 : Int32))] rfl ?_
      refine own_if C S0 (q := .eq) (o := 9) (by decide +kernel) 42 (by decide) (by decide) (fun (q1088 : (0 : Int32) = (0 : Int32)) => ?_) (fun (hq : ¬ (0 : Int32) = (0 : Int32)) => False.elim (absurd hq (by decide)))
      refine own_seg C S0 [(42, .iconst 1, 1), (43, .goto 4, 3), (47, .istore 8, 2)] (by decide +kernel) 49 #[.val (.int x1), .val (.int x2), .val (.int x3), .val (.int x4), .val (.int x5), .val (.int x6), .val (.int (0 : Int32)), .val (.int (0 : Int32)), .val (.int (1 : Int32)), .unset, .unset, .unset, .unset, .unset, .unset, .unset, .unset, .unset, .unset, .unset, .unset] [] rfl ?_
      exact J _ _ _ _ S0 (Or.inr (Or.inr (Or.inl ⟨rfl, rfl, rfl⟩)))
    · refine own_seg C S0 [(19, .iconst 1, 1), (20, .goto 4, 3), (24, .istore 7, 2), (26, .iload 6, 2)] (by decide +kernel) 28 #[.val (.int x1), .val (.int x2), .val (.int x3), .val (.int x4), .val (.int x5), .val (.int x6), .val (.int (0 : Int32)), .val (.int (1 : Int32)), .unset, .unset, .unset, .unset, .unset, .unset, .unset, .unset, .unset, .unset, .unset, .unset, .unset] [(.int (0 : Int32))] rfl ?_
      refine own_if C S0 (q := .ne) (o := 14) (by decide +kernel) 42 (by decide) (by decide) (fun (hq : ¬ (0 : Int32) = (0 : Int32)) => False.elim (absurd hq (by decide))) (fun (q1089 : (0 : Int32) = (0 : Int32)) => ?_)
      refine own_seg C S0 [(31, .iload 7, 2)] (by decide +kernel) 33 #[.val (.int x1), .val (.int x2), .val (.int x3), .val (.int x4), .val (.int x5), .val (.int x6), .val (.int (0 : Int32)), .val (.int (1 : Int32)), .unset, .unset, .unset, .unset, .unset, .unset, .unset, .unset, .unset, .unset, .unset, .unset, .unset] [(.int (1 : Int32))] rfl ?_
      refine own_if C S0 (q := .eq) (o := 9) (by decide +kernel) 42 (by decide) (by decide) (fun (hq : (1 : Int32) = (0 : Int32)) => False.elim (absurd hq (by decide))) (fun (q1090 : ¬ (1 : Int32) = (0 : Int32)) => ?_)
      refine own_seg C S0 [(36, .iload_n 0, 1), (37, .iconst 4, 1), (38, .iand, 1)] (by decide +kernel) 39 #[.val (.int x1), .val (.int x2), .val (.int x3), .val (.int x4), .val (.int x5), .val (.int x6), .val (.int (0 : Int32)), .val (.int (1 : Int32)), .unset, .unset, .unset, .unset, .unset, .unset, .unset, .unset, .unset, .unset, .unset, .unset, .unset] [(.int (x1 &&& (4 : Int32)))] rfl ?_
      refine own_if C S0 (q := .eq) (o := 7) (by decide +kernel) 46 (by decide) (by decide) (fun (q1091 : (x1 &&& (4 : Int32)) = (0 : Int32)) => ?_) (fun (q1092 : ¬ (x1 &&& (4 : Int32)) = (0 : Int32)) => ?_)
      · refine own_seg C S0 [(46, .iconst 0, 1), (47, .istore 8, 2)] (by decide +kernel) 49 #[.val (.int x1), .val (.int x2), .val (.int x3), .val (.int x4), .val (.int x5), .val (.int x6), .val (.int (0 : Int32)), .val (.int (1 : Int32)), .val (.int (0 : Int32)), .unset, .unset, .unset, .unset, .unset, .unset, .unset, .unset, .unset, .unset, .unset, .unset] [] rfl ?_
        exact J _ _ _ _ S0 (Or.inr (Or.inr (Or.inr (Or.inr ⟨rfl, rfl, rfl⟩))))
      · refine own_seg C S0 [(42, .iconst 1, 1), (43, .goto 4, 3), (47, .istore 8, 2)] (by decide +kernel) 49 #[.val (.int x1), .val (.int x2), .val (.int x3), .val (.int x4), .val (.int x5), .val (.int x6), .val (.int (0 : Int32)), .val (.int (1 : Int32)), .val (.int (1 : Int32)), .unset, .unset, .unset, .unset, .unset, .unset, .unset, .unset, .unset, .unset, .unset, .unset] [] rfl ?_
        exact J _ _ _ _ S0 (Or.inr (Or.inr (Or.inr (Or.inl ⟨rfl, rfl, rfl⟩))))
  · refine own_seg C S0 [(6, .iconst 1, 1), (7, .goto 4, 3), (11, .istore 6, 2), (13, .iload_n 0, 1), (14, .iconst 2, 1), (15, .iand, 1)] (by decide +kernel) 16 #[.val (.int x1), .val (.int x2), .val (.int x3), .val (.int x4), .val (.int x5), .val (.int x6), .val (.int (1 : Int32)), .unset, .unset, .unset, .unset, .unset, .unset, .unset, .unset, .unset, .unset, .unset, .unset, .unset, .unset] [(.int (x1 &&& (2 : Int32)))] rfl ?_
    refine own_if C S0 (q := .eq) (o := 7) (by decide +kernel) 23 (by decide) (by decide) (fun (q1093 : (x1 &&& (2 : Int32)) = (0 : Int32)) => ?_) (fun (q1094 : ¬ (x1 &&& (2 : Int32)) = (0 : Int32)) => ?_)
    · refine own_seg C S0 [(23, .iconst 0, 1), (24, .istore 7, 2), (26, .iload 6, 2)] (by decide +kernel) 28 #[.val (.int x1), .val (.int x2), .val (.int x3), .val (.int x4), .val (.int x5), .val (.int x6), .val (.int (1 : Int32)), .val (.int (0 : Int32)), .unset, .unset, .unset, .unset, .unset, .unset, .unset, .unset, .unset, .unset, .unset, .unset, .unset] [(.int (1 : Int32))] rfl ?_
      refine own_if C S0 (q := .ne) (o := 14) (by decide +kernel) 42 (by decide) (by decide) (fun (q1095 : ¬ (1 : Int32) = (0 : Int32)) => ?_) (fun (hq : (1 : Int32) = (0 : Int32)) => False.elim (absurd hq (by decide)))
      refine own_seg C S0 [(42, .iconst 1, 1), (43, .goto 4, 3), (47, .istore 8, 2)] (by decide +kernel) 49 #[.val (.int x1), .val (.int x2), .val (.int x3), .val (.int x4), .val (.int x5), .val (.int x6), .val (.int (1 : Int32)), .val (.int (0 : Int32)), .val (.int (1 : Int32)), .unset, .unset, .unset, .unset, .unset, .unset, .unset, .unset, .unset, .unset, .unset, .unset] [] rfl ?_
      exact J _ _ _ _ S0 (Or.inr (Or.inl ⟨rfl, rfl, rfl⟩))
    · refine own_seg C S0 [(19, .iconst 1, 1), (20, .goto 4, 3), (24, .istore 7, 2), (26, .iload 6, 2)] (by decide +kernel) 28 #[.val (.int x1), .val (.int x2), .val (.int x3), .val (.int x4), .val (.int x5), .val (.int x6), .val (.int (1 : Int32)), .val (.int (1 : Int32)), .unset, .unset, .unset, .unset, .unset, .unset, .unset, .unset, .unset, .unset, .unset, .unset, .unset] [(.int (1 : Int32))] rfl ?_
      refine own_if C S0 (q := .ne) (o := 14) (by decide +kernel) 42 (by decide) (by decide) (fun (q1096 : ¬ (1 : Int32) = (0 : Int32)) => ?_) (fun (hq : (1 : Int32) = (0 : Int32)) => False.elim (absurd hq (by decide)))
      refine own_seg C S0 [(42, .iconst 1, 1), (43, .goto 4, 3), (47, .istore 8, 2)] (by decide +kernel) 49 #[.val (.int x1), .val (.int x2), .val (.int x3), .val (.int x4), .val (.int x5), .val (.int x6), .val (.int (1 : Int32)), .val (.int (1 : Int32)), .val (.int (1 : Int32)), .unset, .unset, .unset, .unset, .unset, .unset, .unset, .unset, .unset, .unset, .unset, .unset] [] rfl ?_
      exact J _ _ _ _ S0 (Or.inl ⟨rfl, rfl, rfl⟩)
set_option maxRecDepth 65536 in
set_option maxHeartbeats 40000000 in
theorem comes_1 {Post : Tables → Env → Array Value → State → Outcome → State → Prop} (hpost : ∀ tb e args s v u, (limb_1_1.after args s (.returned v) u = true ∧ limb_1_2.after args s (.returned v) u = true ∧ True) → FrameEnd s (.returned v) u (Jvm.fieldLocs frame_1_writes args s ++ Jvm.arrayLocs frame_1_arrays args s ++ Jvm.staticLocs frame_1_statics s) 32 128 → Post tb e args s (.returned v) u) :
    ArmFor flags0 classFile x code maxLocals ret World_1 tables_1 room_1 Calls_1 rest_1 Pre_1 Post := by
  intro l hfl _ _ p e ha hc hk s m args below hf hA hF happ hP
  obtain ⟨hcalls, hrest, hpre⟩ := hP
  obtain ⟨-, -, -, hnamed, -, -, -, hat⟩ := (Spec.applies_iff hf).mp happ
  obtain ⟨hg, hn⟩ := and_e (Cond.before_iff.mp (show (Jvm.Cond.and given_1 narrow_1).before args s = true from hpre))
  obtain ⟨hcount, hk0⟩ := and_e hg
  obtain ⟨ha0, hk1⟩ := and_e hk0
  obtain ⟨ha1, hk2⟩ := and_e hk1
  obtain ⟨ha2, hk3⟩ := and_e hk2
  obtain ⟨ha3, hk4⟩ := and_e hk3
  obtain ⟨ha4, hk5⟩ := and_e hk4
  obtain ⟨w0, w1, w2, w3, w4, w5, rfl⟩ : ∃ w0 w1 w2 w3 w4 w5 : Value, args = #[w0, w1, w2, w3, w4, w5] := by
    have hs : args.size = 6 := by simpa [Cond.value, given_1] using hcount
    obtain ⟨L⟩ := args
    match L, hs with
    | [w0, w1, w2, w3, w4, w5], _ => exact ⟨w0, w1, w2, w3, w4, w5, rfl⟩
  have hw := fun d (hd : d ∈ tables_1) => atoms_spec (ws := Jvm.Cond.code x code maxLocals ret :: tables_1) hat d (List.mem_cons_of_mem _ hd)
  obtain ⟨i0, ei0⟩ := is_v ha0
  obtain rfl : w0 = (.int i0) := Option.some.inj ei0
  obtain ⟨i1, ei1⟩ := is_v ha1
  obtain rfl : w1 = (.int i1) := Option.some.inj ei1
  obtain ⟨i2, ei2⟩ := is_v ha2
  obtain rfl : w2 = (.int i2) := Option.some.inj ei2
  obtain ⟨i3, ei3⟩ := is_v ha3
  obtain rfl : w3 = (.int i3) := Option.some.inj ei3
  obtain ⟨i4, ei4⟩ := is_v ha4
  obtain rfl : w4 = (.int i4) := Option.some.inj ei4
  obtain ⟨i5, ei5⟩ := is_v hk5
  obtain rfl : w5 = (.int i5) := Option.some.inj ei5
  obtain ⟨hsets, hown0⟩ := atoms_of _ (rest_1_c_eq ▸ (show rest_1_c.before _ s = true from hrest))
  have nz := not_v (Cond.before_iff.mp (hsets _ (List.mem_of_getElem? (i := 2) rfl)))
  obtain ⟨g1, eg1⟩ := is_v (Cond.before_iff.mp (hsets _ (List.mem_of_getElem? (i := 1) rfl)))
  have O2 : Sta s s.heap "java/lang/String" "COMPACT_STRINGS" "Z" (.int g1) := Sta.start eg1 (Or.inl (hsets _ (List.mem_of_getElem? (i := 0) rfl)))
  obtain ⟨g3, eg3, rg3⟩ := isR_v (Cond.before_iff.mp (hsets _ (List.mem_of_getElem? (i := 8) rfl)))
  have O4 : Sta s s.heap "jdk/internal/util/Preconditions" "SIOOBE_FORMATTER" "Ljava/util/function/BiFunction;" g3 := Sta.start eg3 (Or.inl (hsets _ (List.mem_of_getElem? (i := 7) rfl)))
  have P5 : ¬ (g1 = (0 : Int32)) := gotF (Cond.eq_ints eg1 (Term.int_eval (0))) nz
  obtain ⟨n, o, g1, g2, g3, _, L, rfl, ⟨rfl, N⟩, hq⟩ := own_law l s _ hw i0 i1 i2 i3 i4 i5 g1 g3 s.heap s.heap.size (Nat.le_refl _) (Old.start s) O2 O4 P5 rg3 tables_1 p e ha hc hk s m _ below hf ((Spec.applies_iff_loose hf).mp happ).1 ⟨rfl, State.Warmed39.refl s, rfl⟩ trivial
  refine ⟨n, _, g1, g2, g3, hpost _ _ _ _ _ _ ⟨Cond.after_iff.mpr rfl, Cond.after_iff.mpr (eq_i res_at (Term.int_eval (1)) rfl), trivial⟩ ⟨hq.1, hq.2.1, (hq.2.2.sift fun y hy => Or.inr (N y hy)).mono (by decide) (by decide)⟩⟩
theorem main_1_1 : Claimed_1_1 := comes_1 fun _ _ _ _ _ _ h hF => ⟨h.1, hF⟩
theorem main_1_2 : Claimed_1_2 := comes_1 fun _ _ _ _ _ _ h hF => ⟨h.2.1, hF⟩
end Jvm.Pilot.@@N@@
namespace Jvm.Pilot.@@N@@
open Jvm Jvm.ClassFile Sem Op Lib Jvm.Free Jvm.Stand Jvm.Pilot.@@N@@.Jvm.D
/-! MADE BY PROGRAM (witnessworld.py) out of the Statement's table words and the real class files: 24 classes; the members and pool entries that the words name. The judged class is class 1, her method 1. -/
namespace start1
open Jvm.ClassFile
def u (s : String) : CpInfo := .utf8 (stringToUtf16 s)
/-- a pool by its gaps: so many unusable entries, then the entry; so many at the end -/
def gap : Nat → List CpInfo → List CpInfo
  | 0, r => r
  | n + 1, r => .unusable :: gap n r
def poolList (es : List (Nat × CpInfo)) (last : Nat) : List CpInfo := es.foldr (fun e r => gap e.1 (e.2 :: r)) (gap last [])
def pool (es : List (Nat × CpInfo)) (last : Nat) : Array CpInfo := ⟨poolList es last⟩
def fileOf (pool : Array CpInfo) (this : Nat) (attrs : Array Attribute := #[]) (ms : Array MethodInfo := #[]) (fl : Nat := 33) (sup : Nat := 0) (ifs : Array Nat := #[]) (fds : Array FieldInfo := #[]) : ClassFile where
  minorVersion := 0
  majorVersion := 65
  constantPool := pool
  accessFlags := fl
  thisClass := this
  superClass := sup
  interfaces := ifs
  fields := fds
  methods := ms
  attributes := attrs
def plain (name : String) (sup : Option ClassId) : Class where
  name := name
  kind := .ordinary
  loader := none
  accessFlags := 33
  super := sup
  interfaces := #[]
  cf := none
  fields := #[]
  methods := #[]
  instanceTypes := #[]
  staticTypes := #[]
  resolved := #[]
  callSites := []
  init := .initialized
  statics := none
  mirror := none

def pool0 : Array CpInfo := pool [(5, u "<init>"), (0, u "()V"), (1, .class_ 10), (1, u "java/lang/Object")] 113

def k0c0 : Code := { maxStack := 0, maxLocals := 1, code := object_method_1_code, exceptionTable := #[], attributes := #[] }
def k0m0 : Method := { name := "<init>", desc := "()V", sig := { parameters := [], returnType := none }, accessFlags := 1, code := some k0c0 }
/-- java/lang/Object -/
def k0 : Class := { plain "java/lang/Object" none with
  accessFlags := 33
  interfaces := #[]
  cf := some (fileOf pool0 8 #[] #[{ accessFlags := 1, nameIndex := 5, descriptorIndex := 6, attributes := #[] }] 33 0 #[] #[])
  fields := #[]
  methods := #[k0m0]
  instanceTypes := #[]
  staticTypes := #[]
  resolved := Array.replicate 124 none
  statics := none }

def pool1 : Array CpInfo := pool [(2, .class_ 4), (1, u "java/lang/Object"), (0, u "<init>"), (0, u "()V"), (0, .class_ 8), (0, u "java/lang/String"), (0, .methodref 7 10), (0, .nameAndType 5 11), (0, u "([C)V"), (0, .integer 2147483647), (0, .methodref 14 15), (0, .class_ 16), (0, .nameAndType 17 18), (0, u "java/lang/Math"), (0, u "max"), (0, u "(II)I"), (0, .class_ 20), (0, u "com/example/answer_by_role/answerbyrole/engine/index/SentencePosition"), (0, .methodref 19 22), (0, .nameAndType 5 23), (0, u "(III)V"), (0, .class_ 25), (0, u "com/example/answer_by_role/answerbyrole/analysis/label/Argument"), (0, .integer 65535), (0, .methodref 24 28), (0, .nameAndType 5 29), (0, u "(IILjava/lang/String;)V"), (0, .class_ 31), (0, u "com/example/answer_by_role/answerbyrole/engine/extraction/Candidate"), (0, .methodref 30 33), (0, .nameAndType 5 34), (0, u "(Lcom/example/answer_by_role/answerbyrole/engine/index/SentencePosition;IILjava/lang/String;Lcom/example/answer_by_role/answerbyrole/analysis/label/Argument;ZLjava/lang/String;)V"), (0, .methodref 30 36), (0, .nameAndType 37 38), (0, u "label"), (0, u "()Ljava/lang/String;"), (0, .methodref 7 40), (0, .nameAndType 41 42), (0, u "length"), (0, u "()I"), (0, .methodref 7 44), (0, .nameAndType 45 46), (0, u "equals"), (0, u "(Ljava/lang/Object;)Z"), (0, .class_ 48), (0, u "com/example/answer_by_role/answerbyrole/engine/extraction/CandidateLabelPinLaw"), (2, u "law"), (0, u "(IIIIII)Z")] 5

def k1m0 : Method := { name := "<init>", desc := "()V", sig := { parameters := [], returnType := none }, accessFlags := 1, code := none }
def k1c1 : Code := { maxStack := 9, maxLocals := 21, code := code, exceptionTable := #[], attributes := #[] }
def k1m1 : Method := { name := "law", desc := "(IIIIII)Z", sig := { parameters := [.int, .int, .int, .int, .int, .int], returnType := some .boolean }, accessFlags := 9, code := some k1c1 }
/-- com/example/answer_by_role/answerbyrole/engine/extraction/CandidateLabelPinLaw -/
def k1 : Class := { plain "com/example/answer_by_role/answerbyrole/engine/extraction/CandidateLabelPinLaw" (some 0) with
  accessFlags := 49
  interfaces := #[]
  cf := some (fileOf pool1 47 #[] #[{ accessFlags := 1, nameIndex := 5, descriptorIndex := 6, attributes := #[] }, { accessFlags := 9, nameIndex := 51, descriptorIndex := 52, attributes := #[] }] 49 2 #[] #[])
  fields := #[]
  methods := #[k1m0, k1m1]
  instanceTypes := #[]
  staticTypes := #[]
  resolved := Array.replicate 58 none
  statics := none }

def pool2 : Array CpInfo := pool [(1, .class_ 2), (0, u "java/io/Serializable"), (0, .class_ 4), (0, u "java/lang/Object")] 2

/-- java/io/Serializable -/
def k2 : Class := { plain "java/io/Serializable" (some 0) with
  accessFlags := 1537
  interfaces := #[]
  cf := some (fileOf pool2 1 #[] #[] 1537 3 #[] #[])
  fields := #[]
  methods := #[]
  instanceTypes := #[]
  staticTypes := #[]
  resolved := Array.replicate 7 none
  statics := none }

def pool3 : Array CpInfo := pool [(1, .class_ 2), (0, u "java/lang/Comparable"), (0, .class_ 4), (0, u "java/lang/Object")] 7

/-- java/lang/Comparable -/
def k3 : Class := { plain "java/lang/Comparable" (some 0) with
  accessFlags := 1537
  interfaces := #[]
  cf := some (fileOf pool3 1 #[] #[] 1537 3 #[] #[])
  fields := #[]
  methods := #[]
  instanceTypes := #[]
  staticTypes := #[]
  resolved := Array.replicate 12 none
  statics := none }

def pool4 : Array CpInfo := pool [(2, .class_ 4), (1, u "java/lang/CharSequence"), (42, .class_ 48), (0, u "java/lang/CharSequence$1CodePointIterator"), (10, .class_ 60), (0, u "java/lang/CharSequence$1CharIterator"), (5, .class_ 67), (0, u "java/lang/Object")] 63

/-- java/lang/CharSequence -/
def k4 : Class := { plain "java/lang/CharSequence" (some 0) with
  accessFlags := 1537
  interfaces := #[]
  cf := some (fileOf pool4 2 #[.nestMembers #[47, 59]] #[] 1537 66 #[] #[])
  fields := #[]
  methods := #[]
  instanceTypes := #[]
  staticTypes := #[]
  resolved := Array.replicate 131 none
  statics := none }

def pool5 : Array CpInfo := pool [(1, .class_ 2), (0, u "java/lang/constant/Constable"), (0, .class_ 4), (0, u "java/lang/Object")] 6

/-- java/lang/constant/Constable -/
def k5 : Class := { plain "java/lang/constant/Constable" (some 0) with
  accessFlags := 1537
  interfaces := #[]
  cf := some (fileOf pool5 1 #[] #[] 1537 3 #[] #[])
  fields := #[]
  methods := #[]
  instanceTypes := #[]
  staticTypes := #[]
  resolved := Array.replicate 11 none
  statics := none }

def pool6 : Array CpInfo := pool [(1, .class_ 2), (0, u "java/lang/constant/ConstantDesc"), (0, .class_ 4), (0, u "java/lang/Object")] 32

/-- java/lang/constant/ConstantDesc -/
def k6 : Class := { plain "java/lang/constant/ConstantDesc" (some 0) with
  accessFlags := 1537
  interfaces := #[]
  cf := some (fileOf pool6 1 #[] #[] 1537 3 #[] #[])
  fields := #[]
  methods := #[]
  instanceTypes := #[]
  staticTypes := #[]
  resolved := Array.replicate 37 none
  statics := none }

def pool7 : Array CpInfo := pool [(1, .methodref 2 3), (0, .class_ 4), (0, .nameAndType 5 6), (0, u "java/lang/Object"), (0, u "<init>"), (0, u "()V"), (2, .fieldref 10 11), (0, .class_ 12), (0, .nameAndType 13 14), (0, u "java/lang/String"), (0, u "value"), (0, u "[B"), (0, .fieldref 10 16), (0, .nameAndType 17 18), (0, u "coder"), (0, u "B"), (2, u "hash"), (0, u "I"), (2, u "hashIsZero"), (0, u "Z"), (0, .methodref 10 28), (0, .nameAndType 5 29), (0, u "([CIILjava/lang/Void;)V"), (8, .fieldref 10 39), (0, .nameAndType 40 26), (0, u "COMPACT_STRINGS"), (1, .class_ 44), (1, u "java/lang/StringUTF16"), (0, u "compress"), (1, .methodref 42 48), (0, .nameAndType 49 50), (0, u "coderFromArrayLen"), (0, u "([BI)B"), (126, .methodref 42 178), (0, .nameAndType 45 179), (0, u "([CII)[B"), (154, u "()I"), (0, .methodref 10 336), (0, .nameAndType 17 337), (0, u "()B"), (169, u "length"), (35, u "equals"), (29, u "(Ljava/lang/Object;)Z"), (1, .class_ 576), (0, u "java/lang/CharSequence"), (22, u "CASE_INSENSITIVE_ORDER"), (0, u "Ljava/util/Comparator;"), (409, u "([C)V"), (90, u "serialPersistentFields"), (0, u "[Ljava/io/ObjectStreamField;"), (0, .class_ 1104), (0, u "java/lang/String$CaseInsensitiveComparator"), (1, .class_ 1107), (0, u "java/io/Serializable"), (0, .class_ 1109), (0, u "java/lang/Comparable"), (0, .class_ 1111), (0, u "java/lang/constant/Constable"), (0, .class_ 1113), (0, u "java/lang/constant/ConstantDesc"), (2, u "serialVersionUID"), (0, u "J"), (3, u "REPL"), (0, u "C"), (2, u "LATIN1"), (1, u "UTF16")] 323

def k7m0 : Method := { name := "<init>", desc := "()V", sig := { parameters := [], returnType := none }, accessFlags := 1, code := none }
def k7c1 : Code := { maxStack := 5, maxLocals := 2, code := jdk_42_method_3_code, exceptionTable := #[], attributes := #[] }
def k7m1 : Method := { name := "<init>", desc := "([C)V", sig := { parameters := [(.array .char)], returnType := none }, accessFlags := 1, code := some k7c1 }
def k7c2 : Code := { maxStack := 2, maxLocals := 1, code := jdk_42_method_54_code, exceptionTable := #[], attributes := #[] }
def k7m2 : Method := { name := "length", desc := "()I", sig := { parameters := [], returnType := some .int }, accessFlags := 1, code := some k7c2 }
def k7c3 : Code := { maxStack := 2, maxLocals := 3, code := jdk_42_method_66_code, exceptionTable := #[], attributes := #[] }
def k7m3 : Method := { name := "equals", desc := "(Ljava/lang/Object;)Z", sig := { parameters := [(.object "java/lang/Object")], returnType := some .boolean }, accessFlags := 1, code := some k7c3 }
def k7c4 : Code := { maxStack := 4, maxLocals := 6, code := jdk_42_method_149_code, exceptionTable := #[], attributes := #[] }
def k7m4 : Method := { name := "<init>", desc := "([CIILjava/lang/Void;)V", sig := { parameters := [(.array .char), .int, .int, (.object "java/lang/Void")], returnType := none }, accessFlags := 2, code := some k7c4 }
def k7c5 : Code := { maxStack := 1, maxLocals := 1, code := jdk_42_method_152_code, exceptionTable := #[], attributes := #[] }
def k7m5 : Method := { name := "coder", desc := "()B", sig := { parameters := [], returnType := some .byte }, accessFlags := 0, code := some k7c5 }
/-- java/lang/String -/
def k7 : Class := { plain "java/lang/String" (some 0) with
  accessFlags := 49
  interfaces := #[2, 3, 4, 5, 6]
  cf := some (fileOf pool7 10 #[.nestMembers #[1103]] #[{ accessFlags := 1, nameIndex := 5, descriptorIndex := 6, attributes := #[] }, { accessFlags := 1, nameIndex := 5, descriptorIndex := 1010, attributes := #[] }, { accessFlags := 1, nameIndex := 507, descriptorIndex := 334, attributes := #[] }, { accessFlags := 1, nameIndex := 543, descriptorIndex := 573, attributes := #[] }, { accessFlags := 2, nameIndex := 5, descriptorIndex := 29, attributes := #[] }, { accessFlags := 0, nameIndex := 17, descriptorIndex := 337, attributes := #[] }] 49 2 #[1106, 1108, 575, 1110, 1112] #[{ accessFlags := 18, nameIndex := 13, descriptorIndex := 14, attributes := #[] }, { accessFlags := 18, nameIndex := 17, descriptorIndex := 18, attributes := #[] }, { accessFlags := 2, nameIndex := 21, descriptorIndex := 22, attributes := #[] }, { accessFlags := 2, nameIndex := 25, descriptorIndex := 26, attributes := #[] }, { accessFlags := 26, nameIndex := 1116, descriptorIndex := 1117, attributes := #[] }, { accessFlags := 24, nameIndex := 40, descriptorIndex := 26, attributes := #[] }, { accessFlags := 26, nameIndex := 1101, descriptorIndex := 1102, attributes := #[] }, { accessFlags := 26, nameIndex := 1121, descriptorIndex := 1122, attributes := #[] }, { accessFlags := 25, nameIndex := 599, descriptorIndex := 600, attributes := #[] }, { accessFlags := 24, nameIndex := 1125, descriptorIndex := 18, attributes := #[] }, { accessFlags := 24, nameIndex := 1127, descriptorIndex := 18, attributes := #[] }])
  fields := #[{ name := "value", type := (.array .byte), accessFlags := 18, slot := 0, constantValue := 0 }, { name := "coder", type := .byte, accessFlags := 18, slot := 1, constantValue := 0 }, { name := "hash", type := .int, accessFlags := 2, slot := 2, constantValue := 0 }, { name := "hashIsZero", type := .boolean, accessFlags := 2, slot := 3, constantValue := 0 }, { name := "serialVersionUID", type := .long, accessFlags := 26, slot := 0, constantValue := 0 }, { name := "COMPACT_STRINGS", type := .boolean, accessFlags := 24, slot := 1, constantValue := 0 }, { name := "serialPersistentFields", type := (.array (.object "java/io/ObjectStreamField")), accessFlags := 26, slot := 2, constantValue := 0 }, { name := "REPL", type := .char, accessFlags := 26, slot := 3, constantValue := 0 }, { name := "CASE_INSENSITIVE_ORDER", type := (.object "java/util/Comparator"), accessFlags := 25, slot := 4, constantValue := 0 }, { name := "LATIN1", type := .byte, accessFlags := 24, slot := 5, constantValue := 0 }, { name := "UTF16", type := .byte, accessFlags := 24, slot := 6, constantValue := 0 }]
  methods := #[k7m0, k7m1, k7m2, k7m3, k7m4, k7m5]
  instanceTypes := #[(.array .byte), .byte, .int, .boolean]
  staticTypes := #[.long, .boolean, (.array (.object "java/io/ObjectStreamField")), .char, (.object "java/util/Comparator"), .byte, .byte]
  resolved := Array.replicate 1451 none
  statics := some 0 }

def pool8 : Array CpInfo := pool [(6, .class_ 8), (1, u "java/lang/Object"), (0, u "<init>"), (0, u "()V"), (1, .class_ 14), (1, u "java/lang/StringUTF16"), (31, u "$assertionsDisabled"), (0, u "Z"), (13, u "HI_BYTE_SHIFT"), (0, u "I"), (2, u "LO_BYTE_SHIFT"), (49, .methodref 12 116), (0, .nameAndType 117 118), (0, u "compress"), (0, u "([CI[BII)I"), (3, u "([CII)[B"), (138, u "coderFromArrayLen"), (0, u "([BI)B"), (106, .class_ 371), (1, u "java/lang/StringUTF16$LinesSpliterator"), (58, u "MAX_LENGTH"), (196, .class_ 628), (0, u "java/lang/StringUTF16$CodePointsSpliterator"), (0, .class_ 630), (0, u "java/lang/StringUTF16$CharsSpliterator")] 4

def k8m0 : Method := { name := "<init>", desc := "()V", sig := { parameters := [], returnType := none }, accessFlags := 0, code := none }
def k8c1 : Code := { maxStack := 2, maxLocals := 2, code := jdk_52_method_15_code, exceptionTable := #[], attributes := #[] }
def k8m1 : Method := { name := "coderFromArrayLen", desc := "([BI)B", sig := { parameters := [(.array .byte), .int], returnType := some .byte }, accessFlags := 8, code := some k8c1 }
def k8c2 : Code := { maxStack := 5, maxLocals := 6, code := jdk_52_method_16_code, exceptionTable := #[], attributes := #[] }
def k8m2 : Method := { name := "compress", desc := "([CII)[B", sig := { parameters := [(.array .char), .int, .int], returnType := some (.array .byte) }, accessFlags := 9, code := some k8c2 }
def k8c3 : Code := { maxStack := 3, maxLocals := 7, code := jdk_52_method_21_code, exceptionTable := #[], attributes := #[] }
def k8m3 : Method := { name := "compress", desc := "([CI[BII)I", sig := { parameters := [(.array .char), .int, (.array .byte), .int, .int], returnType := some .int }, accessFlags := 9, code := some k8c3 }
/-- java/lang/StringUTF16 -/
def k8 : Class := { plain "java/lang/StringUTF16" (some 0) with
  accessFlags := 48
  interfaces := #[]
  cf := some (fileOf pool8 12 #[.nestMembers #[627, 629, 369]] #[{ accessFlags := 0, nameIndex := 9, descriptorIndex := 10, attributes := #[] }, { accessFlags := 8, nameIndex := 261, descriptorIndex := 262, attributes := #[] }, { accessFlags := 9, nameIndex := 117, descriptorIndex := 122, attributes := #[] }, { accessFlags := 9, nameIndex := 117, descriptorIndex := 118, attributes := #[] }] 48 6 #[] #[{ accessFlags := 26, nameIndex := 61, descriptorIndex := 62, attributes := #[] }, { accessFlags := 26, nameIndex := 65, descriptorIndex := 62, attributes := #[] }, { accessFlags := 24, nameIndex := 430, descriptorIndex := 62, attributes := #[] }, { accessFlags := 4120, nameIndex := 46, descriptorIndex := 47, attributes := #[] }])
  fields := #[{ name := "HI_BYTE_SHIFT", type := .int, accessFlags := 26, slot := 0, constantValue := 0 }, { name := "LO_BYTE_SHIFT", type := .int, accessFlags := 26, slot := 1, constantValue := 0 }, { name := "MAX_LENGTH", type := .int, accessFlags := 24, slot := 2, constantValue := 0 }, { name := "$assertionsDisabled", type := .boolean, accessFlags := 4120, slot := 3, constantValue := 0 }]
  methods := #[k8m0, k8m1, k8m2, k8m3]
  instanceTypes := #[]
  staticTypes := #[.int, .int, .int, .boolean]
  resolved := Array.replicate 635 none
  statics := none }

def pool9 : Array CpInfo := pool [(1, .class_ 2), (0, u "java/lang/Math"), (1, .class_ 6), (1, u "java/lang/Object"), (0, u "<init>"), (0, u "()V"), (89, .class_ 100), (1, u "java/lang/Math$RandomNumberGeneratorHolder"), (71, u "negativeZeroFloatBits"), (0, u "J"), (2, u "negativeZeroDoubleBits"), (21, u "max"), (46, u "$assertionsDisabled"), (0, u "Z"), (88, u "(II)I"), (2, u "twoToTheDoubleScaleDown"), (0, u "D"), (4, u "twoToTheDoubleScaleUp"), (9, u "E"), (3, u "PI"), (2, u "TAU"), (2, u "DEGREES_TO_RADIANS"), (0, u "RADIANS_TO_DEGREES")] 94

def k9m0 : Method := { name := "<init>", desc := "()V", sig := { parameters := [], returnType := none }, accessFlags := 2, code := none }
def k9c1 : Code := { maxStack := 2, maxLocals := 2, code := jdk_29_method_65_code, exceptionTable := #[], attributes := #[] }
def k9m1 : Method := { name := "max", desc := "(II)I", sig := { parameters := [.int, .int], returnType := some .int }, accessFlags := 9, code := some k9c1 }
/-- java/lang/Math -/
def k9 : Class := { plain "java/lang/Math" (some 0) with
  accessFlags := 49
  interfaces := #[]
  cf := some (fileOf pool9 1 #[.nestMembers #[98]] #[{ accessFlags := 2, nameIndex := 7, descriptorIndex := 8, attributes := #[] }, { accessFlags := 9, nameIndex := 198, descriptorIndex := 335, attributes := #[] }] 49 4 #[] #[{ accessFlags := 25, nameIndex := 354, descriptorIndex := 339, attributes := #[] }, { accessFlags := 25, nameIndex := 358, descriptorIndex := 339, attributes := #[] }, { accessFlags := 25, nameIndex := 361, descriptorIndex := 339, attributes := #[] }, { accessFlags := 26, nameIndex := 364, descriptorIndex := 339, attributes := #[] }, { accessFlags := 26, nameIndex := 365, descriptorIndex := 339, attributes := #[] }, { accessFlags := 26, nameIndex := 172, descriptorIndex := 173, attributes := #[] }, { accessFlags := 26, nameIndex := 176, descriptorIndex := 173, attributes := #[] }, { accessFlags := 8, nameIndex := 344, descriptorIndex := 339, attributes := #[] }, { accessFlags := 8, nameIndex := 338, descriptorIndex := 339, attributes := #[] }, { accessFlags := 4120, nameIndex := 245, descriptorIndex := 246, attributes := #[] }])
  fields := #[{ name := "E", type := .double, accessFlags := 25, slot := 0, constantValue := 0 }, { name := "PI", type := .double, accessFlags := 25, slot := 1, constantValue := 0 }, { name := "TAU", type := .double, accessFlags := 25, slot := 2, constantValue := 0 }, { name := "DEGREES_TO_RADIANS", type := .double, accessFlags := 26, slot := 3, constantValue := 0 }, { name := "RADIANS_TO_DEGREES", type := .double, accessFlags := 26, slot := 4, constantValue := 0 }, { name := "negativeZeroFloatBits", type := .long, accessFlags := 26, slot := 5, constantValue := 0 }, { name := "negativeZeroDoubleBits", type := .long, accessFlags := 26, slot := 6, constantValue := 0 }, { name := "twoToTheDoubleScaleUp", type := .double, accessFlags := 8, slot := 7, constantValue := 0 }, { name := "twoToTheDoubleScaleDown", type := .double, accessFlags := 8, slot := 8, constantValue := 0 }, { name := "$assertionsDisabled", type := .boolean, accessFlags := 4120, slot := 9, constantValue := 0 }]
  methods := #[k9m0, k9m1]
  instanceTypes := #[]
  staticTypes := #[.double, .double, .double, .double, .double, .long, .long, .double, .double, .boolean]
  resolved := Array.replicate 460 none
  statics := none }

def pool10 : Array CpInfo := pool [(1, .methodref 2 3), (0, .class_ 4), (0, .nameAndType 5 6), (0, u "java/lang/Object"), (0, u "<init>"), (0, u "()V"), (0, .class_ 8), (0, u "java/lang/Record")] 13

def k10c0 : Code := { maxStack := 1, maxLocals := 1, code := jdk_30_method_1_code, exceptionTable := #[], attributes := #[] }
def k10m0 : Method := { name := "<init>", desc := "()V", sig := { parameters := [], returnType := none }, accessFlags := 4, code := some k10c0 }
/-- java/lang/Record -/
def k10 : Class := { plain "java/lang/Record" (some 0) with
  accessFlags := 1057
  interfaces := #[]
  cf := some (fileOf pool10 7 #[] #[{ accessFlags := 4, nameIndex := 5, descriptorIndex := 6, attributes := #[] }] 1057 2 #[] #[])
  fields := #[]
  methods := #[k10m0]
  instanceTypes := #[]
  staticTypes := #[]
  resolved := Array.replicate 22 none
  statics := none }

def pool11 : Array CpInfo := pool [(1, .methodref 2 3), (0, .class_ 4), (0, .nameAndType 5 6), (0, u "java/lang/Record"), (0, u "<init>"), (0, u "()V"), (7, .fieldref 15 16), (0, .class_ 17), (0, .nameAndType 18 19), (0, u "com/example/answer_by_role/answerbyrole/engine/index/SentencePosition"), (0, u "document"), (0, u "I"), (0, .fieldref 15 21), (0, .nameAndType 22 19), (0, u "paragraph"), (0, .fieldref 15 24), (0, .nameAndType 25 19), (0, u "sentence"), (2, u "ORDER"), (0, u "Ljava/util/Comparator;"), (34, .class_ 65), (0, u "java/lang/Comparable"), (2, u "(III)V")] 50

def k11c0 : Code := { maxStack := 3, maxLocals := 4, code := prog_23_method_1_code, exceptionTable := #[], attributes := #[] }
def k11m0 : Method := { name := "<init>", desc := "(III)V", sig := { parameters := [.int, .int, .int], returnType := none }, accessFlags := 1, code := some k11c0 }
/-- com/example/answer_by_role/answerbyrole/engine/index/SentencePosition -/
def k11 : Class := { plain "com/example/answer_by_role/answerbyrole/engine/index/SentencePosition" (some 10) with
  accessFlags := 49
  interfaces := #[3]
  cf := some (fileOf pool11 15 #[] #[{ accessFlags := 1, nameIndex := 5, descriptorIndex := 68, attributes := #[] }] 49 2 #[64] #[{ accessFlags := 18, nameIndex := 18, descriptorIndex := 19, attributes := #[] }, { accessFlags := 18, nameIndex := 22, descriptorIndex := 19, attributes := #[] }, { accessFlags := 18, nameIndex := 25, descriptorIndex := 19, attributes := #[] }, { accessFlags := 26, nameIndex := 28, descriptorIndex := 29, attributes := #[] }])
  fields := #[{ name := "document", type := .int, accessFlags := 18, slot := 0, constantValue := 0 }, { name := "paragraph", type := .int, accessFlags := 18, slot := 1, constantValue := 0 }, { name := "sentence", type := .int, accessFlags := 18, slot := 2, constantValue := 0 }, { name := "ORDER", type := (.object "java/util/Comparator"), accessFlags := 26, slot := 0, constantValue := 0 }]
  methods := #[k11m0]
  instanceTypes := #[.int, .int, .int]
  staticTypes := #[(.object "java/util/Comparator")]
  resolved := Array.replicate 119 none
  statics := none }

def pool12 : Array CpInfo := pool [(1, .methodref 2 3), (0, .class_ 4), (0, .nameAndType 5 6), (0, u "java/lang/Record"), (0, u "<init>"), (0, u "()V"), (11, .fieldref 19 20), (0, .class_ 21), (0, .nameAndType 22 23), (0, u "com/example/answer_by_role/answerbyrole/analysis/label/Argument"), (0, u "predicate"), (0, u "I"), (0, .fieldref 19 25), (0, .nameAndType 26 23), (0, u "head"), (0, .fieldref 19 28), (0, .nameAndType 29 30), (0, u "label"), (0, u "Ljava/lang/String;"), (12, u "(IILjava/lang/String;)V"), (6, u "()Ljava/lang/String;")] 32

def k12c0 : Code := { maxStack := 4, maxLocals := 4, code := prog_4_method_1_code, exceptionTable := #[], attributes := #[] }
def k12m0 : Method := { name := "<init>", desc := "(IILjava/lang/String;)V", sig := { parameters := [.int, .int, (.object "java/lang/String")], returnType := none }, accessFlags := 1, code := some k12c0 }
def k12c1 : Code := { maxStack := 1, maxLocals := 1, code := prog_4_method_7_code, exceptionTable := #[], attributes := #[] }
def k12m1 : Method := { name := "label", desc := "()Ljava/lang/String;", sig := { parameters := [], returnType := some (.object "java/lang/String") }, accessFlags := 1, code := some k12c1 }
/-- com/example/answer_by_role/answerbyrole/analysis/label/Argument -/
def k12 : Class := { plain "com/example/answer_by_role/answerbyrole/analysis/label/Argument" (some 10) with
  accessFlags := 49
  interfaces := #[]
  cf := some (fileOf pool12 19 #[] #[{ accessFlags := 1, nameIndex := 5, descriptorIndex := 43, attributes := #[] }, { accessFlags := 1, nameIndex := 29, descriptorIndex := 50, attributes := #[] }] 49 2 #[] #[{ accessFlags := 18, nameIndex := 22, descriptorIndex := 23, attributes := #[] }, { accessFlags := 18, nameIndex := 26, descriptorIndex := 23, attributes := #[] }, { accessFlags := 18, nameIndex := 29, descriptorIndex := 30, attributes := #[] }])
  fields := #[{ name := "predicate", type := .int, accessFlags := 18, slot := 0, constantValue := 0 }, { name := "head", type := .int, accessFlags := 18, slot := 1, constantValue := 0 }, { name := "label", type := (.object "java/lang/String"), accessFlags := 18, slot := 2, constantValue := 0 }]
  methods := #[k12m0, k12m1]
  instanceTypes := #[.int, .int, (.object "java/lang/String")]
  staticTypes := #[]
  resolved := Array.replicate 83 none
  statics := none }

def pool13 : Array CpInfo := pool [(1, .methodref 2 3), (0, .class_ 4), (0, .nameAndType 5 6), (0, u "java/lang/Record"), (0, u "<init>"), (0, u "()V"), (15, .fieldref 23 24), (0, .class_ 25), (0, .nameAndType 26 27), (0, u "com/example/answer_by_role/answerbyrole/engine/extraction/Candidate"), (0, u "position"), (0, u "Lcom/example/answer_by_role/answerbyrole/engine/index/SentencePosition;"), (0, .fieldref 23 29), (0, .nameAndType 30 31), (0, u "first"), (0, u "I"), (0, .fieldref 23 33), (0, .nameAndType 34 31), (0, u "last"), (0, .fieldref 23 36), (0, .nameAndType 37 38), (0, u "text"), (0, u "Ljava/lang/String;"), (0, .fieldref 23 40), (0, .nameAndType 41 42), (0, u "argument"), (0, u "Lcom/example/answer_by_role/answerbyrole/analysis/label/Argument;"), (0, .fieldref 23 44), (0, .nameAndType 45 46), (0, u "fills"), (0, u "Z"), (0, .fieldref 23 48), (0, .nameAndType 49 38), (0, u "entityType"), (0, .methodref 51 52), (0, .class_ 53), (0, .nameAndType 54 55), (0, u "com/example/answer_by_role/answerbyrole/analysis/label/Argument"), (0, u "label"), (0, u "()Ljava/lang/String;"), (16, u "(Lcom/example/answer_by_role/answerbyrole/engine/index/SentencePosition;IILjava/lang/String;Lcom/example/answer_by_role/answerbyrole/analysis/label/Argument;ZLjava/lang/String;)V")] 57

def k13c0 : Code := { maxStack := 4, maxLocals := 8, code := prog_19_method_1_code, exceptionTable := #[], attributes := #[] }
def k13m0 : Method := { name := "<init>", desc := "(Lcom/example/answer_by_role/answerbyrole/engine/index/SentencePosition;IILjava/lang/String;Lcom/example/answer_by_role/answerbyrole/analysis/label/Argument;ZLjava/lang/String;)V", sig := { parameters := [(.object "com/example/answer_by_role/answerbyrole/engine/index/SentencePosition"), .int, .int, (.object "java/lang/String"), (.object "com/example/answer_by_role/answerbyrole/analysis/label/Argument"), .boolean, (.object "java/lang/String")], returnType := none }, accessFlags := 1, code := some k13c0 }
def k13c1 : Code := { maxStack := 1, maxLocals := 2, code := prog_19_method_2_code, exceptionTable := #[], attributes := #[] }
def k13m1 : Method := { name := "label", desc := "()Ljava/lang/String;", sig := { parameters := [], returnType := some (.object "java/lang/String") }, accessFlags := 1, code := some k13c1 }
/-- com/example/answer_by_role/answerbyrole/engine/extraction/Candidate -/
def k13 : Class := { plain "com/example/answer_by_role/answerbyrole/engine/extraction/Candidate" (some 10) with
  accessFlags := 49
  interfaces := #[]
  cf := some (fileOf pool13 23 #[] #[{ accessFlags := 1, nameIndex := 5, descriptorIndex := 72, attributes := #[] }, { accessFlags := 1, nameIndex := 54, descriptorIndex := 55, attributes := #[] }] 49 2 #[] #[{ accessFlags := 18, nameIndex := 26, descriptorIndex := 27, attributes := #[] }, { accessFlags := 18, nameIndex := 30, descriptorIndex := 31, attributes := #[] }, { accessFlags := 18, nameIndex := 34, descriptorIndex := 31, attributes := #[] }, { accessFlags := 18, nameIndex := 37, descriptorIndex := 38, attributes := #[] }, { accessFlags := 18, nameIndex := 41, descriptorIndex := 42, attributes := #[] }, { accessFlags := 18, nameIndex := 45, descriptorIndex := 46, attributes := #[] }, { accessFlags := 18, nameIndex := 49, descriptorIndex := 38, attributes := #[] }])
  fields := #[{ name := "position", type := (.object "com/example/answer_by_role/answerbyrole/engine/index/SentencePosition"), accessFlags := 18, slot := 0, constantValue := 0 }, { name := "first", type := .int, accessFlags := 18, slot := 1, constantValue := 0 }, { name := "last", type := .int, accessFlags := 18, slot := 2, constantValue := 0 }, { name := "text", type := (.object "java/lang/String"), accessFlags := 18, slot := 3, constantValue := 0 }, { name := "argument", type := (.object "com/example/answer_by_role/answerbyrole/analysis/label/Argument"), accessFlags := 18, slot := 4, constantValue := 0 }, { name := "fills", type := .boolean, accessFlags := 18, slot := 5, constantValue := 0 }, { name := "entityType", type := (.object "java/lang/String"), accessFlags := 18, slot := 6, constantValue := 0 }]
  methods := #[k13m0, k13m1]
  instanceTypes := #[(.object "com/example/answer_by_role/answerbyrole/engine/index/SentencePosition"), .int, .int, (.object "java/lang/String"), (.object "com/example/answer_by_role/answerbyrole/analysis/label/Argument"), .boolean, (.object "java/lang/String")]
  staticTypes := #[]
  resolved := Array.replicate 130 none
  statics := none }

def pool14 : Array CpInfo := pool [(4, .class_ 6), (1, u "java/lang/Object"), (0, u "<init>"), (0, u "()V"), (5, .class_ 16), (1, u "java/lang/StringLatin1"), (104, u "$assertionsDisabled"), (0, u "Z"), (98, .class_ 223), (1, u "java/lang/StringLatin1$LinesSpliterator"), (166, .class_ 391), (0, u "java/lang/StringLatin1$CharsSpliterator")] 3

def k14m0 : Method := { name := "<init>", desc := "()V", sig := { parameters := [], returnType := none }, accessFlags := 0, code := none }
/-- java/lang/StringLatin1 -/
def k14 : Class := { plain "java/lang/StringLatin1" (some 0) with
  accessFlags := 48
  interfaces := #[]
  cf := some (fileOf pool14 14 #[.nestMembers #[390, 221]] #[{ accessFlags := 0, nameIndex := 7, descriptorIndex := 8, attributes := #[] }] 48 4 #[] #[{ accessFlags := 4120, nameIndex := 121, descriptorIndex := 122, attributes := #[] }])
  fields := #[{ name := "$assertionsDisabled", type := .boolean, accessFlags := 4120, slot := 0, constantValue := 0 }]
  methods := #[k14m0]
  instanceTypes := #[]
  staticTypes := #[.boolean]
  resolved := Array.replicate 395 none
  statics := none }

def pool15 : Array CpInfo := pool [(2, .class_ 4), (1, u "java/lang/Object"), (0, u "<init>"), (0, u "()V"), (17, .class_ 26), (1, u "jdk/internal/util/Preconditions"), (28, .class_ 56), (0, u "jdk/internal/util/Preconditions$4"), (57, .class_ 115), (0, u "jdk/internal/util/Preconditions$1"), (7, u "SIOOBE_FORMATTER"), (0, u "Ljava/util/function/BiFunction;"), (0, .class_ 126), (0, u "jdk/internal/util/Preconditions$2"), (3, u "AIOOBE_FORMATTER"), (0, .class_ 132), (0, u "jdk/internal/util/Preconditions$3"), (3, u "IOOBE_FORMATTER")] 57

def k15m0 : Method := { name := "<init>", desc := "()V", sig := { parameters := [], returnType := none }, accessFlags := 1, code := none }
/-- jdk/internal/util/Preconditions -/
def k15 : Class := { plain "jdk/internal/util/Preconditions" (some 0) with
  accessFlags := 33
  interfaces := #[]
  cf := some (fileOf pool15 24 #[.nestMembers #[55, 131, 125, 114]] #[{ accessFlags := 1, nameIndex := 5, descriptorIndex := 6, attributes := #[] }] 33 2 #[] #[{ accessFlags := 25, nameIndex := 123, descriptorIndex := 124, attributes := #[] }, { accessFlags := 25, nameIndex := 130, descriptorIndex := 124, attributes := #[] }, { accessFlags := 25, nameIndex := 136, descriptorIndex := 124, attributes := #[] }])
  fields := #[{ name := "SIOOBE_FORMATTER", type := (.object "java/util/function/BiFunction"), accessFlags := 25, slot := 0, constantValue := 0 }, { name := "AIOOBE_FORMATTER", type := (.object "java/util/function/BiFunction"), accessFlags := 25, slot := 1, constantValue := 0 }, { name := "IOOBE_FORMATTER", type := (.object "java/util/function/BiFunction"), accessFlags := 25, slot := 2, constantValue := 0 }]
  methods := #[k15m0]
  instanceTypes := #[]
  staticTypes := #[(.object "java/util/function/BiFunction"), (.object "java/util/function/BiFunction"), (.object "java/util/function/BiFunction")]
  resolved := Array.replicate 194 none
  statics := some 1 }

def pool16 : Array CpInfo := pool [(9, u "<init>"), (6, .class_ 18), (1, u "java/lang/Object"), (0, u "()V"), (1, .class_ 23), (1, u "jdk/internal/util/ArraysSupport"), (0, u "LOG2_ARRAY_LONG_INDEX_SCALE"), (0, u "I"), (2, u "U"), (0, u "Ljdk/internal/misc/Unsafe;"), (8, u "BIG_ENDIAN"), (0, u "Z"), (8, u "LOG2_BYTE_BIT_SIZE"), (4, u "LOG2_ARRAY_INT_INDEX_SCALE"), (54, u "JLA"), (0, u "Ljdk/internal/access/JavaLangAccess;"), (11, u "LOG2_ARRAY_BOOLEAN_INDEX_SCALE"), (9, u "LOG2_ARRAY_BYTE_INDEX_SCALE"), (5, u "LOG2_ARRAY_CHAR_INDEX_SCALE"), (5, u "LOG2_ARRAY_SHORT_INDEX_SCALE"), (18, u "LOG2_ARRAY_FLOAT_INDEX_SCALE"), (24, u "LOG2_ARRAY_DOUBLE_INDEX_SCALE"), (89, u "T_BOOLEAN"), (2, u "T_CHAR"), (1, u "T_FLOAT"), (1, u "T_DOUBLE"), (1, u "T_BYTE"), (1, u "T_SHORT"), (1, u "T_INT"), (1, u "T_LONG"), (1, u "SOFT_MAX_ARRAY_LENGTH")] 83

def k16m0 : Method := { name := "<init>", desc := "()V", sig := { parameters := [], returnType := none }, accessFlags := 2, code := none }
/-- jdk/internal/util/ArraysSupport -/
def k16 : Class := { plain "jdk/internal/util/ArraysSupport" (some 0) with
  accessFlags := 33
  interfaces := #[]
  cf := some (fileOf pool16 21 #[] #[{ accessFlags := 2, nameIndex := 9, descriptorIndex := 19, attributes := #[] }] 33 16 #[] #[{ accessFlags := 24, nameIndex := 28, descriptorIndex := 29, attributes := #[] }, { accessFlags := 26, nameIndex := 38, descriptorIndex := 39, attributes := #[] }, { accessFlags := 25, nameIndex := 121, descriptorIndex := 25, attributes := #[] }, { accessFlags := 25, nameIndex := 131, descriptorIndex := 25, attributes := #[] }, { accessFlags := 25, nameIndex := 137, descriptorIndex := 25, attributes := #[] }, { accessFlags := 25, nameIndex := 143, descriptorIndex := 25, attributes := #[] }, { accessFlags := 25, nameIndex := 53, descriptorIndex := 25, attributes := #[] }, { accessFlags := 25, nameIndex := 24, descriptorIndex := 25, attributes := #[] }, { accessFlags := 25, nameIndex := 162, descriptorIndex := 25, attributes := #[] }, { accessFlags := 25, nameIndex := 187, descriptorIndex := 25, attributes := #[] }, { accessFlags := 26, nameIndex := 48, descriptorIndex := 25, attributes := #[] }, { accessFlags := 25, nameIndex := 277, descriptorIndex := 25, attributes := #[] }, { accessFlags := 25, nameIndex := 280, descriptorIndex := 25, attributes := #[] }, { accessFlags := 25, nameIndex := 282, descriptorIndex := 25, attributes := #[] }, { accessFlags := 25, nameIndex := 284, descriptorIndex := 25, attributes := #[] }, { accessFlags := 25, nameIndex := 286, descriptorIndex := 25, attributes := #[] }, { accessFlags := 25, nameIndex := 288, descriptorIndex := 25, attributes := #[] }, { accessFlags := 25, nameIndex := 290, descriptorIndex := 25, attributes := #[] }, { accessFlags := 25, nameIndex := 292, descriptorIndex := 25, attributes := #[] }, { accessFlags := 26, nameIndex := 108, descriptorIndex := 109, attributes := #[] }, { accessFlags := 25, nameIndex := 294, descriptorIndex := 25, attributes := #[] }])
  fields := #[{ name := "U", type := (.object "jdk/internal/misc/Unsafe"), accessFlags := 24, slot := 0, constantValue := 0 }, { name := "BIG_ENDIAN", type := .boolean, accessFlags := 26, slot := 1, constantValue := 0 }, { name := "LOG2_ARRAY_BOOLEAN_INDEX_SCALE", type := .int, accessFlags := 25, slot := 2, constantValue := 0 }, { name := "LOG2_ARRAY_BYTE_INDEX_SCALE", type := .int, accessFlags := 25, slot := 3, constantValue := 0 }, { name := "LOG2_ARRAY_CHAR_INDEX_SCALE", type := .int, accessFlags := 25, slot := 4, constantValue := 0 }, { name := "LOG2_ARRAY_SHORT_INDEX_SCALE", type := .int, accessFlags := 25, slot := 5, constantValue := 0 }, { name := "LOG2_ARRAY_INT_INDEX_SCALE", type := .int, accessFlags := 25, slot := 6, constantValue := 0 }, { name := "LOG2_ARRAY_LONG_INDEX_SCALE", type := .int, accessFlags := 25, slot := 7, constantValue := 0 }, { name := "LOG2_ARRAY_FLOAT_INDEX_SCALE", type := .int, accessFlags := 25, slot := 8, constantValue := 0 }, { name := "LOG2_ARRAY_DOUBLE_INDEX_SCALE", type := .int, accessFlags := 25, slot := 9, constantValue := 0 }, { name := "LOG2_BYTE_BIT_SIZE", type := .int, accessFlags := 26, slot := 10, constantValue := 0 }, { name := "T_BOOLEAN", type := .int, accessFlags := 25, slot := 11, constantValue := 0 }, { name := "T_CHAR", type := .int, accessFlags := 25, slot := 12, constantValue := 0 }, { name := "T_FLOAT", type := .int, accessFlags := 25, slot := 13, constantValue := 0 }, { name := "T_DOUBLE", type := .int, accessFlags := 25, slot := 14, constantValue := 0 }, { name := "T_BYTE", type := .int, accessFlags := 25, slot := 15, constantValue := 0 }, { name := "T_SHORT", type := .int, accessFlags := 25, slot := 16, constantValue := 0 }, { name := "T_INT", type := .int, accessFlags := 25, slot := 17, constantValue := 0 }, { name := "T_LONG", type := .int, accessFlags := 25, slot := 18, constantValue := 0 }, { name := "JLA", type := (.object "jdk/internal/access/JavaLangAccess"), accessFlags := 26, slot := 19, constantValue := 0 }, { name := "SOFT_MAX_ARRAY_LENGTH", type := .int, accessFlags := 25, slot := 20, constantValue := 0 }]
  methods := #[k16m0]
  instanceTypes := #[]
  staticTypes := #[(.object "jdk/internal/misc/Unsafe"), .boolean, .int, .int, .int, .int, .int, .int, .int, .int, .int, .int, .int, .int, .int, .int, .int, .int, .int, (.object "jdk/internal/access/JavaLangAccess"), .int]
  resolved := Array.replicate 378 none
  statics := none }

def pool17 : Array CpInfo := pool [(1, u "java/lang/Cloneable"), (0, .class_ 1), (0, u "java/lang/Object"), (0, .class_ 3)] 3

/-- java/lang/Cloneable -/
def k17 : Class := { plain "java/lang/Cloneable" (some 0) with
  accessFlags := 1537
  interfaces := #[]
  cf := some (fileOf pool17 2 #[] #[] 1537 4 #[] #[])
  fields := #[]
  methods := #[]
  instanceTypes := #[]
  staticTypes := #[]
  resolved := Array.replicate 8 none
  statics := none }

/-- the primitive byte -/
def k18 : Class := { plain "byte" none with kind := .primitive 'B', accessFlags := 0x411 }
/-- [B -/
def k19 : Class := { plain "[B" (some 0) with kind := .array 18 .byte, interfaces := #[17, 2], accessFlags := 1041 }

/-- the primitive char -/
def k20 : Class := { plain "char" none with kind := .primitive 'C', accessFlags := 0x411 }
/-- [C -/
def k21 : Class := { plain "[C" (some 0) with kind := .array 20 .char, interfaces := #[17, 2], accessFlags := 1041 }

/-- the primitive int -/
def k22 : Class := { plain "int" none with kind := .primitive 'I', accessFlags := 0x411 }
/-- [I -/
def k23 : Class := { plain "[I" (some 0) with kind := .array 22 .int, interfaces := #[17, 2], accessFlags := 1041 }

def heap : Heap := #[{ cls := 7, slots := #[.long 0, .int 1, .null, .int 0, .null, .int 0, .int 0], vm := .statics 7 },
  { cls := 15, slots := #[.null, .null, .null], vm := .statics 15 }]
def classes : Array Class := #[k0, k1, k2, k3, k4, k5, k6, k7, k8, k9, k10, k11, k12, k13, k14, k15, k16, k17, k18, k19, k20, k21, k22, k23]
def interned : List (Array UInt16 × Addr) := []
def slotsUsed : Nat := 10
def theMethod : MethodId := ⟨1, 1⟩
def args0 : Array Value := #[.int 5, .int 6, .int 7, .int 8, .int 9, .int 10]
def aboutOver (below : List Frame) : State where
  vm := { classes := classes, interned := interned.toArray }
  heap := heap
  slotsUsed := slotsUsed
  threads := #[{ frames := .invoking theMethod args0 :: below }]
def below0 : List Frame := [.native { method := ⟨0, 0⟩, args := #[] }]
def about1 : State := aboutOver below0
def p0 : Program := .bare "" "" ""
def e0 : Env := launch0.env 0 0 0
theorem w_frames : about1.frames = Frame.invoking theMethod args0 :: below0 := rfl
set_option maxRecDepth 65536 in
theorem w_args : argsFit about1.vm theMethod args0 = true := by decide +kernel
set_option maxRecDepth 65536 in
theorem w_heap : heapFits about1 = true := by decide +kernel
set_option maxRecDepth 65536 in
theorem w_runnable : about1.curStatus? = some .runnable := by decide +kernel
set_option maxRecDepth 65536 in
theorem w_alone : about1.alone = true := by decide +kernel
set_option maxRecDepth 65536 in
theorem w_named : about1.methodNamed? x = some theMethod := by decide +kernel
set_option maxRecDepth 65536 in
theorem w_hears : about1.hears theMethod below0 = true := by decide +kernel
set_option maxRecDepth 65536 in
theorem w_ripe : about1.ripe theMethod args0 below0 = true := by decide +kernel
theorem w_running : about1.status = .running := rfl
set_option maxRecDepth 65536 in
theorem w_room : about1.hasRoom e0.platform room_1 = true :=
  launch0.hasRoom_least _ room_1 (by decide +kernel) (by decide +kernel) (by decide +kernel) (by decide +kernel) (by decide +kernel) (by decide +kernel)
theorem allAtoms_all (ts : List Jvm.Cond) (a : Array Jvm.Value) (st : Jvm.State) : (allAtoms ts).before a st = ts.all (fun c => c.before a st) := by
  induction ts with
  | nil => rfl
  | cons c t ih =>
    show (Jvm.Cond.and c (allAtoms t)).before a st = _
    rw [Jvm.Cond.before_and, ih, List.all_cons]
def words1 : List Jvm.Cond := Jvm.Cond.code x code maxLocals ret :: tables_1
/-- a 'code' word, met by the world's own term for the bytes: nothing is compared byte by byte -/
theorem code_word {y : MethodName} {bytes : ByteArray} {mx : Nat} {rt : Option FieldType} {a : Array Value} {s : State} {m : MethodId} {meth : Method} {c : Code} (h1 : s.methodNamed? y = some m) (h2 : s.vm.method? m = some meth) (h3 : meth.code = some c) (h4 : c.code = bytes)
    (h5 : (c.maxLocals == mx && c.exceptionTable.isEmpty && decide (c.maxStack ≤ mostOperands) && decide (meth.sig.returnType = rt) && !meth.locks && decide (parseMethodDescriptor y.desc = some meth.sig)) = true) : (Jvm.Cond.code y bytes mx rt).before a s = true := by
  simp only [Bool.and_eq_true, beq_iff_eq, Bool.not_eq_true', decide_eq_true_eq] at h5
  obtain ⟨⟨⟨⟨⟨g1, g2⟩, g3⟩, g4⟩, g5⟩, g6⟩ := h5
  simp [Cond.before, Cond.holds, Cond.value, h1, h2, h3, h4, g1, g2, g3, g4, g5, g6]
def isCode : Jvm.Cond → Bool
  | .code _ _ _ _ => true
  | _ => false
theorem all_split {L : List Jvm.Cond} {P : Jvm.Cond → Bool} (h1 : L.all (fun c => isCode c || P c) = true) (h2 : ∀ c ∈ L.filter isCode, P c = true) : L.all P = true := by
  refine List.all_eq_true.mpr fun c hc => ?_
  have h := List.all_eq_true.mp h1 c hc
  rcases Bool.eq_false_or_eq_true (isCode c) with hi | hi
  · exact h2 c (List.mem_filter.mpr ⟨hc, hi⟩)
  · simpa [hi] using h
set_option maxRecDepth 65536 in
theorem w_c0 : (Jvm.Cond.code x code maxLocals ret).before args0 about1 = true := code_word (m := ⟨1, 1⟩) (meth := k1m1) (c := k1c1) (by decide +kernel) rfl rfl rfl (by decide +kernel)
set_option maxRecDepth 65536 in
theorem w_c1 : (Jvm.Cond.code ({ cls := "java/lang/String", name := "<init>", desc := "([C)V" } : Jvm.MethodName) jdk_42_method_3_code (2 : Nat) (Option.none : Option Jvm.ClassFile.FieldType)).before args0 about1 = true := code_word (m := ⟨7, 1⟩) (meth := k7m1) (c := k7c1) (by decide +kernel) rfl rfl rfl (by decide +kernel)
set_option maxRecDepth 65536 in
theorem w_c2 : (Jvm.Cond.code ({ cls := "java/lang/String", name := "<init>", desc := "([CIILjava/lang/Void;)V" } : Jvm.MethodName) jdk_42_method_149_code (6 : Nat) (Option.none : Option Jvm.ClassFile.FieldType)).before args0 about1 = true := code_word (m := ⟨7, 4⟩) (meth := k7m4) (c := k7c4) (by decide +kernel) rfl rfl rfl (by decide +kernel)
set_option maxRecDepth 65536 in
theorem w_c3 : (Jvm.Cond.code ({ cls := "java/lang/Object", name := "<init>", desc := "()V" } : Jvm.MethodName) object_method_1_code (1 : Nat) (Option.none : Option Jvm.ClassFile.FieldType)).before args0 about1 = true := code_word (m := ⟨0, 0⟩) (meth := k0m0) (c := k0c0) (by decide +kernel) rfl rfl rfl (by decide +kernel)
set_option maxRecDepth 65536 in
theorem w_c4 : (Jvm.Cond.code ({ cls := "java/lang/StringUTF16", name := "compress", desc := "([CII)[B" } : Jvm.MethodName) jdk_52_method_16_code (6 : Nat) (Option.some (Jvm.ClassFile.FieldType.array Jvm.ClassFile.FieldType.byte))).before args0 about1 = true := code_word (m := ⟨8, 2⟩) (meth := k8m2) (c := k8c2) (by decide +kernel) rfl rfl rfl (by decide +kernel)
set_option maxRecDepth 65536 in
theorem w_c5 : (Jvm.Cond.code ({ cls := "java/lang/StringUTF16", name := "compress", desc := "([CI[BII)I" } : Jvm.MethodName) jdk_52_method_21_code (7 : Nat) (Option.some Jvm.ClassFile.FieldType.int)).before args0 about1 = true := code_word (m := ⟨8, 3⟩) (meth := k8m3) (c := k8c3) (by decide +kernel) rfl rfl rfl (by decide +kernel)
set_option maxRecDepth 65536 in
theorem w_c6 : (Jvm.Cond.code ({ cls := "java/lang/StringUTF16", name := "coderFromArrayLen", desc := "([BI)B" } : Jvm.MethodName) jdk_52_method_15_code (2 : Nat) (Option.some Jvm.ClassFile.FieldType.byte)).before args0 about1 = true := code_word (m := ⟨8, 1⟩) (meth := k8m1) (c := k8c1) (by decide +kernel) rfl rfl rfl (by decide +kernel)
set_option maxRecDepth 65536 in
theorem w_c7 : (Jvm.Cond.code ({ cls := "java/lang/Math", name := "max", desc := "(II)I" } : Jvm.MethodName) jdk_29_method_65_code (2 : Nat) (Option.some Jvm.ClassFile.FieldType.int)).before args0 about1 = true := code_word (m := ⟨9, 1⟩) (meth := k9m1) (c := k9c1) (by decide +kernel) rfl rfl rfl (by decide +kernel)
set_option maxRecDepth 65536 in
theorem w_c8 : (Jvm.Cond.code ({ cls := "com/example/answer_by_role/answerbyrole/engine/index/SentencePosition", name := "<init>", desc := "(III)V" } : Jvm.MethodName) prog_23_method_1_code (4 : Nat) (Option.none : Option Jvm.ClassFile.FieldType)).before args0 about1 = true := code_word (m := ⟨11, 0⟩) (meth := k11m0) (c := k11c0) (by decide +kernel) rfl rfl rfl (by decide +kernel)
set_option maxRecDepth 65536 in
theorem w_c9 : (Jvm.Cond.code ({ cls := "java/lang/Record", name := "<init>", desc := "()V" } : Jvm.MethodName) jdk_30_method_1_code (1 : Nat) (Option.none : Option Jvm.ClassFile.FieldType)).before args0 about1 = true := code_word (m := ⟨10, 0⟩) (meth := k10m0) (c := k10c0) (by decide +kernel) rfl rfl rfl (by decide +kernel)
set_option maxRecDepth 65536 in
theorem w_c10 : (Jvm.Cond.code ({ cls := "com/example/answer_by_role/answerbyrole/analysis/label/Argument", name := "<init>", desc := "(IILjava/lang/String;)V" } : Jvm.MethodName) prog_4_method_1_code (4 : Nat) (Option.none : Option Jvm.ClassFile.FieldType)).before args0 about1 = true := code_word (m := ⟨12, 0⟩) (meth := k12m0) (c := k12c0) (by decide +kernel) rfl rfl rfl (by decide +kernel)
set_option maxRecDepth 65536 in
theorem w_c11 : (Jvm.Cond.code ({ cls := "com/example/answer_by_role/answerbyrole/engine/extraction/Candidate", name := "<init>", desc := "(Lcom/example/answer_by_role/answerbyrole/engine/index/SentencePosition;IILjava/lang/String;Lcom/example/answer_by_role/answerbyrole/analysis/label/Argument;ZLjava/lang/String;)V" } : Jvm.MethodName) prog_19_method_1_code (8 : Nat) (Option.none : Option Jvm.ClassFile.FieldType)).before args0 about1 = true := code_word (m := ⟨13, 0⟩) (meth := k13m0) (c := k13c0) (by decide +kernel) rfl rfl rfl (by decide +kernel)
set_option maxRecDepth 65536 in
theorem w_c12 : (Jvm.Cond.code ({ cls := "com/example/answer_by_role/answerbyrole/engine/extraction/Candidate", name := "label", desc := "()Ljava/lang/String;" } : Jvm.MethodName) prog_19_method_2_code (2 : Nat) (Option.some (Jvm.ClassFile.FieldType.object "java/lang/String"))).before args0 about1 = true := code_word (m := ⟨13, 1⟩) (meth := k13m1) (c := k13c1) (by decide +kernel) rfl rfl rfl (by decide +kernel)
set_option maxRecDepth 65536 in
theorem w_c13 : (Jvm.Cond.code ({ cls := "com/example/answer_by_role/answerbyrole/analysis/label/Argument", name := "label", desc := "()Ljava/lang/String;" } : Jvm.MethodName) prog_4_method_7_code (1 : Nat) (Option.some (Jvm.ClassFile.FieldType.object "java/lang/String"))).before args0 about1 = true := code_word (m := ⟨12, 1⟩) (meth := k12m1) (c := k12c1) (by decide +kernel) rfl rfl rfl (by decide +kernel)
set_option maxRecDepth 65536 in
theorem w_c14 : (Jvm.Cond.code ({ cls := "java/lang/String", name := "length", desc := "()I" } : Jvm.MethodName) jdk_42_method_54_code (1 : Nat) (Option.some Jvm.ClassFile.FieldType.int)).before args0 about1 = true := code_word (m := ⟨7, 2⟩) (meth := k7m2) (c := k7c2) (by decide +kernel) rfl rfl rfl (by decide +kernel)
set_option maxRecDepth 65536 in
theorem w_c15 : (Jvm.Cond.code ({ cls := "java/lang/String", name := "coder", desc := "()B" } : Jvm.MethodName) jdk_42_method_152_code (1 : Nat) (Option.some Jvm.ClassFile.FieldType.byte)).before args0 about1 = true := code_word (m := ⟨7, 5⟩) (meth := k7m5) (c := k7c5) (by decide +kernel) rfl rfl rfl (by decide +kernel)
set_option maxRecDepth 65536 in
theorem w_c16 : (Jvm.Cond.code ({ cls := "java/lang/String", name := "equals", desc := "(Ljava/lang/Object;)Z" } : Jvm.MethodName) jdk_42_method_66_code (3 : Nat) (Option.some Jvm.ClassFile.FieldType.boolean)).before args0 about1 = true := code_word (m := ⟨7, 3⟩) (meth := k7m3) (c := k7c3) (by decide +kernel) rfl rfl rfl (by decide +kernel)
def codes1 : List Jvm.Cond := [Jvm.Cond.code x code maxLocals ret, Jvm.Cond.code ({ cls := "java/lang/String", name := "<init>", desc := "([C)V" } : Jvm.MethodName) jdk_42_method_3_code (2 : Nat) (Option.none : Option Jvm.ClassFile.FieldType), Jvm.Cond.code ({ cls := "java/lang/String", name := "<init>", desc := "([CIILjava/lang/Void;)V" } : Jvm.MethodName) jdk_42_method_149_code (6 : Nat) (Option.none : Option Jvm.ClassFile.FieldType), Jvm.Cond.code ({ cls := "java/lang/Object", name := "<init>", desc := "()V" } : Jvm.MethodName) object_method_1_code (1 : Nat) (Option.none : Option Jvm.ClassFile.FieldType), Jvm.Cond.code ({ cls := "java/lang/StringUTF16", name := "compress", desc := "([CII)[B" } : Jvm.MethodName) jdk_52_method_16_code (6 : Nat) (Option.some (Jvm.ClassFile.FieldType.array Jvm.ClassFile.FieldType.byte)), Jvm.Cond.code ({ cls := "java/lang/StringUTF16", name := "compress", desc := "([CI[BII)I" } : Jvm.MethodName) jdk_52_method_21_code (7 : Nat) (Option.some Jvm.ClassFile.FieldType.int), Jvm.Cond.code ({ cls := "java/lang/StringUTF16", name := "coderFromArrayLen", desc := "([BI)B" } : Jvm.MethodName) jdk_52_method_15_code (2 : Nat) (Option.some Jvm.ClassFile.FieldType.byte), Jvm.Cond.code ({ cls := "java/lang/Math", name := "max", desc := "(II)I" } : Jvm.MethodName) jdk_29_method_65_code (2 : Nat) (Option.some Jvm.ClassFile.FieldType.int), Jvm.Cond.code ({ cls := "com/example/answer_by_role/answerbyrole/engine/index/SentencePosition", name := "<init>", desc := "(III)V" } : Jvm.MethodName) prog_23_method_1_code (4 : Nat) (Option.none : Option Jvm.ClassFile.FieldType), Jvm.Cond.code ({ cls := "java/lang/Record", name := "<init>", desc := "()V" } : Jvm.MethodName) jdk_30_method_1_code (1 : Nat) (Option.none : Option Jvm.ClassFile.FieldType), Jvm.Cond.code ({ cls := "com/example/answer_by_role/answerbyrole/analysis/label/Argument", name := "<init>", desc := "(IILjava/lang/String;)V" } : Jvm.MethodName) prog_4_method_1_code (4 : Nat) (Option.none : Option Jvm.ClassFile.FieldType), Jvm.Cond.code ({ cls := "com/example/answer_by_role/answerbyrole/engine/extraction/Candidate", name := "<init>", desc := "(Lcom/example/answer_by_role/answerbyrole/engine/index/SentencePosition;IILjava/lang/String;Lcom/example/answer_by_role/answerbyrole/analysis/label/Argument;ZLjava/lang/String;)V" } : Jvm.MethodName) prog_19_method_1_code (8 : Nat) (Option.none : Option Jvm.ClassFile.FieldType), Jvm.Cond.code ({ cls := "com/example/answer_by_role/answerbyrole/engine/extraction/Candidate", name := "label", desc := "()Ljava/lang/String;" } : Jvm.MethodName) prog_19_method_2_code (2 : Nat) (Option.some (Jvm.ClassFile.FieldType.object "java/lang/String")), Jvm.Cond.code ({ cls := "com/example/answer_by_role/answerbyrole/analysis/label/Argument", name := "label", desc := "()Ljava/lang/String;" } : Jvm.MethodName) prog_4_method_7_code (1 : Nat) (Option.some (Jvm.ClassFile.FieldType.object "java/lang/String")), Jvm.Cond.code ({ cls := "java/lang/String", name := "length", desc := "()I" } : Jvm.MethodName) jdk_42_method_54_code (1 : Nat) (Option.some Jvm.ClassFile.FieldType.int), Jvm.Cond.code ({ cls := "java/lang/String", name := "coder", desc := "()B" } : Jvm.MethodName) jdk_42_method_152_code (1 : Nat) (Option.some Jvm.ClassFile.FieldType.byte), Jvm.Cond.code ({ cls := "java/lang/String", name := "equals", desc := "(Ljava/lang/Object;)Z" } : Jvm.MethodName) jdk_42_method_66_code (3 : Nat) (Option.some Jvm.ClassFile.FieldType.boolean)]
set_option maxRecDepth 65536 in
theorem codes_eq : words1.filter isCode = codes1 := rfl
theorem w_codes : ∀ c ∈ words1.filter isCode, c.before args0 about1 = true := by
  rw [codes_eq]
  intro c hc
  simp only [codes1, List.mem_cons, List.not_mem_nil, or_false] at hc
  rcases hc with rfl | rfl | rfl | rfl | rfl | rfl | rfl | rfl | rfl | rfl | rfl | rfl | rfl | rfl | rfl | rfl | rfl
  · exact w_c0
  · exact w_c1
  · exact w_c2
  · exact w_c3
  · exact w_c4
  · exact w_c5
  · exact w_c6
  · exact w_c7
  · exact w_c8
  · exact w_c9
  · exact w_c10
  · exact w_c11
  · exact w_c12
  · exact w_c13
  · exact w_c14
  · exact w_c15
  · exact w_c16
set_option maxRecDepth 65536 in
theorem w_t1 : (words1.take 24).all (fun c => isCode c || c.before args0 about1) = true := by decide +kernel
set_option maxRecDepth 65536 in
theorem w_t2 : ((words1.drop 24).take 24).all (fun c => isCode c || c.before args0 about1) = true := by decide +kernel
set_option maxRecDepth 65536 in
theorem w_t3 : (((words1.drop 24).drop 24).take 24).all (fun c => isCode c || c.before args0 about1) = true := by decide +kernel
set_option maxRecDepth 65536 in
theorem w_t4 : ((((words1.drop 24).drop 24).drop 24).take 24).all (fun c => isCode c || c.before args0 about1) = true := by decide +kernel
set_option maxRecDepth 65536 in
theorem w_t5 : ((((words1.drop 24).drop 24).drop 24).drop 24).all (fun c => isCode c || c.before args0 about1) = true := by decide +kernel
theorem w_tables : (allAtoms (Jvm.Cond.code x code maxLocals ret :: tables_1)).before args0 about1 = true := by
  rw [allAtoms_all]
  show words1.all (fun c => c.before args0 about1) = true
  refine all_split ?_ w_codes
  rw [← List.take_append_drop 24 words1, List.all_append, w_t1, ← List.take_append_drop 24 (words1.drop 24), List.all_append, w_t2, ← List.take_append_drop 24 ((words1.drop 24).drop 24), List.all_append, w_t3, ← List.take_append_drop 24 (((words1.drop 24).drop 24).drop 24), List.all_append, w_t4, w_t5]
  rfl
set_option maxRecDepth 65536 in
theorem w_rest : rest_1_c.before args0 about1 = true := by decide +kernel
set_option maxRecDepth 65536 in
theorem w_case : (Jvm.Cond.and given_1 narrow_1).before args0 about1 = true := by decide +kernel
theorem w_applies : (headSpec (Jvm.Cond.code x code maxLocals ret :: tables_1) room_1).applies x e0.platform about1 = true :=
  (Spec.applies_iff w_frames).mpr ⟨w_running, w_runnable, w_alone, w_named, w_hears, w_ripe, w_room, w_tables⟩
theorem atStart : AtStart classFile x code maxLocals ret World_1 tables_1 room_1 Calls_1 rest_1 Pre_1 launch0 p0 e0 about1 theMethod args0 below0 :=
  ⟨lists_1, trivial, launch0.admits_env _ _ _, launch0.least_env, fairChoices_fair.cas, fairChoices_fair.clock, w_frames, w_args, w_heap, w_applies, trivial, w_rest, w_case⟩
end start1
theorem witness_1 : WitnessClaimed_1 := ⟨start1.p0, start1.e0, start1.about1, start1.theMethod, start1.args0, start1.below0, start1.atStart⟩
end Jvm.Pilot.@@N@@
