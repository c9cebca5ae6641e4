import JvmDerived
import JvmDerived.Pilot.@@N@@Statement
import JvmDerived.Pilot.@@N@@Code
set_option linter.unusedVariables false
set_option linter.unusedSimpArgs false
/- laws to paste: Road.backV, Road.lenW, Road.chN, Road.codOf (cut by pick.py; bodies as the Statement names them) -/
namespace Jvm.Pilot.@@N@@
namespace StrChars
open Jvm Sem ClassFile Op Lib Jvm.Stand Jvm.Free.XT Jvm.Free.ALB Jvm.Free.JM Jvm.Free
open Jvm.Lib.Cold (StaticIs)
/-- a char array whose places are chars -/
def Ch (a : Addr) (A : Cell) (U : State) : Prop := Arr .char a A U ∧ Typed .char A
theorem Ch.mv {a : Addr} {A : Cell} {U U' : State} (h : Ch a A U) (hal : U.vm.Alike U'.vm) (hh : U'.heap = U.heap) : Ch a A U' := ⟨h.1.mv hal hh, h.2⟩
theorem Ch.keep {a : Addr} {A : Cell} {U U' : State} (h : Ch a A U) (hal : U.vm.Alike U'.vm) (hk : U'.heap[a]? = some A) : Ch a A U' := ⟨h.1.keep hal hk, h.2⟩
/-- what place i of a char[]'s cell holds -/
def cv (A : Cell) (i : Nat) : Int32 := match A.slots[i]? with | some (.int x) => x | _ => 0
theorem Ch.get {a : Addr} {A : Cell} {U : State} (h : Ch a A U) {i : Nat} (hi : i < A.slots.size) : A.slots[i]? = some (.int (cv A i)) := by
  have e := Array.getElem?_eq_getElem hi
  have f := h.2 i _ e
  unfold cv; rw [e]
  generalize A.slots[i] = v at f
  cases v <;> simp [fits] at f ⊢
/-- the byte that i2b leaves of a char -/
def lo8 (x : Int32) : Int32 := x.toInt8.toInt32
theorem fits_lo8 (y : Int32) : fits .byte (.int (lo8 y)) = true := by
  have h1 := y.toInt8.le_toInt
  have h2 := y.toInt8.toInt_lt
  simp only [lo8, fits, Bool.and_eq_true, decide_eq_true_eq, Int32.le_iff_toInt_le, Int8.toInt_toInt32, show (-128 : Int32).toInt = -128 from by decide, show (127 : Int32).toInt = 127 from by decide]
  omega
/-- A' is A but that each place j of lo .. hi - 1 holds f j -/
def Laid (A A' : Cell) (lo hi : Nat) (f : Nat → Value) : Prop := A'.cls = A.cls ∧ A'.vm = A.vm ∧ A'.slots.size = A.slots.size ∧ ∀ i, A'.slots[i]? = if lo ≤ i ∧ i < hi then some (f i) else A.slots[i]?
theorem Laid.zero (A : Cell) (lo : Nat) (f : Nat → Value) : Laid A A lo (lo + 0) f := ⟨rfl, rfl, rfl, fun i => by rw [if_neg (by omega)]⟩
theorem Laid.step {A Ak : Cell} {lo k : Nat} {f : Nat → Value} {v : Value} (h : Laid A Ak lo k f) (hlo : lo ≤ k) (hk : k < Ak.slots.size) (hv : v = f k) : Laid A (Ak.setSlot k v) lo (k + 1) f := by
  refine ⟨h.1, h.2.1, by simpa [Cell.setSlot] using h.2.2.1, fun i => ?_⟩
  by_cases e : k = i
  · subst e; rw [Cell.slots_setSlot_self v hk, if_pos (by omega), hv]
  · rw [Cell.slots_setSlot_ne v e, h.2.2.2 i]
    by_cases q : lo ≤ i ∧ i < k
    · rw [if_pos q, if_pos (by omega)]
    · rw [if_neg q, if_neg (by omega)]
def U16 : String := "java/lang/StringUTF16"
namespace Cmp5
def yN : MethodName := ⟨"java/lang/StringUTF16", "compress", "([CI[BII)I"⟩
abbrev yB : ByteArray := jdk_52_method_21_code
theorem d0 : decode yB 0 = .ok (.iconst 0, 1) := by decide +kernel
theorem d1 : decode yB 1 = .ok (.istore 5, 2) := by decide +kernel
theorem d3 : decode yB 3 = .ok (.iload 5, 2) := by decide +kernel
theorem d5 : decode yB 5 = .ok (.iload 4, 2) := by decide +kernel
theorem d7 : decode yB 7 = .ok (.if_icmp (.ge) 37, 3) := by decide +kernel
theorem d10 : decode yB 10 = .ok (.aload_n 0, 1) := by decide +kernel
theorem d11 : decode yB 11 = .ok (.iload_n 1, 1) := by decide +kernel
theorem d12 : decode yB 12 = .ok (.caload, 1) := by decide +kernel
theorem d13 : decode yB 13 = .ok (.istore 6, 2) := by decide +kernel
theorem d15 : decode yB 15 = .ok (.iload 6, 2) := by decide +kernel
theorem d17 : decode yB 17 = .ok (.sipush 255, 3) := by decide +kernel
theorem d20 : decode yB 20 = .ok (.if_icmp (.le) 6, 3) := by decide +kernel
theorem d26 : decode yB 26 = .ok (.aload_n 2, 1) := by decide +kernel
theorem d27 : decode yB 27 = .ok (.iload_n 3, 1) := by decide +kernel
theorem d28 : decode yB 28 = .ok (.iload 6, 2) := by decide +kernel
theorem d30 : decode yB 30 = .ok (.i2b, 1) := by decide +kernel
theorem d31 : decode yB 31 = .ok (.bastore, 1) := by decide +kernel
theorem d32 : decode yB 32 = .ok (.iinc 1 1, 3) := by decide +kernel
theorem d35 : decode yB 35 = .ok (.iinc 3 1, 3) := by decide +kernel
theorem d38 : decode yB 38 = .ok (.iinc 5 1, 3) := by decide +kernel
theorem d41 : decode yB 41 = .ok (.goto (-38), 3) := by decide +kernel
theorem d44 : decode yB 44 = .ok (.iload 4, 2) := by decide +kernel
theorem d46 : decode yB 46 = .ok (.ireturn, 1) := by decide +kernel
def site : List Cond := []
def tab : Cond := tabOf yN yB 7 (some .int) site
def P (b : Addr) (A : Cell) (d : Addr) (B : Cell) (o q len : Nat) (args : Array Value) (s : State) : Prop := args = #[.ref b, .int (Int32.ofNat o), .ref d, .int (Int32.ofNat q), .int (Int32.ofNat len)] ∧ Ch b A s ∧ Arr .byte d B s ∧ b ≠ d ∧ o + len ≤ A.slots.size ∧ q + len ≤ B.slots.size ∧ ∀ i, i < len → ¬ 255 < cv A (o + i)
def E (b : Addr) (A : Cell) (d : Addr) (B : Cell) (o q len : Nat) (r : Option Value) (s u : State) : Prop := r = some (.int (Int32.ofNat len)) ∧ ∃ B', Put d B' s u ∧ Laid B B' q (q + len) (fun j => Value.int (lo8 (cv A (o + (j - q)))))
/-- no char of the range above 255: len; the places written hold each char's low byte -/
theorem law (l : Launch) (b : Addr) (A : Cell) (d : Addr) (B : Cell) (o q len : Nat) : Law l yN 5 5 0 0 yB 7 (some .int) site (P b A d B o q len) (E b A d B o q len) (copyLocs d q len) 0 0 := by
  refine Law.of_walk (plainFor_of_name (by decide +kernel)) (by decide +kernel) (by decide +kernel) (by decide) (fun _ _ h => by rw [h.1]; rfl) (fun _ U U' hal hh h => ⟨h.1, h.2.1.mv hal hh, h.2.2.1.mv hal hh, h.2.2.2⟩) (fun r U U' V V' h1 hal h2 h => ⟨h.1, h.2.elim fun B' q => ⟨B', q.1.mv h1 h2, q.2⟩⟩) ?_
  intro p e s m args below meth c s₁ X0 hexec hbytes hml hret hlk hnm hown hh0 W hP
  obtain ⟨rfl, hA, hB, hne, l1, l2, hp⟩ := hP
  have c1 : Steps p.tables e below (s₁.setTop (entryFrame m #[.ref b, .int (Int32.ofNat o), .ref d, .int (Int32.ofNat q), .int (Int32.ofNat len)] 7)) (s₁.setTop (mkF m 0 #[.val (.ref b), .val (.int (Int32.ofNat o)), .val (.ref d), .val (.int (Int32.ofNat q)), .val (.int (Int32.ofNat len)), .unset, .unset] [])) := entry rfl
  have hA0 := hA.1.mv X0.warmed.alike hh0
  have hB0 := hB.mv X0.warmed.alike hh0
  have a31 := hA.1.2.2.2
  have c2 : Steps p.tables e below (s₁.setTop (entryFrame m #[.ref b, .int (Int32.ofNat o), .ref d, .int (Int32.ofNat q), .int (Int32.ofNat len)] 7)) (s₁.setTop (mkF m 3 #[.val (.ref b), .val (.int (Int32.ofNat o)), .val (.ref d), .val (.int (Int32.ofNat q)), .val (.int (Int32.ofNat len)), .val (.int 0), .unset] [])) := c1.trans (by
    refine iconstV X0.here hexec rfl 0 (hb hbytes d0) (by decide) ?_
    refine XS.istore X0.here hexec rfl (hb hbytes d1) rfl rfl ?_
    exact Steps.refl _)
  have loop : ∀ (r i : Nat), i + r = len → ∀ (z : Slot), (z = .unset ∨ ∃ w, z = .val w ∧ w.category = 1) → ∀ (Tl : State) (Bk : Cell), Stand p l e { frames := 0, locals := 0, cells := 0, slots := 0 } s m #[.ref b, .int (Int32.ofNat o), .ref d, .int (Int32.ofNat q), .int (Int32.ofNat len)] below meth c Tl ([] ++ copyLocs d q i) 0 0 → Put d Bk s₁ Tl → Laid B Bk q (q + i) (fun j => Value.int (lo8 (cv A (o + (j - q))))) →
      Steps p.tables e below (s₁.setTop (entryFrame m #[.ref b, .int (Int32.ofNat o), .ref d, .int (Int32.ofNat q), .int (Int32.ofNat len)] 7)) (Tl.setTop (mkF m 3 #[.val (.ref b), .val (.int (Int32.ofNat (o + i))), .val (.ref d), .val (.int (Int32.ofNat (q + i))), .val (.int (Int32.ofNat len)), .val (.int (Int32.ofNat i)), z] [])) → ∃ (T' : State) (B' : Cell) (z' : Slot), Stand p l e { frames := 0, locals := 0, cells := 0, slots := 0 } s m #[.ref b, .int (Int32.ofNat o), .ref d, .int (Int32.ofNat q), .int (Int32.ofNat len)] below meth c T' ([] ++ copyLocs d q len) 0 0 ∧ Put d B' s₁ T' ∧ Laid B B' q (q + len) (fun j => Value.int (lo8 (cv A (o + (j - q))))) ∧
      Steps p.tables e below (s₁.setTop (entryFrame m #[.ref b, .int (Int32.ofNat o), .ref d, .int (Int32.ofNat q), .int (Int32.ofNat len)] 7)) (T'.setTop (mkF m 3 #[.val (.ref b), .val (.int (Int32.ofNat (o + len))), .val (.ref d), .val (.int (Int32.ofNat (q + len))), .val (.int (Int32.ofNat len)), .val (.int (Int32.ofNat len)), z'] [])) := by
    intro r
    induction r with
    | zero =>
      intro i hi z hz Tl Bk Xl pl fl cl
      have hil : i = len := by omega
      rw [hil] at Xl fl cl
      exact ⟨Tl, Bk, z, Xl, pl, fl, cl⟩
    | succ r ih =>
      intro i hi z hz Tl Bk Xl pl fl cl
      have all := X0.warmed.alike.symm.trans Xl.warmed.alike
      have hAl := hA0.keep all (pl.other hne hA0.1)
      have hBk := hB0.like all pl.1 fl.1 fl.2.1 fl.2.2.1
      have hlt : q + i < Bk.slots.size := by rw [fl.2.2.1]; omega
      have c3 : Steps p.tables e below (s₁.setTop (entryFrame m #[.ref b, .int (Int32.ofNat o), .ref d, .int (Int32.ofNat q), .int (Int32.ofNat len)] 7)) (Tl.setTop (mkF m 12 #[.val (.ref b), .val (.int (Int32.ofNat (o + i))), .val (.ref d), .val (.int (Int32.ofNat (q + i))), .val (.int (Int32.ofNat len)), .val (.int (Int32.ofNat i)), z] [.int (Int32.ofNat (o + i)), .ref b])) := cl.trans (by
        refine XS.iload Xl.here hexec rfl (hb hbytes d3) rfl ?_
        refine XS.iload Xl.here hexec rfl (hb hbytes d5) rfl ?_
        refine XS.icmpNo Xl.here hexec rfl (hb hbytes d7) rfl (ii_ge_f (lt32 (by omega) (by omega))) ?_
        refine XS.aloadN Xl.here hexec rfl (hb hbytes d10) rfl rfl ?_
        refine XS.iloadN Xl.here hexec rfl (hb hbytes d11) rfl ?_
        exact Steps.refl _)
      have c4 : Steps p.tables e below (s₁.setTop (entryFrame m #[.ref b, .int (Int32.ofNat o), .ref d, .int (Int32.ofNat q), .int (Int32.ofNat len)] 7)) (Tl.setTop (mkF m 13 #[.val (.ref b), .val (.int (Int32.ofNat (o + i))), .val (.ref d), .val (.int (Int32.ofNat (q + i))), .val (.int (Int32.ofNat len)), .val (.int (Int32.ofNat i)), z] [.int (cv A (o + i))])) := c3.trans (by
        refine Xl.aget hexec hAl rfl (hA.get (i := o + i) (by omega)) rfl rfl (hb hbytes d12) ?_
        exact Steps.refl _)
      have c5 : Steps p.tables e below (s₁.setTop (entryFrame m #[.ref b, .int (Int32.ofNat o), .ref d, .int (Int32.ofNat q), .int (Int32.ofNat len)] 7)) (Tl.setTop (mkF m 15 #[.val (.ref b), .val (.int (Int32.ofNat (o + i))), .val (.ref d), .val (.int (Int32.ofNat (q + i))), .val (.int (Int32.ofNat len)), .val (.int (Int32.ofNat i)), .val (.int (cv A (o + i)))] [])) := c4.trans (by
        refine XS.istoreS Xl.here hexec rfl (hb hbytes d13) rfl rfl hz ?_
        exact Steps.refl _)
      have c6 : Steps p.tables e below (s₁.setTop (entryFrame m #[.ref b, .int (Int32.ofNat o), .ref d, .int (Int32.ofNat q), .int (Int32.ofNat len)] 7)) (Tl.setTop (mkF m 31 #[.val (.ref b), .val (.int (Int32.ofNat (o + i))), .val (.ref d), .val (.int (Int32.ofNat (q + i))), .val (.int (Int32.ofNat len)), .val (.int (Int32.ofNat i)), .val (.int (cv A (o + i)))] [.int (lo8 (cv A (o + i))), .int (Int32.ofNat (q + i)), .ref d])) := c5.trans (by
        refine XS.iload Xl.here hexec rfl (hb hbytes d15) rfl ?_
        refine sipushV Xl.here hexec rfl 255 (hb hbytes d17) (by decide) ?_
        refine XS.icmpYes Xl.here hexec rfl (pc0 := 20) rfl (hb hbytes d20) rfl (ii_le_t (hp i (by omega))) (by decide) rfl ?_
        refine XS.aloadN Xl.here hexec rfl (hb hbytes d26) rfl rfl ?_
        refine XS.iloadN Xl.here hexec rfl (hb hbytes d27) rfl ?_
        refine XS.iload Xl.here hexec rfl (hb hbytes d28) rfl ?_
        refine i2b Xl.here hexec rfl (hb hbytes d30) rfl ?_
        exact Steps.refl _)
      obtain ⟨T7, X7, p7, st7⟩ := Xl.aput hexec hBk rfl hlt rfl (fits_lo8 (cv A (o + i))) (g := (mkF m 31 #[.val (.ref b), .val (.int (Int32.ofNat (o + i))), .val (.ref d), .val (.int (Int32.ofNat (q + i))), .val (.int (Int32.ofNat len)), .val (.int (Int32.ofNat i)), .val (.int (cv A (o + i)))] [.int (lo8 (cv A (o + i))), .int (Int32.ofNat (q + i)), .ref d])) rfl (rest := []) rfl (hb hbytes d31)
      have c8 : Steps p.tables e below (s₁.setTop (entryFrame m #[.ref b, .int (Int32.ofNat o), .ref d, .int (Int32.ofNat q), .int (Int32.ofNat len)] 7)) (T7.setTop (mkF m 32 #[.val (.ref b), .val (.int (Int32.ofNat (o + i))), .val (.ref d), .val (.int (Int32.ofNat (q + i))), .val (.int (Int32.ofNat len)), .val (.int (Int32.ofNat i)), .val (.int (cv A (o + i)))] [])) := c6.trans (st7 _ (Steps.refl _))
      have c9 : Steps p.tables e below (s₁.setTop (entryFrame m #[.ref b, .int (Int32.ofNat o), .ref d, .int (Int32.ofNat q), .int (Int32.ofNat len)] 7)) (T7.setTop (mkF m 3 #[.val (.ref b), .val (.int (Int32.ofNat (o + i) + 1)), .val (.ref d), .val (.int (Int32.ofNat (q + i) + 1)), .val (.int (Int32.ofNat len)), .val (.int (Int32.ofNat i + 1)), .val (.int (cv A (o + i)))] [])) := c8.trans (by
        refine iincV X7.here hexec rfl 1 (hb hbytes d32) (by decide) rfl rfl ?_
        refine iincV X7.here hexec rfl 1 (hb hbytes d35) (by decide) rfl rfl ?_
        refine iincV X7.here hexec rfl 1 (hb hbytes d38) (by decide) rfl rfl ?_
        refine XS.goto X7.here hexec rfl (pc0 := 41) rfl (hb hbytes d41) (by decide) rfl ?_
        exact Steps.refl _)
      have c10 : Steps p.tables e below (s₁.setTop (entryFrame m #[.ref b, .int (Int32.ofNat o), .ref d, .int (Int32.ofNat q), .int (Int32.ofNat len)] 7)) (T7.setTop (mkF m 3 #[.val (.ref b), .val (.int (Int32.ofNat (o + (i + 1)))), .val (.ref d), .val (.int (Int32.ofNat (q + (i + 1)))), .val (.int (Int32.ofNat len)), .val (.int (Int32.ofNat (i + 1))), .val (.int (cv A (o + i)))] [])) := by
        have := c9
        rw [succ32, succ32, succ32] at this
        exact this
      exact ih (i + 1) (by omega) _ (Or.inr ⟨_, rfl, rfl⟩) T7 _ (by rw [copyLocs_step, ← List.append_assoc]; exact X7) (pl.trans p7) (fl.step (by omega) hlt (by simp)) c10
  obtain ⟨T9, B9, z9, X9, p9, f9, g9⟩ := loop len 0 (by omega) .unset (Or.inl rfl) s₁ B (by simpa [copyLocs] using X0) ⟨hB0.1, fun _ _ => rfl, rfl⟩ (Laid.zero _ _ _) c2
  have c11 : Steps p.tables e below (s₁.setTop (entryFrame m #[.ref b, .int (Int32.ofNat o), .ref d, .int (Int32.ofNat q), .int (Int32.ofNat len)] 7)) (T9.setTop (mkF m 46 #[.val (.ref b), .val (.int (Int32.ofNat (o + len))), .val (.ref d), .val (.int (Int32.ofNat (q + len))), .val (.int (Int32.ofNat len)), .val (.int (Int32.ofNat len)), z9] [.int (Int32.ofNat len)])) := g9.trans (by
    refine XS.iload X9.here hexec rfl (hb hbytes d3) rfl ?_
    refine XS.iload X9.here hexec rfl (hb hbytes d5) rfl ?_
    refine XS.icmpYes X9.here hexec rfl (pc0 := 7) rfl (hb hbytes d7) rfl (ii_ge_t (nlt32 (by omega) (Nat.le_refl _))) (by decide) rfl ?_
    refine XS.iload X9.here hexec rfl (hb hbytes d44) rfl ?_
    exact Steps.refl _)
  exact ⟨T9, some (.int (Int32.ofNat len)), _, _, _, X9, by simp, rfl, rfl, (fun h => by cases h), ⟨rfl, B9, p9.from hh0, f9⟩, fun fs hl => c11.trans (X9.ireturnOut hexec hret rfl (Or.inl rfl) (hb hbytes d46) hl)⟩
end Cmp5
namespace Cmp3
def yN : MethodName := ⟨"java/lang/StringUTF16", "compress", "([CII)[B"⟩
abbrev yB : ByteArray := jdk_52_method_16_code
theorem d0 : decode yB 0 = .ok (.iload_n 2, 1) := by decide +kernel
theorem d1 : decode yB 1 = .ok (.newarray .byte, 2) := by decide +kernel
theorem d3 : decode yB 3 = .ok (.astore_n 3, 1) := by decide +kernel
theorem d4 : decode yB 4 = .ok (.aload_n 0, 1) := by decide +kernel
theorem d5 : decode yB 5 = .ok (.iload_n 1, 1) := by decide +kernel
theorem d6 : decode yB 6 = .ok (.aload_n 3, 1) := by decide +kernel
theorem d7 : decode yB 7 = .ok (.iconst 0, 1) := by decide +kernel
theorem d8 : decode yB 8 = .ok (.iload_n 2, 1) := by decide +kernel
theorem d9 : decode yB 9 = .ok (.invokestatic 115, 3) := by decide +kernel
theorem d12 : decode yB 12 = .ok (.istore 4, 2) := by decide +kernel
theorem d14 : decode yB 14 = .ok (.iload 4, 2) := by decide +kernel
theorem d16 : decode yB 16 = .ok (.iload_n 2, 1) := by decide +kernel
theorem d17 : decode yB 17 = .ok (.if_icmp (.eq) 40, 3) := by decide +kernel
theorem d57 : decode yB 57 = .ok (.aload_n 3, 1) := by decide +kernel
theorem d58 : decode yB 58 = .ok (.areturn, 1) := by decide +kernel
def site : List Cond := [.arrayClass .byte, Cmp5.tab] ++ staticW U16 115 Cmp5.yN
def tab : Cond := tabOf yN yB 6 (some (.array .byte)) site
def P (b : Addr) (A : Cell) (o len : Nat) (args : Array Value) (s : State) : Prop := args = #[.ref b, .int (Int32.ofNat o), .int (Int32.ofNat len)] ∧ Ch b A s ∧ o + len ≤ A.slots.size ∧ len ≤ 536870912 ∧ ∀ i, i < len → ¬ 255 < cv A (o + i)
def E (b : Addr) (A : Cell) (o len : Nat) (r : Option Value) (s u : State) : Prop := NewArr .byte "[B" len (fun j => .int (lo8 (cv A (o + j)))) r s u ∧ u.heap.size = s.heap.size + 1
/-- no char of the range above 255: a new byte[] of their low bytes -/
theorem law (l : Launch) (b : Addr) (A : Cell) (o len : Nat) : Law l yN 3 3 1 18 yB 6 (some (.array .byte)) site (P b A o len) (E b A o len) [] 1 len := by
  refine Law.of_walk (plainFor_of_name (by decide +kernel)) (by decide +kernel) (by decide +kernel) (by decide) (fun _ _ h => by rw [h.1]; rfl) (fun _ U U' hal hh h => ⟨h.1, h.2.1.mv hal hh, h.2.2⟩) (fun r U U' V V' h1 hal h2 h => ⟨NewArr.mv r U U' V V' h1 hal h2 h.1, by rw [h1, h2]; exact h.2⟩) ?_
  intro p e s m args below meth c s₁ X0 hexec hbytes hml hret hlk hnm hown hh0 W hP
  obtain ⟨rfl, hA, l1, l2, hp⟩ := hP
  have a31 := hA.1.2.2.2
  have c1 : Steps p.tables e below (s₁.setTop (entryFrame m #[.ref b, .int (Int32.ofNat o), .int (Int32.ofNat len)] 6)) (s₁.setTop (mkF m 0 #[.val (.ref b), .val (.int (Int32.ofNat o)), .val (.int (Int32.ofNat len)), .unset, .unset, .unset] [])) := entry rfl
  have c2 : Steps p.tables e below (s₁.setTop (entryFrame m #[.ref b, .int (Int32.ofNat o), .int (Int32.ofNat len)] 6)) (s₁.setTop (mkF m 1 #[.val (.ref b), .val (.int (Int32.ofNat o)), .val (.int (Int32.ofNat len)), .unset, .unset, .unset] [.int (Int32.ofNat len)])) := c1.trans (by
    refine XS.iloadN X0.here hexec rfl (hb hbytes d0) rfl ?_
    exact Steps.refl _)
  obtain ⟨T3, B3, X3, ba3, bs3, bv3, bh3, bf3, st3⟩ := X0.anew hexec (atype := .byte) (wk W (.arrayClass .byte)) rfl (by show len * 1 ≤ _; omega) (by omega) (g := (mkF m 1 #[.val (.ref b), .val (.int (Int32.ofNat o)), .val (.int (Int32.ofNat len)), .unset, .unset, .unset] [.int (Int32.ofNat len)])) rfl (hb hbytes d1) (rest := []) rfl (Nat.le_refl _) (by show 0 + len ≤ len; omega)
  rw [hh0] at ba3 st3
  have kp3 : XT.Kept s T3 := (XT.Kept.of_eq hh0).push bh3
  have hA3 := hA.keep X3.warmed.alike (kp3 _ _ hA.1.1)
  have hne : b ≠ s.heap.size := hA.1.ne
  have c4 : Steps p.tables e below (s₁.setTop (entryFrame m #[.ref b, .int (Int32.ofNat o), .int (Int32.ofNat len)] 6)) (T3.setTop (mkF m 3 #[.val (.ref b), .val (.int (Int32.ofNat o)), .val (.int (Int32.ofNat len)), .unset, .unset, .unset] [.ref s.heap.size])) := c2.trans (st3 _ (Steps.refl _))
  have c5 : Steps p.tables e below (s₁.setTop (entryFrame m #[.ref b, .int (Int32.ofNat o), .int (Int32.ofNat len)] 6)) (T3.setTop (mkF m 9 #[.val (.ref b), .val (.int (Int32.ofNat o)), .val (.int (Int32.ofNat len)), .val (.ref s.heap.size), .unset, .unset] [.int (Int32.ofNat len), .int 0, .ref s.heap.size, .int (Int32.ofNat o), .ref b])) := c4.trans (by
    refine XS.astoreN X3.here hexec rfl (hb hbytes d3) rfl rfl rfl ?_
    refine XS.aloadN X3.here hexec rfl (hb hbytes d4) rfl rfl ?_
    refine XS.iloadN X3.here hexec rfl (hb hbytes d5) rfl ?_
    refine XS.aloadN X3.here hexec rfl (hb hbytes d6) rfl rfl ?_
    refine iconstV X3.here hexec rfl 0 (hb hbytes d7) (by decide) ?_
    refine XS.iloadN X3.here hexec rfl (hb hbytes d8) rfl ?_
    exact Steps.refl _)
  obtain ⟨v6, T6, X6, E6, g6⟩ := X3.callS hexec (Cmp5.law l b A s.heap.size B3 o 0 len) hown (wks W (staticW U16 115 Cmp5.yN)) (wk W Cmp5.tab) (W := 0) (Nat.le_of_ble_eq_true rfl) (Nat.le_of_ble_eq_true rfl) (Nat.le_refl _) (by show 0 + len + 0 ≤ len; omega) (g := (mkF m 9 #[.val (.ref b), .val (.int (Int32.ofNat o)), .val (.int (Int32.ofNat len)), .val (.ref s.heap.size), .unset, .unset] [.int (Int32.ofNat len), .int (Int32.ofNat 0), .ref s.heap.size, .int (Int32.ofNat o), .ref b])) rfl (by rw [hml]; rfl) c5 (argsL := [.ref b, .int (Int32.ofNat o), .ref s.heap.size, .int (Int32.ofNat 0), .int (Int32.ofNat len)]) (rest := []) rfl rfl (by show 2 * 0 + 0 ≤ _; decide) (hb hbytes d9) (⟨rfl, hA3, ba3, hne, l1, by rw [bs3]; simp, hp⟩)
  obtain ⟨rfl, B6, p6, f6⟩ := E6
  have c7 : Steps p.tables e below (s₁.setTop (entryFrame m #[.ref b, .int (Int32.ofNat o), .int (Int32.ofNat len)] 6)) (T6.setTop (mkF m 12 #[.val (.ref b), .val (.int (Int32.ofNat o)), .val (.int (Int32.ofNat len)), .val (.ref s.heap.size), .unset, .unset] [.int (Int32.ofNat len)])) := g6
  have c8 : Steps p.tables e below (s₁.setTop (entryFrame m #[.ref b, .int (Int32.ofNat o), .int (Int32.ofNat len)] 6)) (T6.setTop (mkF m 58 #[.val (.ref b), .val (.int (Int32.ofNat o)), .val (.int (Int32.ofNat len)), .val (.ref s.heap.size), .val (.int (Int32.ofNat len)), .unset] [.ref s.heap.size])) := c7.trans (by
    refine XS.istore X6.here hexec rfl (hb hbytes d12) rfl rfl ?_
    refine XS.iload X6.here hexec rfl (hb hbytes d14) rfl ?_
    refine XS.iloadN X6.here hexec rfl (hb hbytes d16) rfl ?_
    refine XS.icmpYes X6.here hexec rfl (pc0 := 17) rfl (hb hbytes d17) rfl (ii_eq_t rfl) (by decide) rfl ?_
    refine XS.aloadN X6.here hexec rfl (hb hbytes d57) rfl rfl ?_
    exact Steps.refl _)
  have X8 := X6.wide (L' := []) (cells' := 1) (slots' := len) (fun x hx hlt => by
    simp only [List.nil_append, copyLocs, List.mem_map, List.mem_range] at hx
    obtain ⟨i, -, rfl⟩ := hx
    exact absurd hlt (Nat.lt_irrefl _)) (Nat.le_refl _) (by omega)
  exact ⟨T6, some (.ref s.heap.size), _, _, _, X8, rfl, rfl, rfl, (fun h => by cases h), ⟨⟨rfl, B6, ba3.like (X3.warmed.alike.symm.trans X6.warmed.alike) p6.1 f6.1 f6.2.1 f6.2.2.1, f6.2.1.trans bv3, by rw [X6.warmed.alike.findClass, f6.1]; exact bf3, by rw [f6.2.2.1, bs3]; simp, fun j hj => by rw [f6.2.2.2 j, if_pos (by omega)]; rfl, kp3.put p6 (Nat.le_refl _)⟩, by rw [p6.2.2, bh3, hh0]; simp⟩, fun fs hl => c8.trans (X8.areturnOut hexec rfl hret rfl (hb hbytes d58) hl)⟩
end Cmp3
namespace CodL
def yN : MethodName := ⟨"java/lang/StringUTF16", "coderFromArrayLen", "([BI)B"⟩
abbrev yB : ByteArray := jdk_52_method_15_code
theorem d0 : decode yB 0 = .ok (.iload_n 1, 1) := by decide +kernel
theorem d1 : decode yB 1 = .ok (.aload_n 0, 1) := by decide +kernel
theorem d2 : decode yB 2 = .ok (.arraylength, 1) := by decide +kernel
theorem d3 : decode yB 3 = .ok (.isub, 1) := by decide +kernel
theorem d4 : decode yB 4 = .ok (.bipush 31, 2) := by decide +kernel
theorem d6 : decode yB 6 = .ok (.iushr, 1) := by decide +kernel
theorem d7 : decode yB 7 = .ok (.i2b, 1) := by decide +kernel
theorem d8 : decode yB 8 = .ok (.ireturn, 1) := by decide +kernel
def site : List Cond := []
def tab : Cond := tabOf yN yB 2 (some .byte) site
def P (d : Addr) (B : Cell) (args : Array Value) (s : State) : Prop := args = #[.ref d, .int (Int32.ofNat B.slots.size)] ∧ Arr .byte d B s
def E (r : Option Value) (s u : State) : Prop := XT.PureE (some (.int 0)) r s u
/-- an array as long as the number of chars: LATIN1 -/
theorem law (l : Launch) (d : Addr) (B : Cell) : Law l yN 2 2 0 0 yB 2 (some .byte) site (P d B) E [] 0 0 := by
  refine Law.of_walk (plainFor_of_name (by decide +kernel)) (by decide +kernel) (by decide +kernel) (by decide) (fun _ _ h => by rw [h.1]; rfl) (fun _ U U' hal hh h => ⟨h.1, h.2.mv hal hh⟩) (fun r U U' V V' h1 hal h2 h => XT.PureE.mv r U U' V V' h1 hal h2 h) ?_
  intro p e s m args below meth c s₁ X0 hexec hbytes hml hret hlk hnm hown hh0 W hP
  obtain ⟨rfl, hB⟩ := hP
  have hB0 := hB.mv X0.warmed.alike hh0
  have c1 : Steps p.tables e below (s₁.setTop (entryFrame m #[.ref d, .int (Int32.ofNat B.slots.size)] 2)) (s₁.setTop (mkF m 0 #[.val (.ref d), .val (.int (Int32.ofNat B.slots.size))] [])) := entry rfl
  have c2 : Steps p.tables e below (s₁.setTop (entryFrame m #[.ref d, .int (Int32.ofNat B.slots.size)] 2)) (s₁.setTop (mkF m 2 #[.val (.ref d), .val (.int (Int32.ofNat B.slots.size))] [.ref d, .int (Int32.ofNat B.slots.size)])) := c1.trans (by
    refine XS.iloadN X0.here hexec rfl (hb hbytes d0) rfl ?_
    refine XS.aloadN X0.here hexec rfl (hb hbytes d1) rfl rfl ?_
    exact Steps.refl _)
  have c3 : Steps p.tables e below (s₁.setTop (entryFrame m #[.ref d, .int (Int32.ofNat B.slots.size)] 2)) (s₁.setTop (mkF m 8 #[.val (.ref d), .val (.int (Int32.ofNat B.slots.size))] [.int (lo8 (ushr (Int32.ofNat B.slots.size - Int32.ofNat B.slots.size) 31))])) := c2.trans (by
    refine X0.alen hexec hB0 rfl rfl (hb hbytes d2) ?_
    refine XS.isub X0.here hexec rfl (hb hbytes d3) rfl ?_
    refine bipushV X0.here hexec rfl 31 (hb hbytes d4) (by decide) ?_
    refine iushr X0.here hexec rfl (hb hbytes d6) rfl ?_
    refine i2b X0.here hexec rfl (hb hbytes d7) rfl ?_
    exact Steps.refl _)
  have e0 : lo8 (ushr (Int32.ofNat B.slots.size - Int32.ofNat B.slots.size) 31) = 0 := by rw [Int32.sub_self]; decide
  rw [e0] at c3
  exact ⟨s₁, some (.int 0), _, _, _, X0, rfl, rfl, rfl, (fun h => by cases h), ⟨rfl, hh0⟩, fun fs hl => c3.trans (X0.ireturnOut hexec hret rfl (Or.inr (Or.inr (Or.inl rfl))) (hb hbytes d8) hl)⟩
end CodL
/-- the String at a is Latin-1 over a new byte[] (the heap's one new cell): the low bytes of the len chars of A from o on; every cell but a is kept -/
def Got (a : Addr) (D : Cell) (fV fC : Field) (A : Cell) (o len : Nat) (r : Option Value) (s u : State) : Prop := r = none ∧ ∃ D' V : Cell, Blank "java/lang/String" a D' u ∧ Same D D' [fV.slot, fC.slot] ∧ D'.slots[fV.slot]? = some (.ref s.heap.size) ∧ D'.slots[fC.slot]? = some (.int 0) ∧ Arr .byte s.heap.size V u ∧ V.vm = .none ∧ u.vm.findClass "[B" = some V.cls ∧ V.slots.size = len ∧ (∀ j, j < len → V.slots[j]? = some (.int (lo8 (cv A (o + j))))) ∧ (∀ (y : Addr) (c : Cell), y ≠ a → s.heap[y]? = some c → u.heap[y]? = some c) ∧ u.heap.size = s.heap.size + 1
theorem Got.mv {a : Addr} {D A : Cell} {fV fC : Field} {o len : Nat} : ∀ r (U U' V V' : State), U'.heap = U.heap → V.vm.Alike V'.vm → V'.heap = V.heap → Got a D fV fC A o len r U V → Got a D fV fC A o len r U' V' :=
  fun r U U' V V' h1 hal h2 ⟨e0, D', X, a1, a2, a3, a4, a5, a6, a7, a8, a9, a10, a11⟩ => ⟨e0, D', X, a1.mv hal h2, a2, by rw [h1]; exact a3, a4, by rw [h1]; exact a5.mv hal h2, a6, by rw [hal.findClass]; exact a7, a8, a9, by rw [h1, h2]; exact a10, by rw [h1, h2]; exact a11⟩
namespace New4
def yN : MethodName := ⟨"java/lang/String", "<init>", "([CIILjava/lang/Void;)V"⟩
abbrev yB : ByteArray := jdk_42_method_149_code
theorem d0 : decode yB 0 = .ok (.aload_n 0, 1) := by decide +kernel
theorem d1 : decode yB 1 = .ok (.invokespecial 1, 3) := by decide +kernel
theorem d4 : decode yB 4 = .ok (.iload_n 3, 1) := by decide +kernel
theorem d5 : decode yB 5 = .ok (.ifCond (.ne) 22, 3) := by decide +kernel
theorem d27 : decode yB 27 = .ok (.getstatic 38, 3) := by decide +kernel
theorem d30 : decode yB 30 = .ok (.ifCond (.eq) 28, 3) := by decide +kernel
theorem d33 : decode yB 33 = .ok (.aload_n 1, 1) := by decide +kernel
theorem d34 : decode yB 34 = .ok (.iload_n 2, 1) := by decide +kernel
theorem d35 : decode yB 35 = .ok (.iload_n 3, 1) := by decide +kernel
theorem d36 : decode yB 36 = .ok (.invokestatic 177, 3) := by decide +kernel
theorem d39 : decode yB 39 = .ok (.astore 5, 2) := by decide +kernel
theorem d41 : decode yB 41 = .ok (.aload_n 0, 1) := by decide +kernel
theorem d42 : decode yB 42 = .ok (.aload 5, 2) := by decide +kernel
theorem d44 : decode yB 44 = .ok (.iload_n 3, 1) := by decide +kernel
theorem d45 : decode yB 45 = .ok (.invokestatic 47, 3) := by decide +kernel
theorem d48 : decode yB 48 = .ok (.putfield 15, 3) := by decide +kernel
theorem d51 : decode yB 51 = .ok (.aload_n 0, 1) := by decide +kernel
theorem d52 : decode yB 52 = .ok (.aload 5, 2) := by decide +kernel
theorem d54 : decode yB 54 = .ok (.putfield 9, 3) := by decide +kernel
theorem d57 : decode yB 57 = .ok (.return_, 1) := by decide +kernel
def site : List Cond := [.fieldLink "java/lang/String" 38 "java/lang/String" "COMPACT_STRINGS" "Z", Cmp3.tab, CodL.tab, .laysFinal "java/lang/String" "java/lang/String" "value" "[B", .fieldLink "java/lang/String" 9 "java/lang/String" "value" "[B", .laysFinal "java/lang/String" "java/lang/String" "coder" "B", .fieldLink "java/lang/String" 15 "java/lang/String" "coder" "B"] ++ objW "java/lang/String" 1 ++ staticW "java/lang/String" 177 Cmp3.yN ++ staticW "java/lang/String" 47 CodL.yN
def tab : Cond := tabOf yN yB 6 none site
def P (a : Addr) (D : Cell) (fV fC : Field) (b : Addr) (A : Cell) (z : Int32) (o len : Nat) (args : Array Value) (s : State) : Prop := args = #[.ref a, .ref b, .int (Int32.ofNat o), .int (Int32.ofNat len), .null] ∧ Blank "java/lang/String" a D s ∧ Found "java/lang/String" "value" "[B" fV s ∧ Found "java/lang/String" "coder" "B" fC s ∧ Ch b A s ∧ StaticIs s "java/lang/String" "COMPACT_STRINGS" "Z" (.int z) ∧ ¬ z = 0 ∧ 0 < len ∧ o + len ≤ A.slots.size ∧ len ≤ 536870912 ∧ ∀ i, i < len → ¬ 255 < cv A (o + i)
def E (a : Addr) (D : Cell) (fV fC : Field) (A : Cell) (o len : Nat) (r : Option Value) (s u : State) : Prop := Got a D fV fC A o len r s u
/-- len > 0, no char of the range above 255: a Latin-1 String of their low bytes -/
theorem law (l : Launch) (a : Addr) (D : Cell) (fV fC : Field) (b : Addr) (A : Cell) (z : Int32) (o len : Nat) : Law l yN 5 4 2 35 yB 6 none site (P a D fV fC b A z o len) (E a D fV fC A o len) [⟨a, fC.slot⟩, ⟨a, fV.slot⟩] 1 len := by
  refine Law.of_walk (plainFor_of_name (by decide +kernel)) (by decide +kernel) (by decide +kernel) (by decide) (fun _ _ h => by rw [h.1]; rfl) (fun _ U U' hal hh h => ⟨h.1, h.2.1.mv hal hh, h.2.2.1.al hal, h.2.2.2.1.al hal, h.2.2.2.2.1.mv hal hh, h.2.2.2.2.2.1.there hal hh, h.2.2.2.2.2.2⟩) (fun r U U' V V' h1 hal h2 h => Got.mv r U U' V V' h1 hal h2 h) ?_
  intro p e s m args below meth c s₁ X0 hexec hbytes hml hret hlk hnm hown hh0 W hP
  obtain ⟨rfl, hB, f1, f2, hA, s1, hz, l0, l1, l2, hp⟩ := hP
  have a31 := hA.1.2.2.2
  have c1 : Steps p.tables e below (s₁.setTop (entryFrame m #[.ref a, .ref b, .int (Int32.ofNat o), .int (Int32.ofNat len), .null] 6)) (s₁.setTop (mkF m 0 #[.val (.ref a), .val (.ref b), .val (.int (Int32.ofNat o)), .val (.int (Int32.ofNat len)), .val .null, .unset] [])) := entry rfl
  have c2 : Steps p.tables e below (s₁.setTop (entryFrame m #[.ref a, .ref b, .int (Int32.ofNat o), .int (Int32.ofNat len), .null] 6)) (s₁.setTop (mkF m 1 #[.val (.ref a), .val (.ref b), .val (.int (Int32.ofNat o)), .val (.int (Int32.ofNat len)), .val .null, .unset] [.ref a])) := c1.trans (by
    refine XS.aloadN X0.here hexec rfl (hb hbytes d0) rfl rfl ?_
    exact Steps.refl _)
  obtain ⟨T3, X3, q3, st3⟩ := X0.oinit hexec hown (wks W (objW "java/lang/String" 1)) (g := (mkF m 1 #[.val (.ref a), .val (.ref b), .val (.int (Int32.ofNat o)), .val (.int (Int32.ofNat len)), .val .null, .unset] [.ref a])) rfl (by rw [hml]; rfl) (rest := []) rfl (hb hbytes d1) (W := 0) (by show 2 * 0 + 0 ≤ _; decide) (Nat.le_of_ble_eq_true rfl) (Nat.le_of_ble_eq_true rfl)
  have hh3 := q3.trans hh0
  have c4 : Steps p.tables e below (s₁.setTop (entryFrame m #[.ref a, .ref b, .int (Int32.ofNat o), .int (Int32.ofNat len), .null] 6)) (T3.setTop (mkF m 27 #[.val (.ref a), .val (.ref b), .val (.int (Int32.ofNat o)), .val (.int (Int32.ofNat len)), .val .null, .unset] [])) := (c2.trans (st3 _ (Steps.refl _))).trans (by
    refine XS.iloadN X3.here hexec rfl (hb hbytes d4) rfl ?_
    refine XS.ifYes X3.here hexec rfl (pc0 := 5) rfl (hb hbytes d5) rfl (i0_ne_t (nz32 (by omega) l0)) (by decide) rfl ?_
    exact Steps.refl _)
  obtain ⟨T5, X5, q5, st5⟩ := X3.sget hexec hown (wk W (.fieldLink "java/lang/String" 38 "java/lang/String" "COMPACT_STRINGS" "Z")) s1 (fun _ _ h => by rw [hh3]; exact h) (g := (mkF m 27 #[.val (.ref a), .val (.ref b), .val (.int (Int32.ofNat o)), .val (.int (Int32.ofNat len)), .val .null, .unset] [])) rfl (hb hbytes d27)
  have hh5 := q5.trans hh3
  have c6 : Steps p.tables e below (s₁.setTop (entryFrame m #[.ref a, .ref b, .int (Int32.ofNat o), .int (Int32.ofNat len), .null] 6)) (T5.setTop (mkF m 30 #[.val (.ref a), .val (.ref b), .val (.int (Int32.ofNat o)), .val (.int (Int32.ofNat len)), .val .null, .unset] [.int z])) := c4.trans (st5 _ (Steps.refl _))
  have c7 : Steps p.tables e below (s₁.setTop (entryFrame m #[.ref a, .ref b, .int (Int32.ofNat o), .int (Int32.ofNat len), .null] 6)) (T5.setTop (mkF m 36 #[.val (.ref a), .val (.ref b), .val (.int (Int32.ofNat o)), .val (.int (Int32.ofNat len)), .val .null, .unset] [.int (Int32.ofNat len), .int (Int32.ofNat o), .ref b])) := c6.trans (by
    refine XS.ifNo X5.here hexec rfl (hb hbytes d30) rfl (i0_eq_f hz) ?_
    refine XS.aloadN X5.here hexec rfl (hb hbytes d33) rfl rfl ?_
    refine XS.iloadN X5.here hexec rfl (hb hbytes d34) rfl ?_
    refine XS.iloadN X5.here hexec rfl (hb hbytes d35) rfl ?_
    exact Steps.refl _)
  obtain ⟨v8, T8, X8, E8, g8⟩ := X5.callS hexec (Cmp3.law l b A o len) hown (wks W (staticW "java/lang/String" 177 Cmp3.yN)) (wk W Cmp3.tab) (W := 0) (Nat.le_of_ble_eq_true rfl) (Nat.le_of_ble_eq_true rfl) (Nat.le_refl _) (by show 0 + len ≤ len; omega) (g := (mkF m 36 #[.val (.ref a), .val (.ref b), .val (.int (Int32.ofNat o)), .val (.int (Int32.ofNat len)), .val .null, .unset] [.int (Int32.ofNat len), .int (Int32.ofNat o), .ref b])) rfl (by rw [hml]; rfl) c7 (argsL := [.ref b, .int (Int32.ofNat o), .int (Int32.ofNat len)]) (rest := []) rfl rfl (by show 2 * 0 + 0 ≤ _; decide) (hb hbytes d36) (⟨rfl, hA.mv X5.warmed.alike hh5, l1, l2, hp⟩)
  obtain ⟨e8, z8⟩ := E8
  obtain ⟨rfl, N, n1, n2, n3, n4, n5, n6⟩ := NewArr.mv _ T5 s _ _ hh5.symm (Vm.Alike.refl _) rfl e8
  rw [hh5] at z8
  have hB1 := hB.keep X8.warmed.alike (n6 _ _ hB.1)
  have hne : s.heap.size ≠ a := (Nat.ne_of_lt (Array.getElem?_eq_some_iff.mp hB.1).1).symm
  have c9 : Steps p.tables e below (s₁.setTop (entryFrame m #[.ref a, .ref b, .int (Int32.ofNat o), .int (Int32.ofNat len), .null] 6)) (T8.setTop (mkF m 39 #[.val (.ref a), .val (.ref b), .val (.int (Int32.ofNat o)), .val (.int (Int32.ofNat len)), .val .null, .unset] [.ref s.heap.size])) := g8
  have c10 : Steps p.tables e below (s₁.setTop (entryFrame m #[.ref a, .ref b, .int (Int32.ofNat o), .int (Int32.ofNat len), .null] 6)) (T8.setTop (mkF m 45 #[.val (.ref a), .val (.ref b), .val (.int (Int32.ofNat o)), .val (.int (Int32.ofNat len)), .val .null, .val (.ref s.heap.size)] [.int (Int32.ofNat N.slots.size), .ref s.heap.size, .ref a])) := by
    have hc : Steps p.tables e below (s₁.setTop (entryFrame m #[.ref a, .ref b, .int (Int32.ofNat o), .int (Int32.ofNat len), .null] 6)) (T8.setTop (mkF m 45 #[.val (.ref a), .val (.ref b), .val (.int (Int32.ofNat o)), .val (.int (Int32.ofNat len)), .val .null, .val (.ref s.heap.size)] [.int (Int32.ofNat len), .ref s.heap.size, .ref a])) := c9.trans (by
      refine XS.astore X8.here hexec rfl (hb hbytes d39) rfl rfl rfl ?_
      refine XS.aloadN X8.here hexec rfl (hb hbytes d41) rfl rfl ?_
      refine XS.aload X8.here hexec rfl (hb hbytes d42) rfl rfl ?_
      refine XS.iloadN X8.here hexec rfl (hb hbytes d44) rfl ?_
      exact Steps.refl _)
    rw [n4]; exact hc
  obtain ⟨v11, T11, X11, E11, g11⟩ := X8.callS hexec (CodL.law l s.heap.size N) hown (wks W (staticW "java/lang/String" 47 CodL.yN)) (wk W CodL.tab) (W := 1) (Nat.le_of_ble_eq_true rfl) (Nat.le_of_ble_eq_true rfl) (Nat.le_refl _) (by show 0 + len + 0 ≤ len; omega) (g := (mkF m 45 #[.val (.ref a), .val (.ref b), .val (.int (Int32.ofNat o)), .val (.int (Int32.ofNat len)), .val .null, .val (.ref s.heap.size)] [.int (Int32.ofNat N.slots.size), .ref s.heap.size, .ref a])) rfl (by rw [hml]; rfl) c10 (argsL := [.ref s.heap.size, .int (Int32.ofNat N.slots.size)]) (rest := [.ref a]) rfl rfl (by show 2 * 0 + (1 + 0) ≤ _; decide) (hb hbytes d45) (⟨rfl, n1⟩)
  obtain ⟨rfl, q11⟩ := E11
  have hB11 := hB1.mv (X8.warmed.alike.symm.trans X11.warmed.alike) q11
  have c12 : Steps p.tables e below (s₁.setTop (entryFrame m #[.ref a, .ref b, .int (Int32.ofNat o), .int (Int32.ofNat len), .null] 6)) (T11.setTop (mkF m 48 #[.val (.ref a), .val (.ref b), .val (.int (Int32.ofNat o)), .val (.int (Int32.ofNat len)), .val .null, .val (.ref s.heap.size)] [.int 0, .ref a])) := g11
  obtain ⟨T13, X13, p13, bl13, sl13, st13⟩ := X11.finit hexec hown (wk W (.fieldLink "java/lang/String" 15 "java/lang/String" "coder" "B")) (Or.inr ⟨_, (wk W (.laysFinal "java/lang/String" "java/lang/String" "coder" "B"))⟩) (Or.inl ⟨rfl, hnm⟩) f2 (Or.inl rfl) hB11 (t := .byte) (by decide +kernel) rfl (g := (mkF m 48 #[.val (.ref a), .val (.ref b), .val (.int (Int32.ofNat o)), .val (.int (Int32.ofNat len)), .val .null, .val (.ref s.heap.size)] [.int 0, .ref a])) rfl (rest := []) rfl (hb hbytes d48)
  have c14 : Steps p.tables e below (s₁.setTop (entryFrame m #[.ref a, .ref b, .int (Int32.ofNat o), .int (Int32.ofNat len), .null] 6)) (T13.setTop (mkF m 54 #[.val (.ref a), .val (.ref b), .val (.int (Int32.ofNat o)), .val (.int (Int32.ofNat len)), .val .null, .val (.ref s.heap.size)] [.ref s.heap.size, .ref a])) := (c12.trans (st13 _ (Steps.refl _))).trans (by
    refine XS.aloadN X13.here hexec rfl (hb hbytes d51) rfl rfl ?_
    refine XS.aload X13.here hexec rfl (hb hbytes d52) rfl rfl ?_
    exact Steps.refl _)
  obtain ⟨T15, X15, p15, bl15, sl15, st15⟩ := X13.finit hexec hown (wk W (.fieldLink "java/lang/String" 9 "java/lang/String" "value" "[B")) (Or.inr ⟨_, (wk W (.laysFinal "java/lang/String" "java/lang/String" "value" "[B"))⟩) (Or.inl ⟨rfl, hnm⟩) f1 (Or.inl rfl) bl13 (t := (.array .byte)) (by decide +kernel) rfl (g := (mkF m 54 #[.val (.ref a), .val (.ref b), .val (.int (Int32.ofNat o)), .val (.int (Int32.ofNat len)), .val .null, .val (.ref s.heap.size)] [.ref s.heap.size, .ref a])) rfl (rest := []) rfl (hb hbytes d54)
  have c16 : Steps p.tables e below (s₁.setTop (entryFrame m #[.ref a, .ref b, .int (Int32.ofNat o), .int (Int32.ofNat len), .null] 6)) (T15.setTop (mkF m 57 #[.val (.ref a), .val (.ref b), .val (.int (Int32.ofNat o)), .val (.int (Int32.ofNat len)), .val .null, .val (.ref s.heap.size)] [])) := c14.trans (st15 _ (Steps.refl _))
  have ap := apart (Or.inr ⟨_, (wk W (.laysFinal "java/lang/String" "java/lang/String" "value" "[B"))⟩) (Or.inr ⟨_, (wk W (.laysFinal "java/lang/String" "java/lang/String" "coder" "B"))⟩) f1 f2 (t₁ := .array .byte) (t₂ := .byte) (by decide +kernel) (by decide +kernel) (by decide)
  have al := X8.warmed.alike.symm.trans X15.warmed.alike
  have n7 : T11.heap[s.heap.size]? = some N := by rw [q11]; exact n1.1
  exact ⟨T15, none, _, _, _, X15, by simp, rfl, by omega, (fun _ => rfl), ⟨rfl, _, N, bl15, ((Same.refl D _).set _ (by simp)).set _ (by simp), sl15, (Cell.slots_setSlot_ne _ ap).trans sl13, n1.keep al (p15.other hne (p13.other hne n7)), n2, by rw [al.findClass]; exact n3, n4, n5, fun y c h1 h2 => p15.other h1 (p13.other h1 (by rw [q11]; exact n6 y c h2)), by rw [p15.2.2, p13.2.2, q11]; exact z8⟩, fun fs hl => c16.trans (X15.returnOut hexec hret (hb hbytes d57) hl)⟩
end New4
namespace New1
def yN : MethodName := ⟨"java/lang/String", "<init>", "([C)V"⟩
abbrev yB : ByteArray := jdk_42_method_3_code
theorem d0 : decode yB 0 = .ok (.aload_n 0, 1) := by decide +kernel
theorem d1 : decode yB 1 = .ok (.aload_n 1, 1) := by decide +kernel
theorem d2 : decode yB 2 = .ok (.iconst 0, 1) := by decide +kernel
theorem d3 : decode yB 3 = .ok (.aload_n 1, 1) := by decide +kernel
theorem d4 : decode yB 4 = .ok (.arraylength, 1) := by decide +kernel
theorem d5 : decode yB 5 = .ok (.aconst_null, 1) := by decide +kernel
theorem d6 : decode yB 6 = .ok (.invokespecial 27, 3) := by decide +kernel
theorem d9 : decode yB 9 = .ok (.return_, 1) := by decide +kernel
def site : List Cond := [New4.tab] ++ initW "java/lang/String" 27 New4.yN
def tab : Cond := tabOf yN yB 2 none site
def P (a : Addr) (D : Cell) (fV fC : Field) (b : Addr) (A : Cell) (z : Int32) (args : Array Value) (s : State) : Prop := args = #[.ref a, .ref b] ∧ Blank "java/lang/String" a D s ∧ Found "java/lang/String" "value" "[B" fV s ∧ Found "java/lang/String" "coder" "B" fC s ∧ Ch b A s ∧ StaticIs s "java/lang/String" "COMPACT_STRINGS" "Z" (.int z) ∧ ¬ z = 0 ∧ 0 < A.slots.size ∧ A.slots.size ≤ 536870912 ∧ ∀ i, i < A.slots.size → ¬ 255 < cv A i
def E (a : Addr) (D : Cell) (fV fC : Field) (A : Cell) (r : Option Value) (s u : State) : Prop := Got a D fV fC A 0 A.slots.size r s u
/-- new String(chars), not empty, no char above 255: a Latin-1 String of their low bytes -/
theorem law (l : Launch) (a : Addr) (D : Cell) (fV fC : Field) (b : Addr) (A : Cell) (z : Int32) : Law l yN 2 1 3 52 yB 2 none site (P a D fV fC b A z) (E a D fV fC A) [⟨a, fC.slot⟩, ⟨a, fV.slot⟩] 1 A.slots.size := by
  refine Law.of_walk (plainFor_of_name (by decide +kernel)) (by decide +kernel) (by decide +kernel) (by decide) (fun _ _ h => by rw [h.1]; rfl) (fun _ U U' hal hh h => ⟨h.1, h.2.1.mv hal hh, h.2.2.1.al hal, h.2.2.2.1.al hal, h.2.2.2.2.1.mv hal hh, h.2.2.2.2.2.1.there hal hh, h.2.2.2.2.2.2⟩) (fun r U U' V V' h1 hal h2 h => Got.mv r U U' V V' h1 hal h2 h) ?_
  intro p e s m args below meth c s₁ X0 hexec hbytes hml hret hlk hnm hown hh0 W hP
  obtain ⟨rfl, hB, f1, f2, hA, s1, hz, l0, l2, hp⟩ := hP
  have c1 : Steps p.tables e below (s₁.setTop (entryFrame m #[.ref a, .ref b] 2)) (s₁.setTop (mkF m 0 #[.val (.ref a), .val (.ref b)] [])) := entry rfl
  have c2 : Steps p.tables e below (s₁.setTop (entryFrame m #[.ref a, .ref b] 2)) (s₁.setTop (mkF m 6 #[.val (.ref a), .val (.ref b)] [.null, .int (Int32.ofNat A.slots.size), .int 0, .ref b, .ref a])) := c1.trans (by
    refine XS.aloadN X0.here hexec rfl (hb hbytes d0) rfl rfl ?_
    refine XS.aloadN X0.here hexec rfl (hb hbytes d1) rfl rfl ?_
    refine iconstV X0.here hexec rfl 0 (hb hbytes d2) (by decide) ?_
    refine XS.aloadN X0.here hexec rfl (hb hbytes d3) rfl rfl ?_
    refine X0.alen hexec (hA.1.mv X0.warmed.alike hh0) rfl rfl (hb hbytes d4) ?_
    refine XS.aconstNull X0.here hexec rfl (hb hbytes d5) ?_
    exact Steps.refl _)
  obtain ⟨v3, T3, X3, E3, g3⟩ := X0.callN hexec (New4.law l a D fV fC b A z 0 A.slots.size) rfl hown (wks W (initW "java/lang/String" 27 New4.yN)) (W New4.tab (by simp only [site, List.mem_cons, List.mem_append, true_or, or_true])) (W := 0) (Nat.le_of_ble_eq_true rfl) (Nat.le_of_ble_eq_true rfl) (Nat.le_refl _) (by show 0 + A.slots.size ≤ A.slots.size; omega) (g := (mkF m 6 #[.val (.ref a), .val (.ref b)] [.null, .int (Int32.ofNat A.slots.size), .int (Int32.ofNat 0), .ref b, .ref a])) rfl (by rw [hml]; rfl) c2 (argsL := [.ref b, .int (Int32.ofNat 0), .int (Int32.ofNat A.slots.size), .null]) (rest := []) rfl rfl (by show 2 * 0 + 0 ≤ _; decide) (hb hbytes d6) (⟨rfl, hB.mv X0.warmed.alike hh0, f1.al X0.warmed.alike, f2.al X0.warmed.alike, hA.mv X0.warmed.alike hh0, s1.there X0.warmed.alike hh0, hz, l0, by omega, l2, fun i hi => by rw [Nat.zero_add]; exact hp i hi⟩)
  have e0 := Got.mv _ s₁ s _ _ hh0.symm (Vm.Alike.refl _) rfl E3
  obtain rfl := e0.1
  have c4 : Steps p.tables e below (s₁.setTop (entryFrame m #[.ref a, .ref b] 2)) (T3.setTop (mkF m 9 #[.val (.ref a), .val (.ref b)] [])) := g3
  exact ⟨T3, none, _, _, _, X3, by simp, rfl, by omega, (fun _ => rfl), e0, fun fs hl => c4.trans (X3.returnOut hexec hret (hb hbytes d9) hl)⟩
theorem pays {l : Launch} {R : Room} {p : Program} {e : Env} {below : List Frame} {s : State} {sargs : Array Value} {len W : Nat} (a : Addr) (D : Cell) (fV fC : Field) (b : Addr) (A : Cell) (z : Int32) (htab : tab.before sargs s = true) (hfr : 4 ≤ R.frames) (hlo : W + 65 ≤ R.locals) :
    Back l R p e below s sargs yN len W (fun A₁ a₁ => A₁.cells + 1 ≤ R.cells ∧ A₁.slots + A.slots.size ≤ R.slots ∧ P a D fV fC b A z a₁ A₁.U) (fun A₁ _ v₁ B₁ => E a D fV fC A v₁ A₁.U B₁.U ∧ B₁.locs = A₁.locs ++ [⟨a, fC.slot⟩, ⟨a, fV.slot⟩] ∧ B₁.cells = A₁.cells + 1 ∧ B₁.slots = A₁.slots + A.slots.size) :=
  (law l a D fV fC b A z).pays htab hfr (by omega)
end New1
/-- the byte, read back as charAt reads it, is the char -/
theorem lo8_mask {x : Int32} (h0 : ¬ x < 0) (h1 : ¬ 255 < x) : lo8 x &&& 255 = x := by
  have t : ∀ k : Fin 256, lo8 (Int32.ofNat k.val) &&& 255 = Int32.ofNat k.val := by decide +kernel
  rw [Int32.lt_iff_toInt_lt] at h0 h1
  have e0 : (0 : Int32).toInt = 0 := rfl
  have e1 : (255 : Int32).toInt = 255 := rfl
  obtain ⟨k, hk⟩ : ∃ k : Nat, x.toInt = k := ⟨x.toInt.toNat, by omega⟩
  have hx : x = Int32.ofNat k := Int32.toInt_inj.mp (by rw [hk, Int32.toInt_ofNat_small (by omega)])
  rw [hx]
  exact t ⟨k, by omega⟩
end StrChars
namespace StrChars.Road
open Jvm Sem ClassFile Op Lib Jvm.Stand Jvm.Free Jvm.Free.XT
open Jvm.Lib.Cold (StaticIs)
abbrev ST : String := "java/lang/String"
/-- every table word that New1's law asks, flat -/
abbrev words : List Jvm.Cond := [.code New1.yN New1.yB 2 none, .initialized ST, .methodLink ST 27 New4.yN, .instanceMethod New4.yN,
  .code New4.yN New4.yB 6 none, .fieldLink ST 38 ST "COMPACT_STRINGS" "Z", .laysFinal ST ST "value" "[B", .fieldLink ST 9 ST "value" "[B", .laysFinal ST ST "coder" "B", .fieldLink ST 15 ST "coder" "B",
  .methodLink ST 1 Lib.objectInit, .instanceMethod Lib.objectInit, .code Lib.objectInit ⟨#[0xb1]⟩ 1 none, .methodLink ST 177 Cmp3.yN, .static Cmp3.yN, .methodLink ST 47 CodL.yN, .static CodL.yN,
  .code Cmp3.yN Cmp3.yB 6 (some (.array .byte)), .initialized U16, .arrayClass .byte, .methodLink U16 115 Cmp5.yN, .static Cmp5.yN, .code Cmp5.yN Cmp5.yB 7 (some .int), .code CodL.yN CodL.yB 2 (some .byte)]
theorem tab_of {a : Array Value} {s : State} (h : ∀ w ∈ words, w.before a s = true) : New1.tab.before a s = true := by
  have h5 : Cmp5.tab.before a s = true := unparts (wk h (.code Cmp5.yN Cmp5.yB 7 (some .int))) (wks h (.initialized Cmp5.yN.cls :: Cmp5.site))
  have hc : CodL.tab.before a s = true := unparts (wk h (.code CodL.yN CodL.yB 2 (some .byte))) (wks h (.initialized CodL.yN.cls :: CodL.site))
  have q5 : ∀ w ∈ Cmp5.tab :: words, w.before a s = true := fun w hw => (List.mem_cons.mp hw).elim (fun e => e ▸ h5) (h w)
  have h3 : Cmp3.tab.before a s = true := unparts (wk q5 (.code Cmp3.yN Cmp3.yB 6 (some (.array .byte)))) (wks q5 (.initialized Cmp3.yN.cls :: Cmp3.site))
  have q3 : ∀ w ∈ Cmp3.tab :: CodL.tab :: words, w.before a s = true := fun w hw => (List.mem_cons.mp hw).elim (fun e => e ▸ h3) fun hw => (List.mem_cons.mp hw).elim (fun e => e ▸ hc) (h w)
  have h4 : New4.tab.before a s = true := unparts (wk q3 (.code New4.yN New4.yB 6 none)) (wks q3 (.initialized New4.yN.cls :: New4.site))
  have q4 : ∀ w ∈ New4.tab :: words, w.before a s = true := fun w hw => (List.mem_cons.mp hw).elim (fun e => e ▸ h4) (h w)
  exact unparts (wk q4 (.code New1.yN New1.yB 2 none)) (wks q4 (.initialized New1.yN.cls :: New1.site))
/-- the words ride from the start Z to the walk's own state -/
theorem moved {Z s : State} {a0 args : Array Value} (hZ : Z.Warmed39 s.vm) (hw : ∀ d ∈ words, d.before a0 Z = true) : ∀ d ∈ words, d.before args s = true := fun d hd => by
  have q := hw d hd
  have t : ∀ d ∈ words, d = .arrayClass .byte ∨ (d.onTables && d.keepsFace) = true := by decide +kernel
  rcases t d hd with rfl | t
  · exact RoadKit.mvA hZ q
  · exact RoadKit.mv hZ q t
/-- WHAT COMES BACK, over the tables of the start Z: h the heap at the call, h' behind it -/
def Q (Z : State) (x : Addr) (A : Cell) (h : Heap) (v : Option Value) (h' : Heap) (L : List Loc) : Prop := v = none ∧ (∀ y ∈ L, y.base = x) ∧ RoadKit.Keep h h' [x] ∧ h'.size = h.size + 1 ∧ RoadKit.Exa Z h' x ST ∧ RoadKit.Fld Z h' x ST "value" "[B" (.ref h.size) ∧ RoadKit.Fld Z h' x ST "coder" "B" (.int 0) ∧
  (∃ V : Cell, RoadKit.Arr Z h' h.size V .byte ∧ V.vm = .none ∧ Z.vm.findClass "[B" = some V.cls ∧ V.slots.size = A.slots.size ∧ ∀ j, j < A.slots.size → V.slots[j]? = some (.int (lo8 (cv A j)))) ∧
  ∀ (O n d : String) (w : Value), RoadKit.Fld Z h x O n d w → RoadKit.slotOf Z O n d ≠ RoadKit.slotOf Z ST "value" "[B" → RoadKit.slotOf Z O n d ≠ RoadKit.slotOf Z ST "coder" "B" → RoadKit.Fld Z h' x O n d w
/-- **new String(chars) AT A CALL, IN THE ROAD'S FORM**: for specialBack behind newO: x the fresh String, b the char[] with the cell A -/
theorem back {p : Program} {l : Launch} {e : Env} {R : Room} {s : State} {args : Array Value} {below : List Frame} {len W : Nat} {Z : State} {a0 : Array Value} {h : Heap} (hZ : Z.Warmed39 s.vm) (hw : ∀ d ∈ words, d.before a0 Z = true) {kI : Nat} (wi : (Jvm.Cond.instantiable ST kI).before a0 Z = true)
    {x b : Addr} {A : Cell} {z : Int32} {v0 c0 : Value} (E : RoadKit.Exa Z h x ST) (V : RoadKit.Fld Z h x ST "value" "[B" v0) (C : RoadKit.Fld Z h x ST "coder" "B" c0) (K : RoadKit.Arr Z h b A .char) (hty : Typed .char A) (S : RoadKit.Sta Z h ST "COMPACT_STRINGS" "Z" (.int z)) (hz : ¬ z = 0)
    (l0 : 0 < A.slots.size) (l2 : A.slots.size ≤ 536870912) (hp : ∀ i, i < A.slots.size → ¬ 255 < cv A i) (hfr : 4 ≤ R.frames) (hlo : W + 65 ≤ R.locals) :
    Back l R p e below s args New1.yN len W (fun P a => a = #[.ref x, .ref b] ∧ P.U.heap = h ∧ P.cells + 1 ≤ R.cells ∧ P.slots + A.slots.size ≤ R.slots)
      (fun P _ v B => ∃ L, Q Z x A h v B.U.heap L ∧ B.locs = P.locs ++ L ∧ B.cells = P.cells + 1 ∧ B.slots = P.slots + A.slots.size) := by
  intro m meth c P g ig mk a X hg hsize hdg hW hn hp'
  obtain ⟨rfl, rfl, r1, r2⟩ := hp'
  have al : Z.vm.Alike P.U.vm := hZ.alike.trans X.warmed.alike
  obtain ⟨D, cfV, kV, iV, fV, hD, gV, stV, knV, obV, asV, slV⟩ := id V
  obtain ⟨D', cfC, kC, iC, fC, hD', gC, stC, -, -, asC, slC⟩ := id C
  cases hD.symm.trans hD'
  obtain ⟨D2, kD, e1, e2, e3, e4, e5⟩ := id E
  cases hD.symm.trans e1
  obtain ⟨c2, k2, i1, i2, i3, -⟩ := Cond.instantiable_spec wi
  cases e2.symm.trans i1
  cases e3.symm.trans i2
  obtain ⟨kU, u1, u2⟩ := al.2.2 _ _ e3
  have hB : Blank ST x D P.U := ⟨hD, ⟨knV, fun q hq => by rw [hq] at obV; cases obV⟩, by rw [al.findClass]; exact e2, kU, u1, by rw [u2]; exact i3, by rw [u2]; exact e5 i3⟩
  have F1 : Found ST "value" "[B" fV P.U := ⟨SBG.found_only al ⟨cfV, kV, iV, gV⟩, stV⟩
  have F2 : Found ST "coder" "B" fC P.U := ⟨SBG.found_only al ⟨cfC, kC, iC, gC⟩, stC⟩
  have hA : Ch b A P.U := ⟨⟨K.1, State.isArrayOf_alike al K.2.1, K.2.2, by omega⟩, hty⟩
  have hS : StaticIs P.U ST "COMPACT_STRINGS" "Z" (.int z) := by
    obtain ⟨cfS, iS, kS, fS, st, cS, t1, t2, t3, t4, t5, t6, t7⟩ := S
    exact StaticIs.there (s := { Z with heap := P.U.heap }) ⟨cfS, iS, kS, fS, st, cS, t1, t2, t3, t4, t5, (fun q => by rw [q] at t6; cases t6), t7⟩ al rfl
  obtain ⟨v, B, X', ⟨⟨hv, E', V', q1, q2, q3, q4, q5, q6, q7, q8, q9, q10, q11⟩, hl, hc, hs⟩, st⟩ := New1.pays x D fV fC b A z (tab_of (moved hZ hw)) hfr hlo m meth c P g ig mk _ X hg hsize hdg hW hn ⟨r1, r2, rfl, hB, F1, F2, hA, hS, hz, l0, l2, hp⟩
  have al' : Z.vm.Alike B.U.vm := hZ.alike.trans X'.warmed.alike
  have hsz : E'.slots.size = D.slots.size := by
    obtain ⟨-, -, -, kB, w1, w2, w3⟩ := q1
    obtain ⟨kB', y1, y2⟩ := al'.2.2 _ _ e3
    rw [q2.2.1] at w1
    cases w1.symm.trans y1
    rw [w3, e5 i3, y2]
  refine ⟨v, B, X', ⟨_, ⟨hv, ?_, ⟨by omega, fun y cy hy hn' => q10 y cy (by simpa using hn') hy, fun y cy hy => ?_⟩, q11, ⟨E', _, q1.1, by rw [q2.2.1]; exact e2, by rw [q2.2.1]; exact e3, by rw [q2.1]; exact obV, fun _ => by rw [hsz]; exact e5 i3⟩,
    ⟨E', cfV, kV, iV, fV, q1.1, gV, stV, by rw [q2.1]; exact knV, by rw [q2.1]; exact obV, by rw [q2.2.1]; exact asV, q3⟩, ⟨E', cfC, kC, iC, fC, q1.1, gC, stC, by rw [q2.1]; exact knV, by rw [q2.1]; exact obV, by rw [q2.2.1]; exact asC, q4⟩,
    ⟨V', ⟨q5.1, State.isArrayOf_alike al'.symm q5.2.1, q5.2.2.1⟩, q6, by rw [← al'.findClass]; exact q7, q8, fun j hj => by have := q9 j hj; rwa [Nat.zero_add] at this⟩, fun O n d w F n1 n2 => ?_⟩, hl, hc, hs⟩, st⟩
  · intro y hy
    simp only [List.mem_cons, List.not_mem_nil, or_false] at hy
    rcases hy with rfl | rfl <;> rfl
  · by_cases q : y = x
    · subst q
      cases hD.symm.trans hy
      exact ⟨E', q1.1, q2.2.1, q2.1, hsz⟩
    · exact ⟨cy, q10 y cy q hy, rfl, rfl, rfl⟩
  · obtain ⟨D3, cf, k, i, f, g1, g2, g3, g4, g5, g6, g7⟩ := F
    cases hD.symm.trans g1
    simp only [RoadKit.slotOf, g2, gV, gC, Option.map_some, Option.getD_some] at n1 n2
    exact ⟨E', cf, k, i, f, q1.1, g2, g3, by rw [q2.1]; exact g4, by rw [q2.1]; exact g5, by rw [q2.2.1]; exact g6, by rw [q2.2.2 f.slot (by simp [n1, n2])]; exact g7⟩
end StrChars.Road
namespace StrChars.Road
open Jvm Sem ClassFile Op Lib Jvm.Stand Jvm.Free Jvm.Free.XT
/-- WHAT COMES BACK, the byte[] as a list of values -/
def QA (Z : State) (x : Addr) (zn : Int32) (cs : List Int32) (h : Heap) (v : Option Value) (h' : Heap) (L : List Loc) : Prop := v = none ∧ (∀ y ∈ L, y.base = x) ∧ RoadKit.Keep h h' [x] ∧ h'.size = h.size + 1 ∧ RoadKit.Exa Z h' x ST ∧ RoadKit.Fld Z h' x ST "value" "[B" (.ref h.size) ∧ RoadKit.Fld Z h' x ST "coder" "B" (.int 0) ∧
  (∃ kb, Z.vm.findClass "[B" = some kb ∧ RoadKit.Arv Z h' h.size kb .byte zn (cs.map fun c => .int (lo8 c)) (.int 0)) ∧
  ∀ (O n d : String) (w : Value), RoadKit.Fld Z h x O n d w → RoadKit.slotOf Z O n d ≠ RoadKit.slotOf Z ST "value" "[B" → RoadKit.slotOf Z O n d ≠ RoadKit.slotOf Z ST "coder" "B" → RoadKit.Fld Z h' x O n d w
/-- **new String(chars) AT A CALL, THE ARRAYS AS LISTS**: the char[] at b holds cs, not empty, no char above 255 -/
theorem backArv {p : Program} {l : Launch} {e : Env} {R : Room} {s : State} {args : Array Value} {below : List Frame} {len W : Nat} {Z : State} {a0 : Array Value} {h : Heap} (hZ : Z.Warmed39 s.vm) (hw : ∀ d ∈ words, d.before a0 Z = true) {kI : Nat} (wi : (Jvm.Cond.instantiable ST kI).before a0 Z = true)
    {x b : Addr} {k : ClassId} {zn z : Int32} {cs : List Int32} {dv v0 c0 : Value} (E : RoadKit.Exa Z h x ST) (V : RoadKit.Fld Z h x ST "value" "[B" v0) (C : RoadKit.Fld Z h x ST "coder" "B" c0) (K : RoadKit.Arv Z h b k .char zn (cs.map Value.int) dv) (S : RoadKit.Sta Z h ST "COMPACT_STRINGS" "Z" (.int z)) (hz : ¬ z = 0)
    (hlen : zn.toNatClampNeg = cs.length) (h0 : 0 < cs.length) (hbig : cs.length ≤ 536870912) (hall : ∀ c ∈ cs, ¬ 255 < c) (hfr : 4 ≤ R.frames) (hlo : W + 65 ≤ R.locals) :
    Back l R p e below s args New1.yN len W (fun P a => a = #[.ref x, .ref b] ∧ P.U.heap = h ∧ P.cells + 1 ≤ R.cells ∧ P.slots + cs.length ≤ R.slots)
      (fun P _ v B => ∃ L, QA Z x zn cs h v B.U.heap L ∧ B.locs = P.locs ++ L ∧ B.cells = P.cells + 1 ∧ B.slots = P.slots + cs.length) := by
  obtain ⟨A, K1, K2, K3, K4, K5, K6⟩ := K
  have e : A.slots.size = cs.length := K3.trans hlen
  have hat : ∀ (i : Nat) (hi : i < cs.length), A.slots[i]? = some (.int cs[i]) := fun i hi => by rw [K5 i (by omega)]; simp [List.getD_eq_getElem?_getD, hi]
  have hcv : ∀ (i : Nat) (hi : i < cs.length), cv A i = cs[i] := fun i hi => by unfold cv; rw [hat i hi]
  have hty : Typed .char A := fun i v hv => by
    have hi : i < A.slots.size := (Array.getElem?_eq_some_iff.mp hv).1
    have q := K5 i hi
    rw [hv] at q
    rw [Option.some.inj q]
    exact K6 i hi
  refine Back.mono (back hZ hw wi E V C K1 hty S hz (by omega) (by omega) (fun i hi => by rw [hcv i (by omega)]; exact hall _ (List.getElem_mem _)) hfr hlo) (fun P a hp => ⟨hp.1, hp.2.1, hp.2.2.1, by rw [e]; exact hp.2.2.2⟩) (fun P a v B hp hq => ?_)
  obtain ⟨L, ⟨q1, q2, q3, q4, q5, q6, q7, ⟨V', v1, v2, v3, v4, v5⟩, q9⟩, hl, hc, hs⟩ := hq
  refine ⟨L, ⟨q1, q2, q3, q4, q5, q6, q7, ⟨V'.cls, v3, V', v1, rfl, by rw [v4, e, hlen], K4, fun i hi => ?_, fun i hi => ?_⟩, q9⟩, hl, hc, by rw [hs, e]⟩
  · have hi' : i < cs.length := by omega
    rw [v5 i (by omega), hcv i hi']; simp [List.getD_eq_getElem?_getD, hi']
  · have hi' : i < cs.length := by omega
    simp only [List.getD_eq_getElem?_getD, List.getElem?_map, List.getElem?_eq_getElem hi', Option.map_some, Option.getD_some]
    exact fits_lo8 _
end StrChars.Road
namespace StrChars.Road
open Jvm Sem ClassFile Op Lib Jvm.Stand Jvm.Free Jvm.Free.XT
/-- WHAT COMES BACK, in the writer's own shape -/
def QV (Z : State) (x : Addr) (N : Int32) (bs : List Int32) (h : Heap) (n0 : Nat) (v : Option Value) (h' : Heap) (L : List Loc) : Prop := v = none ∧ RoadKit.Fr n0 L ∧ RoadKit.Keep h h' [x] ∧ RoadKit.Exa Z h' x ST ∧ RoadKit.Fld Z h' x ST "coder" "B" (.int 0) ∧
  ∃ (t : Addr) (kb : ClassId), n0 ≤ t ∧ h.size ≤ t ∧ ¬ t = x ∧ RoadKit.Fld Z h' x ST "value" "[B" (.ref t) ∧ RoadKit.Arv Z h' t kb .byte N (bs.map Value.int) (.int 0)
/-- **new String(chars) AT A CALL, FOR THE WRITER**: a char[] of n known ints, each 0 to 255 -/
theorem backV {p : Program} {l : Launch} {e : Env} {R : Room} {s : State} {args : Array Value} {below : List Frame} {len W : Nat} {Z : State} {a0 : Array Value} {h : Heap} (hZ : Z.Warmed39 s.vm) (hw : ∀ d ∈ words, d.before a0 Z = true) {kI : Nat} (wi : (Jvm.Cond.instantiable ST kI).before a0 Z = true)
    {x b : Addr} {kC : ClassId} {cs bs : List Int32} {d v0 c0 : Value} {z N : Int32} {n n0 : Nat} (hx0 : n0 ≤ x) (hh0 : n0 ≤ h.size) (E : RoadKit.Exa Z h x ST) (V : RoadKit.Fld Z h x ST "value" "[B" v0) (C : RoadKit.Fld Z h x ST "coder" "B" c0) (K : RoadKit.Arv Z h b kC .char N (cs.map Value.int) d) (S : RoadKit.Sta Z h ST "COMPACT_STRINGS" "Z" (.int z)) (hz : ¬ z = 0)
    (hn : cs.length = n) (hN : N = Int32.ofNat n) (l0 : 0 < n) (l2 : n ≤ 4000) (hp : ∀ c ∈ cs, ¬ c < 0 ∧ ¬ (255 : Int32) < c) (hb : bs = cs.map (fun c => c.toInt8.toInt32)) (hfr : 4 ≤ R.frames) (hlo : W + 65 ≤ R.locals) :
    Back l R p e below s args (⟨"java/lang/String", "<init>", "([C)V"⟩ : MethodName) len W (fun P a => a = #[.ref x, .ref b] ∧ P.U.heap = h ∧ P.cells + 1 ≤ R.cells ∧ P.slots + n ≤ R.slots)
      (fun P _ v B => ∃ L, QV Z x N bs h n0 v B.U.heap L ∧ B.locs = P.locs ++ L ∧ B.cells = P.cells + 1 ∧ B.slots = P.slots + n) := by
  subst hn hN hb
  refine Back.mono (backArv hZ hw wi E V C K S hz (n32 (by omega)) l0 (by omega) (fun c hc => (hp c hc).2) hfr hlo) (fun P a hp => hp) (fun P a v B hp hq => ?_)
  obtain ⟨L, ⟨q1, q2, q3, q4, q5, q6, q7, ⟨kb, v1, v2⟩, q9⟩, hl, hc, hs⟩ := hq
  exact ⟨L, ⟨q1, fun y hy => by rw [q2 y hy]; exact hx0, q3, q5, q7, h.size, kb, hh0, Nat.le_refl _, Nat.ne_of_gt E.lt, q6, by rw [List.map_map]; exact v2⟩, hl, hc, hs⟩
end StrChars.Road
namespace StrChars
open Jvm Sem ClassFile Op Lib Jvm.Stand Jvm.Free.XT Jvm.Free.ALB Jvm.Free.JM Jvm.Free
open Jvm.Lib.Cold (StaticIs)
def hi8 (x : Int32) : Int32 := lo8 (x >>> ((8 : Int32) &&& 31))
/-- what StringUTF16.getChar makes of two bytes -/
def pairCh (u v : Int32) : Int32 := (((u &&& 255) <<< ((0 : Int32) &&& 31)) ||| ((v &&& 255) <<< ((8 : Int32) &&& 31))).toUInt32.toUInt16.toUInt32.toInt32
theorem shr0 (c : Int32) : c >>> ((0 : Int32) &&& 31) = c := by
  have e : ((0 : Int32) &&& 31) = 0 := by decide
  rw [e]
  apply Int32.toBitVec_inj.mp
  rw [Int32.toBitVec_shiftRight]
  have e1 : ((0 : Int32).toBitVec.smod 32) = 0#32 := by decide
  rw [e1, BitVec.sshiftRight_eq']
  exact BitVec.sshiftRight_zero
theorem lo8_and (x : Int32) : (lo8 x &&& 255).toBitVec.toNat = x.toBitVec.toNat % 256 := by
  have h : (lo8 x).toBitVec = (x.toBitVec.signExtend 8).signExtend 32 := by rw [lo8, Int8.toBitVec_toInt32, Int32.toBitVec_toInt8]
  rw [Int32.toBitVec_and, BitVec.toNat_and, h]
  have e : ((x.toBitVec.signExtend 8).signExtend 32).toNat % 256 = x.toBitVec.toNat % 256 := by
    rw [BitVec.toNat_signExtend]
    have hlt := x.toBitVec.isLt
    simp only [BitVec.toNat_setWidth, BitVec.toNat_signExtend]
    split <;> split <;> omega
  rw [← e]
  exact Nat.and_two_pow_sub_one_eq_mod _ 8
theorem pair_says {c : Int32} (h0 : ¬ c < 0) (h1 : ¬ 65535 < c) : pairCh (lo8 c) (hi8 c) = c := by
  rw [Int32.lt_iff_toInt_lt] at h0 h1
  have e0 : (0 : Int32).toInt = 0 := rfl
  have e1 : (65535 : Int32).toInt = 65535 := rfl
  have hc : c.toInt = c.toBitVec.toNat := by
    have := c.toBitVec.isLt
    have e : c.toInt = c.toBitVec.toInt := rfl
    rw [e] at h0 h1
    rw [e]
    rw [BitVec.toInt_eq_toNat_cond] at h0 h1 ⊢
    split at h0 <;> split <;> omega
  have hn : c.toBitVec.toNat < 65536 := by omega
  have a1 := lo8_and c
  have a2 : (hi8 c &&& 255).toBitVec.toNat = c.toBitVec.toNat / 256 := by
    rw [hi8, lo8_and]
    have e : ((8 : Int32) &&& 31) = 8 := by decide
    rw [e, Int32.toBitVec_shiftRight]
    have e2 : ((8 : Int32).toBitVec.smod 32) = 8#32 := by decide
    rw [e2, BitVec.sshiftRight_eq', BitVec.toNat_sshiftRight_of_msb_false (by rw [BitVec.msb_eq_false_iff_two_mul_lt]; omega)]
    show c.toBitVec.toNat >>> 8 % 256 = _
    rw [Nat.shiftRight_eq_div_pow]
    omega
  unfold pairCh
  apply Int32.toBitVec_inj.mp
  apply BitVec.eq_of_toNat_eq
  have f0 : ((0 : Int32) &&& 31) = 0 := by decide
  have f8 : ((8 : Int32) &&& 31) = 8 := by decide
  rw [f0, f8]
  have g : (((lo8 c &&& 255) <<< (0 : Int32)) ||| ((hi8 c &&& 255) <<< (8 : Int32))).toBitVec.toNat = c.toBitVec.toNat := by
    rw [Int32.toBitVec_or, Int32.toBitVec_shiftLeft, Int32.toBitVec_shiftLeft]
    have s0 : ((0 : Int32).toBitVec.smod 32) = 0#32 := by decide
    have s8 : ((8 : Int32).toBitVec.smod 32) = 8#32 := by decide
    rw [s0, s8, BitVec.toNat_or]
    simp only [BitVec.shiftLeft_eq', BitVec.toNat_shiftLeft, a1, a2]
    show (c.toBitVec.toNat % 256) <<< 0 % 2 ^ 32 ||| (c.toBitVec.toNat / 256) <<< 8 % 2 ^ 32 = _
    rw [Nat.shiftLeft_zero, Nat.mod_eq_of_lt (show c.toBitVec.toNat % 256 < 2 ^ 32 by omega), Nat.mod_eq_of_lt (show (c.toBitVec.toNat / 256) <<< 8 < 2 ^ 32 by rw [Nat.shiftLeft_eq]; omega), Nat.or_comm, ← Nat.shiftLeft_add_eq_or_of_lt (by omega), Nat.shiftLeft_eq]
    omega
  show BitVec.toNat (((((lo8 c &&& 255) <<< (0 : Int32)) ||| ((hi8 c &&& 255) <<< (8 : Int32))).toBitVec.setWidth 16).setWidth 32) = _
  rw [BitVec.toNat_setWidth, BitVec.toNat_setWidth, g]
  omega
end StrChars
namespace StrChars
open Jvm Sem ClassFile Op Lib Jvm.Stand Jvm.Free.XT Jvm.Free.ALB Jvm.Free.JM Jvm.Free
open Jvm.Lib.Cold (StaticIs)
theorem shr1 {n : Nat} (h : 2 * n < 2 ^ 31) : Int32.ofNat (2 * n) >>> ((1 : Int32) &&& 31) = Int32.ofNat n := by
  have e : ((1 : Int32) &&& 31) = 1 := by decide
  rw [e]
  apply Int32.toBitVec_inj.mp
  rw [Int32.toBitVec_shiftRight]
  have e1 : ((1 : Int32).toBitVec.smod 32) = 1#32 := by decide
  have hm : (BitVec.ofNat 32 (2 * n)).toNat = 2 * n := by rw [BitVec.toNat_ofNat, Nat.mod_eq_of_lt (by omega)]
  rw [e1, BitVec.sshiftRight_eq']
  apply BitVec.eq_of_toNat_eq
  show ((BitVec.ofNat 32 (2 * n)).sshiftRight 1).toNat = (BitVec.ofNat 32 n).toNat
  rw [BitVec.toNat_sshiftRight_of_msb_false (by rw [BitVec.msb_eq_false_iff_two_mul_lt, hm]; omega), hm, BitVec.toNat_ofNat, Nat.shiftRight_eq_div_pow]
  omega
/-- charAt's cast of a byte read back -/
def chr8 (u : Int32) : Int32 := (u &&& 255).toUInt32.toUInt16.toUInt32.toInt32
theorem chr8_lo8 {c : Int32} (h0 : ¬ c < 0) (h1 : ¬ 255 < c) : chr8 (lo8 c) = c := by
  have t : ∀ k : Fin 256, (Int32.ofNat k.val).toUInt32.toUInt16.toUInt32.toInt32 = Int32.ofNat k.val := by decide +kernel
  unfold chr8
  rw [lo8_mask h0 h1]
  rw [Int32.lt_iff_toInt_lt] at h0 h1
  have e0 : (0 : Int32).toInt = 0 := rfl
  have e1 : (255 : Int32).toInt = 255 := rfl
  obtain ⟨k, hk⟩ : ∃ k : Nat, c.toInt = k := ⟨c.toInt.toNat, by omega⟩
  have hx : c = Int32.ofNat k := Int32.toInt_inj.mp (by rw [hk, Int32.toInt_ofNat_small (by omega)])
  rw [hx]
  exact t ⟨k, by omega⟩
theorem narrow_ch {c : Int32} (h0 : ¬ c < 0) (h1 : ¬ 65535 < c) : narrow .char (.int c) = .int c := by
  have q : narrow .char (.int (pairCh (lo8 c) (hi8 c))) = .int (pairCh (lo8 c) (hi8 c)) := narrow_c _
  rwa [pair_says h0 h1] at q
/-- the array's cell V codes the n chars f 0 .. f (n - 1) by the coder cd, as the JDK does: coder 1 just where some char is above 255 -/
def Cod (cd : Int32) (n : Nat) (f : Nat → Int32) (V : Cell) : Prop := (cd = 0 ∧ V.slots.size = n ∧ ∀ j, j < n → V.slots[j]? = some (.int (lo8 (f j))) ∧ ¬ 255 < f j) ∨ (cd = 1 ∧ V.slots.size = 2 * n ∧ (∀ j, j < n → V.slots[2 * j]? = some (.int (lo8 (f j))) ∧ V.slots[2 * j + 1]? = some (.int (hi8 (f j)))) ∧ ∃ j, j < n ∧ 255 < f j)
theorem Cod.cd {cd : Int32} {n : Nat} {f : Nat → Int32} {V : Cell} (h : Cod cd n f V) : cd = 0 ∨ cd = 1 := h.imp (fun q => q.1) fun q => q.1
theorem Cod.len {cd : Int32} {n : Nat} {f : Nat → Int32} {V : Cell} (h : Cod cd n f V) (hs : V.slots.size < 2 ^ 31) : Int32.ofNat V.slots.size >>> (cd &&& 31) = Int32.ofNat n := by
  rcases h with ⟨rfl, h, -⟩ | ⟨rfl, h, -⟩
  · rw [shr0, h]
  · rw [h, shr1 (by omega)]
/-- **x is a String of the n chars f 0 .. f (n - 1)**, Latin-1 or UTF-16; its array at t has the cell V -/
def Txt (x t : Addr) (V : Cell) (cd : Int32) (n : Nat) (f : Nat → Int32) (U : State) : Prop := Exact "java/lang/String" x U ∧ Has x "java/lang/String" "value" "[B" (.ref t) U ∧ Has x "java/lang/String" "coder" "B" (.int cd) U ∧ XT.Arr .byte t V U ∧ Cod cd n f V ∧ ∀ j, j < n → ¬ f j < 0 ∧ ¬ 65535 < f j
theorem Txt.mv {x t : Addr} {V : Cell} {cd : Int32} {n : Nat} {f : Nat → Int32} {U U' : State} (h : Txt x t V cd n f U) (hal : U.vm.Alike U'.vm) (hh : U'.heap = U.heap) : Txt x t V cd n f U' := ⟨h.1.mv hal hh, h.2.1.mv hal hh, h.2.2.1.mv hal hh, h.2.2.2.1.mv hal hh, h.2.2.2.2⟩
namespace Cdr
def yN : MethodName := ⟨"java/lang/String", "coder", "()B"⟩
abbrev yB : ByteArray := jdk_42_method_152_code
theorem d0 : decode yB 0 = .ok (.getstatic 38, 3) := by decide +kernel
theorem d3 : decode yB 3 = .ok (.ifCond (.eq) 10, 3) := by decide +kernel
theorem d6 : decode yB 6 = .ok (.aload_n 0, 1) := by decide +kernel
theorem d7 : decode yB 7 = .ok (.getfield 15, 3) := by decide +kernel
theorem d10 : decode yB 10 = .ok (.goto 4, 3) := by decide +kernel
theorem d14 : decode yB 14 = .ok (.ireturn, 1) := by decide +kernel
def site : List Cond := [.fieldLink "java/lang/String" 38 "java/lang/String" "COMPACT_STRINGS" "Z", .fieldLink "java/lang/String" 15 "java/lang/String" "coder" "B"]
def tab : Cond := tabOf yN yB 1 (some .byte) site
def P (x : Addr) (cd z : Int32) (args : Array Value) (s : State) : Prop := args = #[.ref x] ∧ Has x "java/lang/String" "coder" "B" (.int cd) s ∧ (cd = 0 ∨ cd = 1) ∧ StaticIs s "java/lang/String" "COMPACT_STRINGS" "Z" (.int z) ∧ ¬ z = 0
def E (cd : Int32) (r : Option Value) (s u : State) : Prop := XT.PureE (some (.int cd)) r s u
theorem law (l : Launch) (x : Addr) (cd z : Int32) : Law l yN 1 0 0 0 yB 1 (some .byte) site (P x cd z) (E cd) [] 0 0 := by
  refine Law.of_walk (plainFor_of_name (by decide +kernel)) (by decide +kernel) (by decide +kernel) (by decide) (fun _ _ h => by rw [h.1]; rfl) (fun _ U U' hal hh h => ⟨h.1, h.2.1.mv hal hh, h.2.2.1, h.2.2.2.1.there hal hh, h.2.2.2.2⟩) (fun r U U' V V' h1 hal h2 h => XT.PureE.mv r U U' V V' h1 hal h2 h) ?_
  intro p e s m args below meth c s₁ X0 hexec hbytes hml hret hlk hnm hown hh0 W hP
  obtain ⟨rfl, hx, hc, s1, hz⟩ := hP
  have c1 : Steps p.tables e below (s₁.setTop (entryFrame m #[.ref x] 1)) (s₁.setTop (mkF m 0 #[.val (.ref x)] [])) := entry rfl
  obtain ⟨T2, X2, q2, st2⟩ := X0.sget hexec hown (wk W (.fieldLink "java/lang/String" 38 "java/lang/String" "COMPACT_STRINGS" "Z")) s1 (fun _ _ h => by rw [hh0]; exact h) (g := (mkF m 0 #[.val (.ref x)] [])) rfl (hb hbytes d0)
  have hh2 := q2.trans hh0
  have c3 : Steps p.tables e below (s₁.setTop (entryFrame m #[.ref x] 1)) (T2.setTop (mkF m 7 #[.val (.ref x)] [.ref x])) := (c1.trans (st2 _ (Steps.refl _))).trans (by
    refine XS.ifNo X2.here hexec rfl (hb hbytes d3) rfl (i0_eq_f hz) ?_
    refine XS.aloadN X2.here hexec rfl (hb hbytes d6) rfl rfl ?_
    exact Steps.refl _)
  obtain ⟨T4, X4, q4, st4⟩ := X2.hget hexec hown (wk W (.fieldLink "java/lang/String" 15 "java/lang/String" "coder" "B")) (hx.mv X2.warmed.alike hh2) (g := (mkF m 7 #[.val (.ref x)] [.ref x])) rfl (rest := []) rfl (hb hbytes d7)
  have c5 : Steps p.tables e below (s₁.setTop (entryFrame m #[.ref x] 1)) (T4.setTop (mkF m 14 #[.val (.ref x)] [.int cd])) := (c3.trans (st4 _ (Steps.refl _))).trans (by
    refine XS.goto X4.here hexec rfl (pc0 := 10) rfl (hb hbytes d10) (by decide) rfl ?_
    exact Steps.refl _)
  exact ⟨T4, some (.int cd), _, _, _, X4, rfl, rfl, rfl, (fun h => by cases h), ⟨rfl, q4.trans hh2⟩, fun fs hl => c5.trans (X4.ireturnOut hexec hret (by rcases hc with rfl | rfl <;> rfl) (Or.inr (Or.inr (Or.inl rfl))) (hb hbytes d14) hl)⟩
end Cdr
namespace Len
def yN : MethodName := ⟨"java/lang/String", "length", "()I"⟩
abbrev yB : ByteArray := jdk_42_method_54_code
theorem d0 : decode yB 0 = .ok (.aload_n 0, 1) := by decide +kernel
theorem d1 : decode yB 1 = .ok (.getfield 9, 3) := by decide +kernel
theorem d4 : decode yB 4 = .ok (.arraylength, 1) := by decide +kernel
theorem d5 : decode yB 5 = .ok (.aload_n 0, 1) := by decide +kernel
theorem d6 : decode yB 6 = .ok (.invokevirtual 335, 3) := by decide +kernel
theorem d9 : decode yB 9 = .ok (.ishr, 1) := by decide +kernel
theorem d10 : decode yB 10 = .ok (.ireturn, 1) := by decide +kernel
def site : List Cond := [.fieldLink "java/lang/String" 9 "java/lang/String" "value" "[B", Cdr.tab] ++ virtW "java/lang/String" 335 "java/lang/String" Cdr.yN Cdr.yN
def tab : Cond := tabOf yN yB 1 (some .int) site
def P (x t : Addr) (V : Cell) (cd : Int32) (n : Nat) (f : Nat → Int32) (z : Int32) (args : Array Value) (s : State) : Prop := args = #[.ref x] ∧ Txt x t V cd n f s ∧ StaticIs s "java/lang/String" "COMPACT_STRINGS" "Z" (.int z) ∧ ¬ z = 0
def E (n : Nat) (r : Option Value) (s u : State) : Prop := XT.PureE (some (.int (Int32.ofNat n))) r s u
/-- length() of a String of n chars, in either coding -/
theorem law (l : Launch) (x t : Addr) (V : Cell) (cd : Int32) (n : Nat) (f : Nat → Int32) (z : Int32) : Law l yN 1 0 1 13 yB 1 (some .int) site (P x t V cd n f z) (E n) [] 0 0 := by
  refine Law.of_walk (plainFor_of_name (by decide +kernel)) (by decide +kernel) (by decide +kernel) (by decide) (fun _ _ h => by rw [h.1]; rfl) (fun _ U U' hal hh h => ⟨h.1, h.2.1.mv hal hh, h.2.2.1.there hal hh, h.2.2.2⟩) (fun r U U' V V' h1 hal h2 h => XT.PureE.mv r U U' V V' h1 hal h2 h) ?_
  intro p e s m args below meth c s₁ X0 hexec hbytes hml hret hlk hnm hown hh0 W hP
  obtain ⟨rfl, hx, s1, hz⟩ := hP
  have v31 := hx.2.2.2.1.2.2.2
  have c1 : Steps p.tables e below (s₁.setTop (entryFrame m #[.ref x] 1)) (s₁.setTop (mkF m 1 #[.val (.ref x)] [.ref x])) := Steps.trans (entry rfl) (by
    show Steps p.tables e below (s₁.setTop (mkF m 0 #[.val (.ref x)] [])) _
    refine XS.aloadN X0.here hexec rfl (hb hbytes d0) rfl rfl ?_
    exact Steps.refl _)
  obtain ⟨T2, X2, q2, st2⟩ := X0.hget hexec hown (wk W (.fieldLink "java/lang/String" 9 "java/lang/String" "value" "[B")) (hx.mv X0.warmed.alike hh0).2.1 (g := (mkF m 1 #[.val (.ref x)] [.ref x])) rfl (rest := []) rfl (hb hbytes d1)
  have hh2 := q2.trans hh0
  have hx2 := hx.mv X2.warmed.alike hh2
  have c3 : Steps p.tables e below (s₁.setTop (entryFrame m #[.ref x] 1)) (T2.setTop (mkF m 6 #[.val (.ref x)] [.ref x, .int (Int32.ofNat V.slots.size)])) := (c1.trans (st2 _ (Steps.refl _))).trans (by
    refine X2.alen hexec hx2.2.2.2.1 rfl rfl (hb hbytes d4) ?_
    refine XS.aloadN X2.here hexec rfl (hb hbytes d5) rfl rfl ?_
    exact Steps.refl _)
  obtain ⟨v4, T4, X4, E4, g4⟩ := X2.callV hexec (Cdr.law l x cd z) hown (wks W (virtW "java/lang/String" 335 "java/lang/String" Cdr.yN Cdr.yN)) rfl (by decide) (wk W Cdr.tab) (W := 1) (Nat.le_of_ble_eq_true rfl) (Nat.le_of_ble_eq_true rfl) (Nat.le_refl _) (Nat.le_refl _) (hx2.1.fc X2.warmed.alike) hx2.1.is (g := (mkF m 6 #[.val (.ref x)] [.ref x, .int (Int32.ofNat V.slots.size)])) rfl (by rw [hml]; rfl) c3 (argsL := []) (rest := [.int (Int32.ofNat V.slots.size)]) rfl rfl (by show 2 * 0 + (1 + 0) ≤ _; decide) (hb hbytes d6) (⟨rfl, hx2.2.2.1, hx.2.2.2.2.1.cd, s1.there X2.warmed.alike hh2, hz⟩)
  obtain ⟨rfl, q4⟩ := E4
  have c5 : Steps p.tables e below (s₁.setTop (entryFrame m #[.ref x] 1)) (T4.setTop (mkF m 10 #[.val (.ref x)] [.int (Int32.ofNat V.slots.size >>> (cd &&& 31))])) := Steps.trans g4 (by
    refine ishr X4.here hexec rfl (hb hbytes d9) rfl ?_
    exact Steps.refl _)
  rw [hx.2.2.2.2.1.len v31] at c5
  exact ⟨T4, some (.int (Int32.ofNat n)), _, _, _, X4, rfl, rfl, rfl, (fun h => by cases h), ⟨rfl, q4.trans hh2⟩, fun fs hl => c5.trans (X4.ireturnOut hexec hret rfl (Or.inl rfl) (hb hbytes d10) hl)⟩
theorem pays {l : Launch} {R : Room} {p : Program} {e : Env} {below : List Frame} {s : State} {sargs : Array Value} {len W : Nat} (x t : Addr) (V : Cell) (cd : Int32) (n : Nat) (f : Nat → Int32) (z : Int32) (htab : tab.before sargs s = true) (hfr : 2 ≤ R.frames) (hlo : W + 25 ≤ R.locals) :
    Back l R p e below s sargs yN len W (fun A₁ a₁ => A₁.cells + 0 ≤ R.cells ∧ A₁.slots + 0 ≤ R.slots ∧ P x t V cd n f z a₁ A₁.U) (fun A₁ _ v₁ B₁ => E n v₁ A₁.U B₁.U ∧ B₁.locs = A₁.locs ++ [] ∧ B₁.cells = A₁.cells + 0 ∧ B₁.slots = A₁.slots + 0) :=
  (law l x t V cd n f z).pays htab hfr (by omega)
end Len
namespace IsL
def yN : MethodName := ⟨"java/lang/String", "isLatin1", "()Z"⟩
abbrev yB : ByteArray := jdk_42_method_154_code
theorem d0 : decode yB 0 = .ok (.getstatic 38, 3) := by decide +kernel
theorem d3 : decode yB 3 = .ok (.ifCond (.eq) 14, 3) := by decide +kernel
theorem d6 : decode yB 6 = .ok (.aload_n 0, 1) := by decide +kernel
theorem d7 : decode yB 7 = .ok (.getfield 15, 3) := by decide +kernel
theorem d10 : decode yB 10 = .ok (.ifCond (.ne) 7, 3) := by decide +kernel
theorem d13 : decode yB 13 = .ok (.iconst 1, 1) := by decide +kernel
theorem d14 : decode yB 14 = .ok (.goto 4, 3) := by decide +kernel
theorem d17 : decode yB 17 = .ok (.iconst 0, 1) := by decide +kernel
theorem d18 : decode yB 18 = .ok (.ireturn, 1) := by decide +kernel
def site : List Cond := [.fieldLink "java/lang/String" 38 "java/lang/String" "COMPACT_STRINGS" "Z", .fieldLink "java/lang/String" 15 "java/lang/String" "coder" "B"]
def tab : Cond := tabOf yN yB 1 (some .boolean) site
def P (x : Addr) (cd z : Int32) (args : Array Value) (s : State) : Prop := args = #[.ref x] ∧ Has x "java/lang/String" "coder" "B" (.int cd) s ∧ (cd = 0 ∨ cd = 1) ∧ StaticIs s "java/lang/String" "COMPACT_STRINGS" "Z" (.int z) ∧ ¬ z = 0
def E (cd : Int32) (r : Option Value) (s u : State) : Prop := XT.PureE (some (.int (1 - cd))) r s u
theorem law (l : Launch) (x : Addr) (cd z : Int32) : Law l yN 1 0 0 0 yB 1 (some .boolean) site (P x cd z) (E cd) [] 0 0 := by
  refine Law.of_walk (plainFor_of_name (by decide +kernel)) (by decide +kernel) (by decide +kernel) (by decide) (fun _ _ h => by rw [h.1]; rfl) (fun _ U U' hal hh h => ⟨h.1, h.2.1.mv hal hh, h.2.2.1, h.2.2.2.1.there hal hh, h.2.2.2.2⟩) (fun r U U' V V' h1 hal h2 h => XT.PureE.mv r U U' V V' h1 hal h2 h) ?_
  intro p e s m args below meth c s₁ X0 hexec hbytes hml hret hlk hnm hown hh0 W hP
  obtain ⟨rfl, hx, hc, s1, hz⟩ := hP
  have c1 : Steps p.tables e below (s₁.setTop (entryFrame m #[.ref x] 1)) (s₁.setTop (mkF m 0 #[.val (.ref x)] [])) := entry rfl
  obtain ⟨T2, X2, q2, st2⟩ := X0.sget hexec hown (wk W (.fieldLink "java/lang/String" 38 "java/lang/String" "COMPACT_STRINGS" "Z")) s1 (fun _ _ h => by rw [hh0]; exact h) (g := (mkF m 0 #[.val (.ref x)] [])) rfl (hb hbytes d0)
  have hh2 := q2.trans hh0
  have c3 : Steps p.tables e below (s₁.setTop (entryFrame m #[.ref x] 1)) (T2.setTop (mkF m 7 #[.val (.ref x)] [.ref x])) := (c1.trans (st2 _ (Steps.refl _))).trans (by
    refine XS.ifNo X2.here hexec rfl (hb hbytes d3) rfl (i0_eq_f hz) ?_
    refine XS.aloadN X2.here hexec rfl (hb hbytes d6) rfl rfl ?_
    exact Steps.refl _)
  obtain ⟨T4, X4, q4, st4⟩ := X2.hget hexec hown (wk W (.fieldLink "java/lang/String" 15 "java/lang/String" "coder" "B")) (hx.mv X2.warmed.alike hh2) (g := (mkF m 7 #[.val (.ref x)] [.ref x])) rfl (rest := []) rfl (hb hbytes d7)
  have c5 : Steps p.tables e below (s₁.setTop (entryFrame m #[.ref x] 1)) (T4.setTop (mkF m 10 #[.val (.ref x)] [.int cd])) := c3.trans (st4 _ (Steps.refl _))
  have c6 : Steps p.tables e below (s₁.setTop (entryFrame m #[.ref x] 1)) (T4.setTop (mkF m 18 #[.val (.ref x)] [.int (1 - cd)])) := by
    rcases hc with rfl | rfl
    · exact c5.trans (by
        refine XS.ifNo X4.here hexec rfl (hb hbytes d10) rfl (i0_ne_f rfl) ?_
        refine iconstV X4.here hexec rfl 1 (hb hbytes d13) (by decide) ?_
        refine XS.goto X4.here hexec rfl (pc0 := 14) rfl (hb hbytes d14) (by decide) rfl ?_
        exact Steps.refl _)
    · exact c5.trans (by
        refine XS.ifYes X4.here hexec rfl (pc0 := 10) rfl (hb hbytes d10) rfl (i0_ne_t (by decide)) (by decide) rfl ?_
        refine iconstV X4.here hexec rfl 0 (hb hbytes d17) (by decide) ?_
        exact Steps.refl _)
  exact ⟨T4, some (.int (1 - cd)), _, _, _, X4, rfl, rfl, rfl, (fun h => by cases h), ⟨rfl, q4.trans hh2⟩, fun fs hl => c6.trans (X4.ireturnOut hexec hret (by rcases hc with rfl | rfl <;> rfl) (Or.inr (Or.inl rfl)) (hb hbytes d18) hl)⟩
end IsL
namespace LChA
def yN : MethodName := ⟨"java/lang/StringLatin1", "charAt", "([BI)C"⟩
abbrev yB : ByteArray := jdk_43_method_2_code
theorem d0 : decode yB 0 = .ok (.iload_n 1, 1) := by decide +kernel
theorem d1 : decode yB 1 = .ok (.aload_n 0, 1) := by decide +kernel
theorem d2 : decode yB 2 = .ok (.arraylength, 1) := by decide +kernel
theorem d3 : decode yB 3 = .ok (.invokestatic 9, 3) := by decide +kernel
theorem d6 : decode yB 6 = .ok (.aload_n 0, 1) := by decide +kernel
theorem d7 : decode yB 7 = .ok (.iload_n 1, 1) := by decide +kernel
theorem d8 : decode yB 8 = .ok (.baload, 1) := by decide +kernel
theorem d9 : decode yB 9 = .ok (.sipush 255, 3) := by decide +kernel
theorem d12 : decode yB 12 = .ok (.iand, 1) := by decide +kernel
theorem d13 : decode yB 13 = .ok (.i2c, 1) := by decide +kernel
theorem d14 : decode yB 14 = .ok (.ireturn, 1) := by decide +kernel
def site : List Cond := [JO.Str_checkIndex.tab] ++ staticW "java/lang/StringLatin1" 9 JO.Str_checkIndex.yN
def tab : Cond := tabOf yN yB 2 (some .char) site
def P (t : Addr) (V : Cell) (i : Nat) (u : Int32) (fm : Value) (args : Array Value) (s : State) : Prop := args = #[.ref t, .int (Int32.ofNat i)] ∧ XT.Arr .byte t V s ∧ V.slots[i]? = some (.int u) ∧ (StaticIs s "jdk/internal/util/Preconditions" "SIOOBE_FORMATTER" "Ljava/util/function/BiFunction;" fm ∧ fm.isRef = true)
def E (u : Int32) (r : Option Value) (s w : State) : Prop := XT.PureE (some (.int (chr8 u))) r s w
theorem law (l : Launch) (t : Addr) (V : Cell) (i : Nat) (u : Int32) (fm : Value) : Law l yN 2 2 2 27 yB 2 (some .char) site (P t V i u fm) (E u) [] 0 0 := by
  refine Law.of_walk (plainFor_of_name (by decide +kernel)) (by decide +kernel) (by decide +kernel) (by decide) (fun _ _ h => by rw [h.1]; rfl) (fun _ U U' hal hh h => ⟨h.1, h.2.1.mv hal hh, h.2.2.1, h.2.2.2.1.there hal hh, h.2.2.2.2⟩) (fun r U U' V V' h1 hal h2 h => XT.PureE.mv r U U' V V' h1 hal h2 h) ?_
  intro p e s m args below meth c s₁ X0 hexec hbytes hml hret hlk hnm hown hh0 W hP
  obtain ⟨rfl, hV, hu, s1, rf⟩ := hP
  have v31 := hV.2.2.2
  have hi : i < V.slots.size := (Array.getElem?_eq_some_iff.mp hu).1
  have c1 : Steps p.tables e below (s₁.setTop (entryFrame m #[.ref t, .int (Int32.ofNat i)] 2)) (s₁.setTop (mkF m 0 #[.val (.ref t), .val (.int (Int32.ofNat i))] [])) := entry rfl
  have c2 : Steps p.tables e below (s₁.setTop (entryFrame m #[.ref t, .int (Int32.ofNat i)] 2)) (s₁.setTop (mkF m 3 #[.val (.ref t), .val (.int (Int32.ofNat i))] [.int (Int32.ofNat V.slots.size), .int (Int32.ofNat i)])) := c1.trans (by
    refine XS.iloadN X0.here hexec rfl (hb hbytes d0) rfl ?_
    refine XS.aloadN X0.here hexec rfl (hb hbytes d1) rfl rfl ?_
    refine X0.alen hexec (hV.mv X0.warmed.alike hh0) rfl rfl (hb hbytes d2) ?_
    exact Steps.refl _)
  obtain ⟨v3, T3, X3, E3, g3⟩ := X0.callS hexec (JO.Str_checkIndex.law l (Int32.ofNat i) (Int32.ofNat V.slots.size) fm) hown (wks W (staticW "java/lang/StringLatin1" 9 JO.Str_checkIndex.yN)) (wk W JO.Str_checkIndex.tab) (W := 0) (Nat.le_of_ble_eq_true rfl) (Nat.le_of_ble_eq_true rfl) (Nat.le_refl _) (Nat.le_refl _) (g := (mkF m 3 #[.val (.ref t), .val (.int (Int32.ofNat i))] [.int (Int32.ofNat V.slots.size), .int (Int32.ofNat i)])) rfl (by rw [hml]; rfl) c2 (argsL := [.int (Int32.ofNat i), .int (Int32.ofNat V.slots.size)]) (rest := []) rfl rfl (by show 2 * 0 + 0 ≤ _; decide) (hb hbytes d3) (⟨rfl, rf, s1.there X0.warmed.alike hh0, Int32.ofNat_not_neg (by omega), lt32 v31 hi⟩)
  obtain ⟨rfl, q3⟩ := E3
  have hh3 := q3.trans hh0
  have c4 : Steps p.tables e below (s₁.setTop (entryFrame m #[.ref t, .int (Int32.ofNat i)] 2)) (T3.setTop (mkF m 14 #[.val (.ref t), .val (.int (Int32.ofNat i))] [.int (chr8 u)])) := Steps.trans g3 (by
    refine XS.aloadN X3.here hexec rfl (hb hbytes d6) rfl rfl ?_
    refine XS.iloadN X3.here hexec rfl (hb hbytes d7) rfl ?_
    refine X3.aget hexec (hV.mv X3.warmed.alike hh3) rfl hu rfl rfl (hb hbytes d8) ?_
    refine sipushV X3.here hexec rfl 255 (hb hbytes d9) (by decide) ?_
    refine XS.iand X3.here hexec rfl (hb hbytes d12) rfl ?_
    refine i2c X3.here hexec rfl (hb hbytes d13) rfl ?_
    exact Steps.refl _)
  exact ⟨T3, some (.int (chr8 u)), _, _, _, X3, rfl, rfl, rfl, (fun h => by cases h), ⟨rfl, hh3⟩, fun fs hl => c4.trans (X3.ireturnOut hexec hret (narrow_c _) (Or.inr (Or.inr (Or.inr (Or.inl rfl)))) (hb hbytes d14) hl)⟩
end LChA
end StrChars
namespace StrChars.Road
open Jvm Sem ClassFile Op Lib Jvm.Stand Jvm.Free Jvm.Free.XT
open Jvm.Lib.Cold (StaticIs)
theorem consq {a : Array Value} {s : State} {c : Jvm.Cond} {L : List Jvm.Cond} (h0 : c.before a s = true) (h : ∀ w ∈ L, w.before a s = true) : ∀ w ∈ c :: L, w.before a s = true := fun w hw => (List.mem_cons.mp hw).elim (fun e => e ▸ h0) (h w)
/-- the words of String.length(), either coding -/
abbrev wordsLen : List Jvm.Cond := [.code Len.yN Len.yB 1 (some .int), .initialized ST, .fieldLink ST 9 ST "value" "[B", .fieldLink ST 38 ST "COMPACT_STRINGS" "Z", .fieldLink ST 15 ST "coder" "B", .code Cdr.yN Cdr.yB 1 (some .byte), .methodLink ST 335 Cdr.yN, .declares Cdr.yN, .selects ST Cdr.yN Cdr.yN, .instanceMethod Cdr.yN]
theorem tabLen_of {a : Array Value} {s : State} (h : ∀ w ∈ wordsLen, w.before a s = true) : Len.tab.before a s = true := by
  have hc : Cdr.tab.before a s = true := unparts (wk h (.code Cdr.yN Cdr.yB 1 (some .byte))) (wks h (.initialized Cdr.yN.cls :: Cdr.site))
  have q := consq hc h
  exact unparts (wk q (.code Len.yN Len.yB 1 (some .int))) (wks q (.initialized Len.yN.cls :: Len.site))
theorem movedLen {Z s : State} {a0 args : Array Value} (hZ : Z.Warmed39 s.vm) (hw : ∀ d ∈ wordsLen, d.before a0 Z = true) : ∀ d ∈ wordsLen, d.before args s = true := fun d hd => by
  have q := hw d hd
  have t : ∀ d ∈ wordsLen, d = .arrayClass .byte ∨ (d.onTables && d.keepsFace) = true := by decide +kernel
  rcases t d hd with rfl | t
  · exact RoadKit.mvA hZ q
  · exact RoadKit.mv hZ q t
/-- the bytes of the chars cs, low before high -/
def wideBytes : List Int32 → List Value
  | [] => []
  | c :: cs => .int (lo8 c) :: .int (hi8 c) :: wideBytes cs
theorem wide_lo (d : Value) : ∀ (cs : List Int32) (j : Nat), j < cs.length → (wideBytes cs).getD (2 * j) d = .int (lo8 (cs.getD j 0))
  | [], j, h => absurd h (Nat.not_lt_zero j)
  | c :: cs, 0, _ => rfl
  | c :: cs, j + 1, h => by
    have q := wide_lo d cs j (by simpa using h)
    rw [show 2 * (j + 1) = 2 * j + 1 + 1 from by omega]
    simpa [wideBytes] using q
theorem wide_hi (d : Value) : ∀ (cs : List Int32) (j : Nat), j < cs.length → (wideBytes cs).getD (2 * j + 1) d = .int (hi8 (cs.getD j 0))
  | [], j, h => absurd h (Nat.not_lt_zero j)
  | c :: cs, 0, _ => rfl
  | c :: cs, j + 1, h => by
    have q := wide_hi d cs j (by simpa using h)
    rw [show 2 * (j + 1) + 1 = 2 * j + 1 + 1 + 1 from by omega]
    simpa [wideBytes] using q
theorem low_at (d : Value) (cs : List Int32) (j : Nat) (h : j < cs.length) : (cs.map fun c => Value.int (lo8 c)).getD j d = .int (lo8 (cs.getD j 0)) := by
  simp [List.getD_eq_getElem?_getD, h]
/-- an array of N2 bytes vs codes the chars cs by the coder cd -/
def CodA (cs : List Int32) (cd N2 : Int32) (vs : List Value) : Prop := (cd = 0 ∧ N2 = Int32.ofNat cs.length ∧ vs = (cs.map fun c => Value.int (lo8 c)) ∧ ∀ c ∈ cs, ¬ 255 < c) ∨ (cd = 1 ∧ N2 = Int32.ofNat (2 * cs.length) ∧ vs = wideBytes cs ∧ ∃ c ∈ cs, 255 < c)
theorem CodA.cod {cs : List Int32} {cd N2 : Int32} {vs : List Value} {V : Cell} (h : CodA cs cd N2 vs) (hn : 2 * cs.length < 2 ^ 31) (hs : V.slots.size = N2.toNatClampNeg) (hv : RoadKit.Has V vs (.int 0)) : Cod cd cs.length (fun j => cs.getD j 0) V := by
  rcases h with ⟨rfl, rfl, rfl, h⟩ | ⟨rfl, rfl, rfl, c, hc, hw⟩
  · rw [n32 (by omega)] at hs
    exact Or.inl ⟨rfl, hs, fun j hj => ⟨by rw [hv j (by omega), low_at _ _ _ hj], by
      have e : cs.getD j 0 = cs[j] := by simp [List.getD_eq_getElem?_getD, hj]
      show ¬ 255 < cs.getD j 0
      rw [e]; exact h _ (List.getElem_mem _)⟩⟩
  · rw [n32 (by omega)] at hs
    obtain ⟨j, hj, rfl⟩ := List.getElem_of_mem hc
    exact Or.inr ⟨rfl, hs, fun j hj => ⟨by rw [hv _ (by omega), wide_lo _ _ _ hj], by rw [hv _ (by omega), wide_hi _ _ _ hj]⟩, j, hj, by
      have e : cs.getD j 0 = cs[j] := by simp [List.getD_eq_getElem?_getD, hj]
      show 255 < cs.getD j 0
      rw [e]; exact hw⟩
/-- an object of exactly java/lang/String, its two fields found: as the laws ask it -/
theorem strObj {Z U : State} {a0 : Array Value} {kI : Nat} (wi : (Jvm.Cond.instantiable ST kI).before a0 Z = true) (al : Z.vm.Alike U.vm) {x : Addr} {v0 c0 : Value} (E : RoadKit.Exa Z U.heap x ST) (V : RoadKit.Fld Z U.heap x ST "value" "[B" v0) (C : RoadKit.Fld Z U.heap x ST "coder" "B" c0) :
    ∃ (D : Cell) (fV fC : Field), Blank ST x D U ∧ Found ST "value" "[B" fV U ∧ Found ST "coder" "B" fC U ∧ D.slots[fV.slot]? = some v0 ∧ D.slots[fC.slot]? = some c0 ∧ RoadKit.slotOf Z ST "value" "[B" = fV.slot ∧ RoadKit.slotOf Z ST "coder" "B" = fC.slot := by
  obtain ⟨D, cfV, kV, iV, fV, hD, gV, stV, knV, obV, asV, slV⟩ := V
  obtain ⟨D', cfC, kC, iC, fC, hD', gC, stC, -, -, asC, slC⟩ := C
  cases hD.symm.trans hD'
  obtain ⟨D2, kD, e1, e2, e3, e4, e5⟩ := E
  cases hD.symm.trans e1
  obtain ⟨c2, k2, i1, i2, i3, -⟩ := Cond.instantiable_spec wi
  cases e2.symm.trans i1
  cases e3.symm.trans i2
  obtain ⟨kU, u1, u2⟩ := al.2.2 _ _ e3
  exact ⟨D, fV, fC, ⟨hD, ⟨knV, fun q hq => by rw [hq] at obV; cases obV⟩, by rw [al.findClass]; exact e2, kU, u1, by rw [u2]; exact i3, by rw [u2]; exact e5 i3⟩, ⟨SBG.found_only al ⟨cfV, kV, iV, gV⟩, stV⟩, ⟨SBG.found_only al ⟨cfC, kC, iC, gC⟩, stC⟩, slV, slC, by simp [RoadKit.slotOf, gV], by simp [RoadKit.slotOf, gC]⟩
theorem sta_is {Z U : State} (al : Z.vm.Alike U.vm) {C n d : String} {v : Value} (S : RoadKit.Sta Z U.heap C n d v) : StaticIs U C n d v := by
  obtain ⟨cfS, iS, kS, fS, st, cS, t1, t2, t3, t4, t5, t6, t7⟩ := S
  exact StaticIs.there (s := { Z with heap := U.heap }) ⟨cfS, iS, kS, fS, st, cS, t1, t2, t3, t4, t5, (fun q => by rw [q] at t6; cases t6), t7⟩ al rfl
/-- **length() OF SUCH A STRING** -/
theorem lenW {p : Program} {l : Launch} {e : Env} {R : Room} {s : State} {args : Array Value} {below : List Frame} {len W : Nat} {Z : State} {a0 : Array Value} {h : Heap} (hZ : Z.Warmed39 s.vm) (hw : ∀ d ∈ wordsLen, d.before a0 Z = true) {kI : Nat} (wi : (Jvm.Cond.instantiable ST kI).before a0 Z = true)
    {x t : Addr} {kb : ClassId} {cs : List Int32} {cd N2 z : Int32} {vs : List Value} (E : RoadKit.Exa Z h x ST) (V : RoadKit.Fld Z h x ST "value" "[B" (.ref t)) (C : RoadKit.Fld Z h x ST "coder" "B" (.int cd)) (K : RoadKit.Arv Z h t kb .byte N2 vs (.int 0)) (hc : CodA cs cd N2 vs) (hb : ∀ c ∈ cs, ¬ c < 0 ∧ ¬ (65535 : Int32) < c)
    (S : RoadKit.Sta Z h ST "COMPACT_STRINGS" "Z" (.int z)) (hz : ¬ z = 0) (l2 : cs.length ≤ 4000) (hfr : 2 ≤ R.frames) (hlo : W + 25 ≤ R.locals) :
    Back l R p e below s args (⟨"java/lang/String", "length", "()I"⟩ : MethodName) len W (fun P a => a = #[.ref x] ∧ P.U.heap = h ∧ P.cells + 0 ≤ R.cells ∧ P.slots + 0 ≤ R.slots)
      (fun P _ v B => ∃ L, (v = some (.int (Int32.ofNat cs.length)) ∧ L = [] ∧ B.U.heap = h) ∧ B.locs = P.locs ++ L ∧ B.cells = P.cells + 0 ∧ B.slots = P.slots + 0) := by
  obtain ⟨A, K1, K2, K3, K4, K5, K6⟩ := K
  have hcod := hc.cod (by omega) K3 K5
  intro m meth c P g ig mk a X hg hsize hdg hW hn hp'
  obtain ⟨rfl, rfl, r1, r2⟩ := hp'
  have al : Z.vm.Alike P.U.vm := hZ.alike.trans X.warmed.alike
  obtain ⟨D, fV, fC, hB, F1, F2, g1, g2, -, -⟩ := strObj wi al E V C
  have hx : Txt x t A cd cs.length (fun j => cs.getD j 0) P.U := ⟨⟨_, hB.2.2.1, D, hB.1, rfl, by cases q : D.vm <;> first | rfl | exact absurd q (hB.2.1.2 _)⟩, Has.of hB F1 g1, Has.of hB F2 g2, ⟨K1.1, State.isArrayOf_alike al K1.2.1, K1.2.2, by rcases hcod with ⟨-, q, -⟩ | ⟨-, q, -⟩ <;> omega⟩, hcod, fun j hj => by
    have e : cs.getD j 0 = cs[j] := by simp [List.getD_eq_getElem?_getD, hj]
    show ¬ cs.getD j 0 < 0 ∧ ¬ 65535 < cs.getD j 0
    rw [e]; exact hb _ (List.getElem_mem _)⟩
  obtain ⟨v, B, X', ⟨⟨hv, hh⟩, hl, hk, hs⟩, st⟩ := Len.pays x t A cd cs.length (fun j => cs.getD j 0) z (tabLen_of (movedLen hZ hw)) hfr hlo m meth c P g ig mk _ X hg hsize hdg hW hn ⟨r1, r2, rfl, hx, sta_is al S, hz⟩
  exact ⟨v, B, X', ⟨[], ⟨hv, rfl, hh⟩, hl, hk, hs⟩, st⟩
end StrChars.Road
namespace StrChars.Road
open Jvm Sem ClassFile Op Lib Jvm.Stand Jvm.Free Jvm.Free.XT
open Jvm.Lib.Cold (StaticIs)
/-- the road's facts of a String, as the laws ask it -/
theorem txt_of {Z U : State} {a0 : Array Value} {kI : Nat} (wi : (Jvm.Cond.instantiable ST kI).before a0 Z = true) (al : Z.vm.Alike U.vm) {x t : Addr} {kb : ClassId} {cs : List Int32} {cd N2 : Int32} {vs : List Value} (E : RoadKit.Exa Z U.heap x ST) (V : RoadKit.Fld Z U.heap x ST "value" "[B" (.ref t)) (C : RoadKit.Fld Z U.heap x ST "coder" "B" (.int cd)) (K : RoadKit.Arv Z U.heap t kb .byte N2 vs (.int 0)) (hc : CodA cs cd N2 vs) (hb : ∀ c ∈ cs, ¬ c < 0 ∧ ¬ (65535 : Int32) < c) (l2 : cs.length ≤ 4000) :
    ∃ A, Txt x t A cd cs.length (fun j => cs.getD j 0) U := by
  obtain ⟨A, K1, K2, K3, K4, K5, K6⟩ := K
  have hcod := hc.cod (by omega) K3 K5
  obtain ⟨D, fV, fC, hB, F1, F2, g1, g2, -, -⟩ := strObj wi al E V C
  exact ⟨A, ⟨_, hB.2.2.1, D, hB.1, rfl, by cases q : D.vm <;> first | rfl | exact absurd q (hB.2.1.2 _)⟩, Has.of hB F1 g1, Has.of hB F2 g2, ⟨K1.1, State.isArrayOf_alike al K1.2.1, K1.2.2, by rcases hcod with ⟨-, q, -⟩ | ⟨-, q, -⟩ <;> omega⟩, hcod, fun j hj => by
    have e : cs.getD j 0 = cs[j] := by simp [List.getD_eq_getElem?_getD, hj]
    show ¬ cs.getD j 0 < 0 ∧ ¬ 65535 < cs.getD j 0
    rw [e]; exact hb _ (List.getElem_mem _)⟩
end StrChars.Road
namespace StrChars
open Jvm Sem ClassFile Op Lib Jvm.Stand Jvm.Free.XT Jvm.Free.ALB Jvm.Free.JM Jvm.Free
open Jvm.Lib.Cold (StaticIs)
namespace ChN
def yN : MethodName := ⟨"java/lang/String", "charAt", "(I)C"⟩
abbrev yB : ByteArray := jdk_42_method_56_code
theorem d0 : decode yB 0 = .ok (.aload_n 0, 1) := by decide +kernel
theorem d1 : decode yB 1 = .ok (.invokevirtual 492, 3) := by decide +kernel
theorem d4 : decode yB 4 = .ok (.ifCond (.eq) 12, 3) := by decide +kernel
theorem d7 : decode yB 7 = .ok (.aload_n 0, 1) := by decide +kernel
theorem d8 : decode yB 8 = .ok (.getfield 9, 3) := by decide +kernel
theorem d11 : decode yB 11 = .ok (.iload_n 1, 1) := by decide +kernel
theorem d12 : decode yB 12 = .ok (.invokestatic 495, 3) := by decide +kernel
theorem d15 : decode yB 15 = .ok (.ireturn, 1) := by decide +kernel
def site : List Cond := [.fieldLink "java/lang/String" 9 "java/lang/String" "value" "[B", IsL.tab, LChA.tab] ++ virtW "java/lang/String" 492 "java/lang/String" IsL.yN IsL.yN ++ staticW "java/lang/String" 495 LChA.yN
def tab : Cond := tabOf yN yB 2 (some .char) site
def P (x t : Addr) (V : Cell) (n : Nat) (f : Nat → Int32) (z : Int32) (fm : Value) (i : Nat) (args : Array Value) (s : State) : Prop := args = #[.ref x, .int (Int32.ofNat i)] ∧ Txt x t V 0 n f s ∧ i < n ∧ StaticIs s "java/lang/String" "COMPACT_STRINGS" "Z" (.int z) ∧ ¬ z = 0 ∧ StaticIs s "jdk/internal/util/Preconditions" "SIOOBE_FORMATTER" "Ljava/util/function/BiFunction;" fm ∧ fm.isRef = true
def E (f : Nat → Int32) (i : Nat) (r : Option Value) (s u : State) : Prop := XT.PureE (some (.int (f i))) r s u
/-- charAt(i) of a Latin-1 String of n chars, i < n: f i -/
theorem law (l : Launch) (x t : Addr) (V : Cell) (n : Nat) (f : Nat → Int32) (z : Int32) (fm : Value) (i : Nat) : Law l yN 2 1 3 40 yB 2 (some .char) site (P x t V n f z fm i) (E f i) [] 0 0 := by
  refine Law.of_walk (plainFor_of_name (by decide +kernel)) (by decide +kernel) (by decide +kernel) (by decide) (fun _ _ h => by rw [h.1]; rfl) (fun _ U U' hal hh h => ⟨h.1, h.2.1.mv hal hh, h.2.2.1, h.2.2.2.1.there hal hh, h.2.2.2.2.1, h.2.2.2.2.2.1.there hal hh, h.2.2.2.2.2.2⟩) (fun r U U' V V' h1 hal h2 h => XT.PureE.mv r U U' V V' h1 hal h2 h) ?_
  intro p e s m args below meth c s₁ X0 hexec hbytes hml hret hlk hnm hown hh0 W hP
  obtain ⟨rfl, hx, hi, s1, hz, s3, rf⟩ := hP
  have v31 := hx.2.2.2.1.2.2.2
  have hr := hx.2.2.2.2.2 i hi
  have hx0 := hx.mv X0.warmed.alike hh0
  have c1 : Steps p.tables e below (s₁.setTop (entryFrame m #[.ref x, .int (Int32.ofNat i)] 2)) (s₁.setTop (mkF m 1 #[.val (.ref x), .val (.int (Int32.ofNat i))] [.ref x])) := Steps.trans (entry rfl) (by
    show Steps p.tables e below (s₁.setTop (mkF m 0 #[.val (.ref x), .val (.int (Int32.ofNat i))] [])) _
    refine XS.aloadN X0.here hexec rfl (hb hbytes d0) rfl rfl ?_
    exact Steps.refl _)
  obtain ⟨v2, T2, X2, E2, g2⟩ := X0.callV hexec (IsL.law l x 0 z) hown (wks W (virtW "java/lang/String" 492 "java/lang/String" IsL.yN IsL.yN)) rfl (by decide) (wk W IsL.tab) (W := 0) (Nat.le_of_ble_eq_true rfl) (Nat.le_of_ble_eq_true rfl) (Nat.le_refl _) (Nat.le_refl _) (hx0.1.fc X0.warmed.alike) hx0.1.is (g := (mkF m 1 #[.val (.ref x), .val (.int (Int32.ofNat i))] [.ref x])) rfl (by rw [hml]; rfl) c1 (argsL := []) (rest := []) rfl rfl (by show 2 * 0 + 0 ≤ _; decide) (hb hbytes d1) (⟨rfl, hx0.2.2.1, hx.2.2.2.2.1.cd, s1.there X0.warmed.alike hh0, hz⟩)
  obtain ⟨rfl, q2⟩ := E2
  have hh2 := q2.trans hh0
  have hx2 := hx.mv X2.warmed.alike hh2
  obtain ⟨-, k1, k2⟩ | ⟨k0, -⟩ := hx.2.2.2.2.1
  · have c3 : Steps p.tables e below (s₁.setTop (entryFrame m #[.ref x, .int (Int32.ofNat i)] 2)) (T2.setTop (mkF m 8 #[.val (.ref x), .val (.int (Int32.ofNat i))] [.ref x])) := Steps.trans g2 (by
      refine XS.ifNo X2.here hexec rfl (hb hbytes d4) rfl (i0_eq_f (by decide)) ?_
      refine XS.aloadN X2.here hexec rfl (hb hbytes d7) rfl rfl ?_
      exact Steps.refl _)
    obtain ⟨T4, X4, q4, st4⟩ := X2.hget hexec hown (wk W (.fieldLink "java/lang/String" 9 "java/lang/String" "value" "[B")) hx2.2.1 (g := (mkF m 8 #[.val (.ref x), .val (.int (Int32.ofNat i))] [.ref x])) rfl (rest := []) rfl (hb hbytes d8)
    have hh4 := q4.trans hh2
    have c5 : Steps p.tables e below (s₁.setTop (entryFrame m #[.ref x, .int (Int32.ofNat i)] 2)) (T4.setTop (mkF m 12 #[.val (.ref x), .val (.int (Int32.ofNat i))] [.int (Int32.ofNat i), .ref t])) := (c3.trans (st4 _ (Steps.refl _))).trans (by
      refine XS.iloadN X4.here hexec rfl (hb hbytes d11) rfl ?_
      exact Steps.refl _)
    obtain ⟨v6, T6, X6, E6, g6⟩ := X4.callS hexec (LChA.law l t V i (lo8 (f i)) fm) hown (wks W (staticW "java/lang/String" 495 LChA.yN)) (wk W LChA.tab) (W := 0) (Nat.le_of_ble_eq_true rfl) (Nat.le_of_ble_eq_true rfl) (Nat.le_refl _) (Nat.le_refl _) (g := (mkF m 12 #[.val (.ref x), .val (.int (Int32.ofNat i))] [.int (Int32.ofNat i), .ref t])) rfl (by rw [hml]; rfl) c5 (argsL := [.ref t, .int (Int32.ofNat i)]) (rest := []) rfl rfl (by show 2 * 0 + 0 ≤ _; decide) (hb hbytes d12) (⟨rfl, hx.2.2.2.1.mv X4.warmed.alike hh4, (k2 i hi).1, s3.there X4.warmed.alike hh4, rf⟩)
    obtain ⟨rfl, q6⟩ := E6
    rw [chr8_lo8 hr.1 (k2 i hi).2] at g6
    exact ⟨T6, some (.int (f i)), _, _, _, X6, rfl, rfl, rfl, (fun h => by cases h), ⟨rfl, q6.trans hh4⟩, fun fs hl => Steps.trans g6 (X6.ireturnOut hexec hret (narrow_ch hr.1 hr.2) (Or.inr (Or.inr (Or.inr (Or.inl rfl)))) (hb hbytes d15) hl)⟩
  · exact absurd k0 (by decide)
theorem pays {l : Launch} {R : Room} {p : Program} {e : Env} {below : List Frame} {s : State} {sargs : Array Value} {len W : Nat} (x t : Addr) (V : Cell) (n : Nat) (f : Nat → Int32) (z : Int32) (fm : Value) (i : Nat) (htab : tab.before sargs s = true) (hfr : 4 ≤ R.frames) (hlo : W + 53 ≤ R.locals) :
    Back l R p e below s sargs yN len W (fun A₁ a₁ => A₁.cells + 0 ≤ R.cells ∧ A₁.slots + 0 ≤ R.slots ∧ P x t V n f z fm i a₁ A₁.U) (fun A₁ _ v₁ B₁ => E f i v₁ A₁.U B₁.U ∧ B₁.locs = A₁.locs ++ [] ∧ B₁.cells = A₁.cells + 0 ∧ B₁.slots = A₁.slots + 0) :=
  (law l x t V n f z fm i).pays htab hfr (by omega)
end ChN
end StrChars
namespace StrChars.Road
open Jvm Sem ClassFile Op Lib Jvm.Stand Jvm.Free Jvm.Free.XT
open Jvm.Lib.Cold (StaticIs)
/-- the words of String.charAt(int), the Latin-1 road alone -/
abbrev wordsChN : List Jvm.Cond := [.code ChN.yN ChN.yB 2 (some .char), .initialized ST, .fieldLink ST 9 ST "value" "[B", .fieldLink ST 38 ST "COMPACT_STRINGS" "Z", .fieldLink ST 15 ST "coder" "B", .code IsL.yN IsL.yB 1 (some .boolean), .methodLink ST 492 IsL.yN, .declares IsL.yN, .selects ST IsL.yN IsL.yN, .instanceMethod IsL.yN,
  .methodLink ST 495 LChA.yN, .static LChA.yN, .code LChA.yN LChA.yB 2 (some .char), .initialized "java/lang/StringLatin1", .methodLink "java/lang/StringLatin1" 9 JO.Str_checkIndex.yN, .static JO.Str_checkIndex.yN, .code JO.Str_checkIndex.yN JO.Str_checkIndex.yB 2 none,
  .fieldLink ST 1053 "jdk/internal/util/Preconditions" "SIOOBE_FORMATTER" "Ljava/util/function/BiFunction;", .methodLink ST 1059 JC.PreCheck.yN, .static JC.PreCheck.yN, .code JC.PreCheck.yN JC.PreCheck.yB 3 (some .int), .initialized "jdk/internal/util/Preconditions"]
theorem tabChN_of {a : Array Value} {s : State} (h : ∀ w ∈ wordsChN, w.before a s = true) : ChN.tab.before a s = true := by
  have hp : JC.PreCheck.tab.before a s = true := unparts (wk h (.code JC.PreCheck.yN JC.PreCheck.yB 3 (some .int))) (wks h (.initialized JC.PreCheck.yN.cls :: JC.PreCheck.site))
  have qk := consq hp h
  have hk : JO.Str_checkIndex.tab.before a s = true := unparts (wk qk (.code JO.Str_checkIndex.yN JO.Str_checkIndex.yB 2 none)) (wks qk (.initialized JO.Str_checkIndex.yN.cls :: JO.Str_checkIndex.site))
  have ql := consq hk h
  have hl : LChA.tab.before a s = true := unparts (wk ql (.code LChA.yN LChA.yB 2 (some .char))) (wks ql (.initialized LChA.yN.cls :: LChA.site))
  have hi : IsL.tab.before a s = true := unparts (wk h (.code IsL.yN IsL.yB 1 (some .boolean))) (wks h (.initialized IsL.yN.cls :: IsL.site))
  have q := consq hi (consq hl h)
  exact unparts (wk q (.code ChN.yN ChN.yB 2 (some .char))) (wks q (.initialized ChN.yN.cls :: ChN.site))
theorem movedChN {Z s : State} {a0 args : Array Value} (hZ : Z.Warmed39 s.vm) (hw : ∀ d ∈ wordsChN, d.before a0 Z = true) : ∀ d ∈ wordsChN, d.before args s = true := fun d hd => by
  have t : ∀ d ∈ wordsChN, (d.onTables && d.keepsFace) = true := by decide +kernel
  exact RoadKit.mv hZ (hw d hd) (t d hd)
/-- **charAt(i) OF A LATIN-1 STRING**, i < n: the char -/
theorem chN {p : Program} {l : Launch} {e : Env} {R : Room} {s : State} {args : Array Value} {below : List Frame} {len W : Nat} {Z : State} {a0 : Array Value} {h : Heap} (hZ : Z.Warmed39 s.vm) (hw : ∀ d ∈ wordsChN, d.before a0 Z = true) {kI : Nat} (wi : (Jvm.Cond.instantiable ST kI).before a0 Z = true)
    {x t : Addr} {kb : ClassId} {cs : List Int32} {N2 z : Int32} {vs : List Value} {fm : Value} {i : Nat} {j : Int32} (E : RoadKit.Exa Z h x ST) (V : RoadKit.Fld Z h x ST "value" "[B" (.ref t)) (C : RoadKit.Fld Z h x ST "coder" "B" (.int 0)) (K : RoadKit.Arv Z h t kb .byte N2 vs (.int 0)) (hc : CodA cs 0 N2 vs) (hb : ∀ c ∈ cs, ¬ c < 0 ∧ ¬ (65535 : Int32) < c)
    (S : RoadKit.Sta Z h ST "COMPACT_STRINGS" "Z" (.int z)) (hz : ¬ z = 0) (F : RoadKit.Sta Z h "jdk/internal/util/Preconditions" "SIOOBE_FORMATTER" "Ljava/util/function/BiFunction;" fm) (rf : fm.isRef = true) (l2 : cs.length ≤ 4000) (hi : i < cs.length) (hj : j = Int32.ofNat i) (hfr : 4 ≤ R.frames) (hlo : W + 53 ≤ R.locals) :
    Back l R p e below s args (⟨"java/lang/String", "charAt", "(I)C"⟩ : MethodName) len W (fun P a => a = #[.ref x, .int j] ∧ P.U.heap = h ∧ P.cells + 0 ≤ R.cells ∧ P.slots + 0 ≤ R.slots)
      (fun P _ v B => ∃ L, (v = some (.int (cs.getD i 0)) ∧ L = [] ∧ B.U.heap = h) ∧ B.locs = P.locs ++ L ∧ B.cells = P.cells + 0 ∧ B.slots = P.slots + 0) := by
  subst hj
  intro m meth c P g ig mk a X hg hsize hdg hW hn hp'
  obtain ⟨rfl, rfl, r1, r2⟩ := hp'
  have al : Z.vm.Alike P.U.vm := hZ.alike.trans X.warmed.alike
  obtain ⟨A, hx⟩ := txt_of wi al E V C K hc hb l2
  obtain ⟨v, B, X', ⟨⟨hv, hh⟩, hl, hk, hs⟩, st⟩ := ChN.pays x t A cs.length (fun j => cs.getD j 0) z fm i (tabChN_of (movedChN hZ hw)) hfr hlo m meth c P g ig mk _ X hg hsize hdg hW hn ⟨r1, r2, rfl, hx, hi, sta_is al S, hz, sta_is al F, rf⟩
  exact ⟨v, B, X', ⟨[], ⟨hv, rfl, hh⟩, hl, hk, hs⟩, st⟩
/-- what backV says of its String, as the contracts of this text ask it: cs's low bytes, coder 0 -/
theorem codOf {cs : List Int32} {n : Nat} (hn : cs.length = n) (hb : ∀ c ∈ cs, ¬ 255 < c) : CodA cs 0 (Int32.ofNat n) ((cs.map lo8).map Value.int) := Or.inl ⟨rfl, by rw [hn], by simp [List.map_map, Function.comp_def], hb⟩
end StrChars.Road
end Jvm.Pilot.@@N@@
namespace Jvm.Pilot.@@N@@
open Jvm Jvm.ClassFile Sem Op Lib Jvm.Free Jvm.Stand Jvm.LawKit Jvm.RoadKit Bundle Jvm.Pilot.@@N@@.Jvm.D
-- OWN KIT: walks in continuation style over the library's Stand laws (own text, pasted into each Proof.lean)
section OwnKit
variable {p : Program} {l : Launch} {e : Env} {R : Room} {s : State} {m : MethodId} {args : Array Value} {below : List Frame} {meth : Method} {c : Code} {T : State} {locs : List Loc} {cells slots : Nat} {Z : State} {a0 : Array Value} {h : Heap} {own : String} {cd : ByteArray} {maxL : Nat} {ret : Option FieldType} {nm : String} {n0 : Nat} {F : Option Value → Heap → Prop} {kc ks : Nat} {En : Outcome → State → Prop} {pc : Nat} {ls : Array Slot} {st : List Value}
/-- from the frame g over T the method runs to its end, returns v, leaves a heap, F holds of both; only new cells are written -/
def own_Go (p : Program) (e : Env) (below : List Frame) (En : Outcome → State → Prop) (T : State) (g : JFrame) : Prop :=
  ∃ s₂ o, Steps p.tables e below (T.setTop g) s₂ ∧ s₂.status = .running ∧ Ended s₂ below o ∧ En o s₂
def own_En (s : State) (n0 : Nat) (F : Option Value → Heap → Prop) (kc ks : Nat) (o : Outcome) (s₂ : State) : Prop := ∃ v L, o = .returned v ∧ (F v s₂.heap ∧ Fr n0 L) ∧ FrameEnd s o s₂ L kc ks
theorem own_step {T' : State} {g g' : JFrame} (st : ∀ t, Steps p.tables e below (T'.setTop g') t → Steps p.tables e below (T.setTop g) t) (k : own_Go p e below En T' g') : own_Go p e below En T g := by
  obtain ⟨s₂, o, h1, h2⟩ := k
  exact ⟨s₂, o, st _ h1, h2⟩
/-- what stays the same in one body -/
def own_Cx (p : Program) (s : State) (m : MethodId) (meth : Method) (c : Code) (Z : State) (own : String) (cd : ByteArray) (maxL : Nat) (ret : Option FieldType) (nm : String) : Prop :=
  p.tables.exec = Jvm.exec ∧ c.code = cd ∧ c.maxLocals = maxL ∧ s.vm.findClass own = some m.cls ∧ meth.name = nm ∧ meth.sig.returnType = ret ∧ meth.locks = false ∧ Z.Warmed39 s.vm
/-- where the walk stands: the heap is h, at most so many cells and slots have been made, nothing old was written -/
def own_S (p : Program) (l : Launch) (e : Env) (R : Room) (s : State) (m : MethodId) (args : Array Value) (below : List Frame) (meth : Method) (c : Code) (n0 : Nat) (T : State) (h : Heap) (cells slots : Nat) : Prop :=
  ∃ locs k n, Stand p l e R s m args below meth c T locs k n ∧ T.heap = h ∧ Fr n0 locs ∧ k ≤ cells ∧ n ≤ slots
theorem own_S.mono {c' s' : Nat} (S : own_S p l e R s m args below meth c n0 T h cells slots) (h1 : cells ≤ c') (h2 : slots ≤ s') : own_S p l e R s m args below meth c n0 T h c' s' := by
  obtain ⟨locs, k, n, X, e1, N, q1, q2⟩ := S
  exact ⟨locs, k, n, X, e1, N, Nat.le_trans q1 h1, Nat.le_trans q2 h2⟩
theorem own_hd (C : own_Cx p s m meth c Z own cd maxL ret nm) {i : Instr} {len : Nat} (hd : decode cd pc = .ok (i, len)) : decode c.code pc = .ok (i, len) := by rw [C.2.1]; exact hd
theorem own_hsz (C : own_Cx p s m meth c Z own cd maxL ret nm) (hsz : ls.size = maxL) : ls.size = c.maxLocals := by rw [C.2.2.1]; exact hsz
/-- the k-th table word -/
theorem own_wd {L : List Jvm.Cond} (hw : ∀ d ∈ L, d.before a0 Z = true) (i : Nat) {d : Jvm.Cond} (hi : L[i]? = some d) : d.before a0 Z = true := hw d (List.mem_of_getElem? hi)
/-- one plain instruction -/
def own_st (i : Instr) (len pc : Nat) (ls : Array Slot) (st : List Value) : Option (Nat × Array Slot × List Value) :=
  match i with
  | .iload_n k => match len, ls[k.val]? with | 1, some (.val (.int v)) => some (pc + 1, ls, .int v :: st) | _, _ => none
  | .iload k => match len, ls[k]? with | 2, some (.val (.int v)) => some (pc + 2, ls, .int v :: st) | _, _ => none
  | .lload_n k => match len, ls[k.val]? with | 1, some (.val (.long v)) => some (pc + 1, ls, .long v :: st) | _, _ => none
  | .lload k => match len, ls[k]? with | 2, some (.val (.long v)) => some (pc + 2, ls, .long v :: st) | _, _ => none
  | .dload_n k => match len, ls[k.val]? with | 1, some (.val (.double v)) => some (pc + 1, ls, .double v :: st) | _, _ => none
  | .dload k => match len, ls[k]? with | 2, some (.val (.double v)) => some (pc + 2, ls, .double v :: st) | _, _ => none
  | .aload_n k => match len, ls[k.val]? with | 1, some (.val (.ref v)) => some (pc + 1, ls, .ref v :: st) | 1, some (.val .null) => some (pc + 1, ls, .null :: st) | _, _ => none
  | .aload k => match len, ls[k]? with | 2, some (.val (.ref v)) => some (pc + 2, ls, .ref v :: st) | 2, some (.val .null) => some (pc + 2, ls, .null :: st) | _, _ => none
  | .istore_n k => match len, st with | 1, .int x :: r => (match storeLocals ls k.val (.int x) with | some l' => some (pc + 1, l', r) | none => none) | _, _ => none
  | .istore k => match len, st with | 2, .int x :: r => (match storeLocals ls k (.int x) with | some l' => some (pc + 2, l', r) | none => none) | _, _ => none
  | .lstore_n k => match len, st with | 1, .long x :: r => (match storeLocals ls k.val (.long x) with | some l' => some (pc + 1, l', r) | none => none) | _, _ => none
  | .lstore k => match len, st with | 2, .long x :: r => (match storeLocals ls k (.long x) with | some l' => some (pc + 2, l', r) | none => none) | _, _ => none
  | .dstore_n k => match len, st with | 1, .double x :: r => (match storeLocals ls k.val (.double x) with | some l' => some (pc + 1, l', r) | none => none) | _, _ => none
  | .dstore k => match len, st with | 2, .double x :: r => (match storeLocals ls k (.double x) with | some l' => some (pc + 2, l', r) | none => none) | _, _ => none
  | .astore_n k => match len, st with
    | 1, .ref x :: r => (match storeLocals ls k.val (.ref x) with | some l' => some (pc + 1, l', r) | none => none)
    | 1, .null :: r => (match storeLocals ls k.val .null with | some l' => some (pc + 1, l', r) | none => none)
    | _, _ => none
  | .astore k => match len, st with
    | 2, .ref x :: r => (match storeLocals ls k (.ref x) with | some l' => some (pc + 2, l', r) | none => none)
    | 2, .null :: r => (match storeLocals ls k .null with | some l' => some (pc + 2, l', r) | none => none)
    | _, _ => none
  | .iinc k d => match len, ls[k]? with | 3, some (.val (.int x)) => (match storeLocals ls k (.int (x + Int32.ofInt d)) with | some l' => some (pc + 3, l', st) | none => none) | _, _ => none
  | .iconst i => match len with | 1 => some (pc + 1, ls, .int (Int32.ofInt i) :: st) | _ => none
  | .bipush i => match len with | 2 => some (pc + 2, ls, .int (Int8.ofInt i).toInt32 :: st) | _ => none
  | .sipush i => match len with | 3 => some (pc + 3, ls, .int (Int16.ofInt i).toInt32 :: st) | _ => none
  | .lconst k => match len with | 1 => some (pc + 1, ls, .long (Int64.ofNat k) :: st) | _ => none
  | .aconst_null => match len with | 1 => some (pc + 1, ls, .null :: st) | _ => none
  | .iadd => match len, st with | 1, .int y :: .int x :: r => some (pc + 1, ls, .int (x + y) :: r) | _, _ => none
  | .isub => match len, st with | 1, .int y :: .int x :: r => some (pc + 1, ls, .int (x - y) :: r) | _, _ => none
  | .imul => match len, st with | 1, .int y :: .int x :: r => some (pc + 1, ls, .int (x * y) :: r) | _, _ => none
  | .iand => match len, st with | 1, .int y :: .int x :: r => some (pc + 1, ls, .int (x &&& y) :: r) | _, _ => none
  | .ior => match len, st with | 1, .int y :: .int x :: r => some (pc + 1, ls, .int (x ||| y) :: r) | _, _ => none
  | .ixor => match len, st with | 1, .int y :: .int x :: r => some (pc + 1, ls, .int (x ^^^ y) :: r) | _, _ => none
  | .ishl => match len, st with | 1, .int y :: .int x :: r => some (pc + 1, ls, .int (x <<< (y &&& 31)) :: r) | _, _ => none
  | .ishr => match len, st with | 1, .int y :: .int x :: r => some (pc + 1, ls, .int (x >>> (y &&& 31)) :: r) | _, _ => none
  | .iushr => match len, st with | 1, .int y :: .int x :: r => some (pc + 1, ls, .int (Jvm.Free.XT.ushr x y) :: r) | _, _ => none
  | .ineg => match len, st with | 1, .int x :: r => some (pc + 1, ls, .int (-x) :: r) | _, _ => none
  | .ladd => match len, st with | 1, .long y :: .long x :: r => some (pc + 1, ls, .long (x + y) :: r) | _, _ => none
  | .lsub => match len, st with | 1, .long y :: .long x :: r => some (pc + 1, ls, .long (x - y) :: r) | _, _ => none
  | .lmul => match len, st with | 1, .long y :: .long x :: r => some (pc + 1, ls, .long (x * y) :: r) | _, _ => none
  | .land => match len, st with | 1, .long y :: .long x :: r => some (pc + 1, ls, .long (x &&& y) :: r) | _, _ => none
  | .lor => match len, st with | 1, .long y :: .long x :: r => some (pc + 1, ls, .long (x ||| y) :: r) | _, _ => none
  | .lshl => match len, st with | 1, .int y :: .long x :: r => some (pc + 1, ls, .long (x <<< (y.toInt64 &&& 63)) :: r) | _, _ => none
  | .lshr => match len, st with | 1, .int y :: .long x :: r => some (pc + 1, ls, .long (x >>> (y.toInt64 &&& 63)) :: r) | _, _ => none
  | .lushr => match len, st with | 1, .int y :: .long x :: r => some (pc + 1, ls, .long (Jvm.Free.XT.ushrL x y) :: r) | _, _ => none
  | .lcmp => match len, st with | 1, .long y :: .long x :: r => some (pc + 1, ls, .int (Jvm.Free.XT.cmpL x y) :: r) | _, _ => none
  | .i2l => match len, st with | 1, .int x :: r => some (pc + 1, ls, .long x.toInt64 :: r) | _, _ => none
  | .l2i => match len, st with | 1, .long x :: r => some (pc + 1, ls, .int x.toInt32 :: r) | _, _ => none
  | .i2b => match len, st with | 1, .int x :: r => some (pc + 1, ls, .int x.toInt8.toInt32 :: r) | _, _ => none
  | .i2c => match len, st with | 1, .int x :: r => some (pc + 1, ls, .int x.toUInt32.toUInt16.toUInt32.toInt32 :: r) | _, _ => none
  | .i2s => match len, st with | 1, .int x :: r => some (pc + 1, ls, .int x.toInt16.toInt32 :: r) | _, _ => none
  | .i2d => match len, st with | 1, .int x :: r => some (pc + 1, ls, .double (FP.i2d x) :: r) | _, _ => none
  | .dup => match len, st with | 1, .int x :: r => some (pc + 1, ls, .int x :: .int x :: r) | 1, .ref x :: r => some (pc + 1, ls, .ref x :: .ref x :: r) | 1, .null :: r => some (pc + 1, ls, .null :: .null :: r) | _, _ => none
  | .pop => match len, st with | 1, .int x :: r => some (pc + 1, ls, r) | 1, .ref x :: r => some (pc + 1, ls, r) | 1, .null :: r => some (pc + 1, ls, r) | _, _ => none
  | .dup_x1 => match len, st with | 1, .int x :: .ref y :: r => some (pc + 1, ls, .int x :: .ref y :: .int x :: r) | 1, .int x :: .int y :: r => some (pc + 1, ls, .int x :: .int y :: .int x :: r) | 1, .ref x :: .ref y :: r => some (pc + 1, ls, .ref x :: .ref y :: .ref x :: r) | _, _ => none
  | .dup2 => match len, st with | 1, .int x :: .ref y :: r => some (pc + 1, ls, .int x :: .ref y :: .int x :: .ref y :: r) | 1, .int x :: .int y :: r => some (pc + 1, ls, .int x :: .int y :: .int x :: .int y :: r) | 1, .long x :: r => some (pc + 1, ls, .long x :: .long x :: r) | _, _ => none
  | .goto o => match len, decide (0 ≤ (pc : Int) + o) with | 3, true => some (((pc : Int) + o).toNat, ls, st) | _, _ => none
  | .ifnull o => match len, st, decide (0 ≤ (pc : Int) + o) with | 3, .null :: r, true => some (((pc : Int) + o).toNat, ls, r) | 3, .ref _ :: r, _ => some (pc + 3, ls, r) | _, _, _ => none
  | .ifnonnull o => match len, st, decide (0 ≤ (pc : Int) + o) with | 3, .ref _ :: r, true => some (((pc : Int) + o).toNat, ls, r) | 3, .null :: r, _ => some (pc + 3, ls, r) | _, _, _ => none
  | _ => none
theorem own_st_ok (X : Stand p l e R s m args below meth c T locs cells slots) (hx : p.tables.exec = Jvm.exec) {i : Instr} {len pc' : Nat} {ls' : Array Slot} {st' : List Value} (hd : decode c.code pc = .ok (i, len)) (hs : own_st i len pc ls st = some (pc', ls', st')) (t : State)
    (k : Steps p.tables e below (T.setTop (mkF m pc' ls' st')) t) : Steps p.tables e below (T.setTop (mkF m pc ls st)) t := by
  unfold own_st at hs
  split at hs
  · split at hs <;> first | cases hs | skip
    rename_i q; exact XS.iloadN X.here hx rfl hd q k
  · split at hs <;> first | cases hs | skip
    rename_i q; exact XS.iload X.here hx rfl hd q k
  · split at hs <;> first | cases hs | skip
    rename_i q; exact Jvm.Free.XT.lloadN X.here hx rfl hd q k
  · split at hs <;> first | cases hs | skip
    rename_i q; exact Jvm.Free.XT.lload X.here hx rfl hd q k
  · split at hs <;> first | cases hs | skip
    rename_i q; exact XS.dloadN X.here hx rfl hd q k
  · split at hs <;> first | cases hs | skip
    rename_i q; exact XS.dload X.here hx rfl hd q k
  · split at hs <;> first | cases hs | skip
    · rename_i q; exact XS.aloadN X.here hx rfl hd q rfl k
    · rename_i q; exact XS.aloadN X.here hx rfl hd q rfl k
  · split at hs <;> first | cases hs | skip
    · rename_i q; exact XS.aload X.here hx rfl hd q rfl k
    · rename_i q; exact XS.aload X.here hx rfl hd q rfl k
  · split at hs <;> first | cases hs | skip
    split at hs <;> first | cases hs | skip
    rename_i q; exact XS.istoreN X.here hx rfl hd rfl q k
  · split at hs <;> first | cases hs | skip
    split at hs <;> first | cases hs | skip
    rename_i q; exact XS.istore X.here hx rfl hd rfl q k
  · split at hs <;> first | cases hs | skip
    split at hs <;> first | cases hs | skip
    rename_i q; exact Jvm.Free.XT.lstoreN X.here hx rfl hd rfl q k
  · split at hs <;> first | cases hs | skip
    split at hs <;> first | cases hs | skip
    rename_i q; exact Jvm.Free.XT.lstore X.here hx rfl hd rfl q k
  · split at hs <;> first | cases hs | skip
    split at hs <;> first | cases hs | skip
    rename_i q; exact XS.dstoreN X.here hx rfl hd rfl q k
  · split at hs <;> first | cases hs | skip
    split at hs <;> first | cases hs | skip
    rename_i q; exact XS.dstore X.here hx rfl hd rfl q k
  · split at hs <;> first | cases hs | skip
    all_goals
      split at hs <;> first | cases hs | skip
      rename_i q; exact XS.astoreN X.here hx rfl hd rfl rfl q k
  · split at hs <;> first | cases hs | skip
    all_goals
      split at hs <;> first | cases hs | skip
      rename_i q; exact XS.astore X.here hx rfl hd rfl rfl q k
  · split at hs <;> first | cases hs | skip
    rename_i q0
    split at hs <;> first | cases hs | skip
    rename_i q; exact XS.iinc X.here hx rfl hd q0 q k
  · split at hs <;> first | cases hs | skip
    exact XS.iconst X.here hx rfl hd k
  · split at hs <;> first | cases hs | skip
    exact XS.bipush X.here hx rfl hd k
  · split at hs <;> first | cases hs | skip
    exact XS.sipush X.here hx rfl hd k
  · split at hs <;> first | cases hs | skip
    exact Jvm.Free.XT.lconst X.here hx rfl hd k
  · split at hs <;> first | cases hs | skip
    exact XS.aconstNull X.here hx rfl hd k
  · split at hs <;> first | cases hs | skip
    exact XS.iadd X.here hx rfl hd rfl k
  · split at hs <;> first | cases hs | skip
    exact XS.isub X.here hx rfl hd rfl k
  · split at hs <;> first | cases hs | skip
    exact XS.imul X.here hx rfl hd rfl k
  · split at hs <;> first | cases hs | skip
    exact XS.iand X.here hx rfl hd rfl k
  · split at hs <;> first | cases hs | skip
    exact Jvm.Free.XT.ior X.here hx rfl hd rfl k
  · split at hs <;> first | cases hs | skip
    exact Jvm.Free.XT.ixor X.here hx rfl hd rfl k
  · split at hs <;> first | cases hs | skip
    exact Jvm.Free.XT.ishl X.here hx rfl hd rfl k
  · split at hs <;> first | cases hs | skip
    exact Jvm.Free.XT.ishr X.here hx rfl hd rfl k
  · split at hs <;> first | cases hs | skip
    exact Jvm.Free.XT.iushr X.here hx rfl hd rfl k
  · split at hs <;> first | cases hs | skip
    exact XS.ineg X.here hx rfl hd rfl k
  · split at hs <;> first | cases hs | skip
    exact Jvm.Free.XT.ladd X.here hx rfl hd rfl k
  · split at hs <;> first | cases hs | skip
    exact Jvm.Free.XT.lsub X.here hx rfl hd rfl k
  · split at hs <;> first | cases hs | skip
    exact Jvm.Free.XT.lmul X.here hx rfl hd rfl k
  · split at hs <;> first | cases hs | skip
    exact Jvm.Free.XT.land X.here hx rfl hd rfl k
  · split at hs <;> first | cases hs | skip
    exact Jvm.Free.XT.lor X.here hx rfl hd rfl k
  · split at hs <;> first | cases hs | skip
    exact Jvm.Free.XT.lshl X.here hx rfl hd rfl k
  · split at hs <;> first | cases hs | skip
    exact Jvm.Free.XT.lshr X.here hx rfl hd rfl k
  · split at hs <;> first | cases hs | skip
    exact Jvm.Free.XT.lushr X.here hx rfl hd rfl k
  · split at hs <;> first | cases hs | skip
    exact Jvm.Free.XT.lcmp X.here hx rfl hd rfl k
  · split at hs <;> first | cases hs | skip
    exact Jvm.Free.XT.i2l X.here hx rfl hd rfl k
  · split at hs <;> first | cases hs | skip
    exact Jvm.Free.XT.l2i X.here hx rfl hd rfl k
  · split at hs <;> first | cases hs | skip
    exact Jvm.Free.XT.i2b X.here hx rfl hd rfl k
  · split at hs <;> first | cases hs | skip
    exact Jvm.Free.XT.i2c X.here hx rfl hd rfl k
  · split at hs <;> first | cases hs | skip
    exact Jvm.Free.XT.i2s X.here hx rfl hd rfl k
  · split at hs <;> first | cases hs | skip
    exact XS.i2dS X.here hx rfl hd rfl rfl k
  · split at hs <;> first | cases hs | skip
    all_goals exact XS.dup X.here hx rfl hd rfl rfl k
  · split at hs <;> first | cases hs | skip
    all_goals exact Jvm.Free.XT.pop X.here hx rfl hd rfl rfl k
  · split at hs <;> first | cases hs | skip
    all_goals exact Jvm.Free.XT.dupX1 X.here hx rfl hd rfl rfl rfl k
  · split at hs <;> first | cases hs | skip
    · exact Jvm.Free.XT.dup2 X.here hx rfl hd rfl rfl rfl k
    · exact Jvm.Free.XT.dup2 X.here hx rfl hd rfl rfl rfl k
    · exact Jvm.Free.XT.dup2L X.here hx rfl hd rfl k
  · split at hs <;> first | cases hs | skip
    rename_i q; exact XS.goto X.here hx rfl rfl hd (of_decide_eq_true q) rfl k
  · split at hs <;> first | cases hs | skip
    · rename_i q; exact XS.ifnullYes X.here hx rfl rfl hd rfl (of_decide_eq_true q) rfl k
    · exact XS.ifnullNo X.here hx rfl hd rfl k
  · split at hs <;> first | cases hs | skip
    · rename_i q; exact Jvm.Free.XT.ifnonnullYes X.here hx rfl rfl hd rfl (of_decide_eq_true q) rfl k
    · exact Jvm.Free.XT.ifnonnullNo X.here hx rfl hd rfl k
  · cases hs
/-- a row of plain instructions -/
def own_run : List (Nat × Instr × Nat) → Nat → Array Slot → List Value → Option (Nat × Array Slot × List Value)
  | [], pc, ls, st => some (pc, ls, st)
  | x :: seg, pc, ls, st => match decide (pc = x.1) with
    | true => (match own_st x.2.1 x.2.2 x.1 ls st with | some (pc', ls', st') => own_run seg pc' ls' st' | none => none)
    | false => none
def own_dec (cd : ByteArray) (seg : List (Nat × Instr × Nat)) : Bool := seg.all fun x => decide (decode cd x.1 = .ok x.2)
theorem own_run_ok (X : Stand p l e R s m args below meth c T locs cells slots) (hx : p.tables.exec = Jvm.exec) (hby : c.code = cd) : ∀ (seg : List (Nat × Instr × Nat)) {pc pc' : Nat} {ls ls' : Array Slot} {st st' : List Value}, own_dec cd seg = true → own_run seg pc ls st = some (pc', ls', st') → ∀ t,
    Steps p.tables e below (T.setTop (mkF m pc' ls' st')) t → Steps p.tables e below (T.setTop (mkF m pc ls st)) t := by
  intro seg
  induction seg with
  | nil =>
    intro pc pc' ls ls' st st' _ hr t k
    simp only [own_run, Option.some.injEq, Prod.mk.injEq] at hr
    obtain ⟨rfl, rfl, rfl⟩ := hr
    exact k
  | cons x seg ih =>
    intro pc pc' ls ls' st st' hd hr t k
    simp only [own_dec, List.all_cons, Bool.and_eq_true, decide_eq_true_eq] at hd
    simp only [own_run] at hr
    split at hr
    · rename_i q
      have q' : pc = x.1 := of_decide_eq_true q
      subst q'
      split at hr
      · rename_i a1 b1 c1 q2
        exact own_st_ok X hx (by rw [hby]; exact hd.1) q2 t (ih hd.2 hr t k)
      · cases hr
    · cases hr
theorem own_seg (C : own_Cx p s m meth c Z own cd maxL ret nm) (S : own_S p l e R s m args below meth c n0 T h cells slots) (seg : List (Nat × Instr × Nat)) (hd : own_dec cd seg = true) (pc' : Nat) (ls' : Array Slot) (st' : List Value)
    (hr : own_run seg pc ls st = some (pc', ls', st')) (k : own_Go p e below En T (mkF m pc' ls' st')) : own_Go p e below En T (mkF m pc ls st) := by
  obtain ⟨locs, kk, n, X, -⟩ := S
  exact own_step (own_run_ok X C.1 C.2.1 seg hd hr) k
/-! branches -/
def own_P : ClassFile.Cond → Int32 → Int32 → Prop
  | .eq, x, y => x = y | .ne, x, y => ¬ x = y | .lt, x, y => x < y | .ge, x, y => ¬ x < y | .gt, x, y => y < x | .le, x, y => ¬ y < x
def own_N : ClassFile.Cond → Int32 → Int32 → Prop
  | .eq, x, y => ¬ x = y | .ne, x, y => x = y | .lt, x, y => ¬ x < y | .ge, x, y => x < y | .gt, x, y => ¬ y < x | .le, x, y => y < x
theorem own_holds (q : ClassFile.Cond) (x y : Int32) : (own_P q x y ∧ if_icmp.holds q x y = true) ∨ (own_N q x y ∧ if_icmp.holds q x y = false) := by
  cases q
  · by_cases g : x = y
    · exact Or.inl ⟨g, (teq g).1⟩
    · exact Or.inr ⟨g, (feq g).1⟩
  · by_cases g : x = y
    · exact Or.inr ⟨g, (teq g).2⟩
    · exact Or.inl ⟨g, (feq g).2⟩
  · by_cases g : x < y
    · exact Or.inl ⟨g, (tlt g).1⟩
    · exact Or.inr ⟨g, (flt g).1⟩
  · by_cases g : x < y
    · exact Or.inr ⟨g, (tlt g).2.1⟩
    · exact Or.inl ⟨g, (flt g).2.1⟩
  · by_cases g : y < x
    · exact Or.inl ⟨g, (tlt g).2.2.1⟩
    · exact Or.inr ⟨g, (flt g).2.2.1⟩
  · by_cases g : y < x
    · exact Or.inr ⟨g, (tlt g).2.2.2⟩
    · exact Or.inl ⟨g, (flt g).2.2.2⟩
theorem own_icmp (C : own_Cx p s m meth c Z own cd maxL ret nm) (S : own_S p l e R s m args below meth c n0 T h cells slots) {q : ClassFile.Cond} {o : Int} {x y : Int32} (hd : decode cd pc = .ok (.if_icmp q o, 3)) (pc' : Nat) (ho : 0 ≤ (pc : Int) + o) (hp : ((pc : Int) + o).toNat = pc')
    (k1 : own_P q x y → own_Go p e below En T (mkF m pc' ls st)) (k2 : own_N q x y → own_Go p e below En T (mkF m (pc + 3) ls st)) : own_Go p e below En T (mkF m pc ls (.int y :: .int x :: st)) := by
  obtain ⟨locs, kk, n, X, -⟩ := S
  rcases own_holds q x y with ⟨g, hc⟩ | ⟨g, hc⟩
  · exact own_step (fun t k => XS.icmpYes X.here C.1 rfl rfl (own_hd C hd) rfl hc ho hp k) (k1 g)
  · exact own_step (fun t k => XS.icmpNo X.here C.1 rfl (own_hd C hd) rfl hc k) (k2 g)
theorem own_if (C : own_Cx p s m meth c Z own cd maxL ret nm) (S : own_S p l e R s m args below meth c n0 T h cells slots) {q : ClassFile.Cond} {o : Int} {x : Int32} (hd : decode cd pc = .ok (.ifCond q o, 3)) (pc' : Nat) (ho : 0 ≤ (pc : Int) + o) (hp : ((pc : Int) + o).toNat = pc')
    (k1 : own_P q x 0 → own_Go p e below En T (mkF m pc' ls st)) (k2 : own_N q x 0 → own_Go p e below En T (mkF m (pc + 3) ls st)) : own_Go p e below En T (mkF m pc ls (.int x :: st)) := by
  obtain ⟨locs, kk, n, X, -⟩ := S
  rcases own_holds q x 0 with ⟨g, hc⟩ | ⟨g, hc⟩ <;> rw [← if0] at hc
  · exact own_step (fun t k => XS.ifYes X.here C.1 rfl rfl (own_hd C hd) rfl hc ho hp k) (k1 g)
  · exact own_step (fun t k => XS.ifNo X.here C.1 rfl (own_hd C hd) rfl hc k) (k2 g)
def own_A : ClassFile.ACond → Value → Value → Prop
  | .eq, x, y => x = y | .ne, x, y => ¬ x = y
def own_B : ClassFile.ACond → Value → Value → Prop
  | .eq, x, y => ¬ x = y | .ne, x, y => x = y
theorem own_acmp (C : own_Cx p s m meth c Z own cd maxL ret nm) (S : own_S p l e R s m args below meth c n0 T h cells slots) {q : ClassFile.ACond} {o : Int} {x y : Value} (hx' : x.isRef = true) (hy' : y.isRef = true) (hd : decode cd pc = .ok (.if_acmp q o, 3)) (pc' : Nat) (ho : 0 ≤ (pc : Int) + o) (hp : ((pc : Int) + o).toNat = pc')
    (k1 : own_A q x y → own_Go p e below En T (mkF m pc' ls st)) (k2 : own_B q x y → own_Go p e below En T (mkF m (pc + 3) ls st)) : own_Go p e below En T (mkF m pc ls (y :: x :: st)) := by
  obtain ⟨locs, kk, n, X, -⟩ := S
  cases q <;> by_cases g : x = y
  · exact own_step (fun t k => Jvm.Free.XT.acmpYes X.here C.1 rfl rfl (own_hd C hd) rfl hx' hy' (Jvm.Free.XT.aa_eq_t g) ho hp k) (k1 g)
  · exact own_step (fun t k => Jvm.Free.XT.acmpNo X.here C.1 rfl (own_hd C hd) rfl hx' hy' (Jvm.Free.XT.aa_eq_f g) k) (k2 g)
  · exact own_step (fun t k => Jvm.Free.XT.acmpNo X.here C.1 rfl (own_hd C hd) rfl hx' hy' (Jvm.Free.XT.aa_ne_f g) k) (k2 g)
  · exact own_step (fun t k => Jvm.Free.XT.acmpYes X.here C.1 rfl rfl (own_hd C hd) rfl hx' hy' (Jvm.Free.XT.aa_ne_t g) ho hp k) (k1 g)
/-! arithmetic with premises -/
theorem own_idiv (C : own_Cx p s m meth c Z own cd maxL ret nm) (S : own_S p l e R s m args below meth c n0 T h cells slots) {x y : Int32} (hd : decode cd pc = .ok (.idiv, 1)) (hy : y ≠ 0) (k : own_Go p e below En T (mkF m (pc + 1) ls (.int (x / y) :: st))) : own_Go p e below En T (mkF m pc ls (.int y :: .int x :: st)) := by
  obtain ⟨locs, kk, n, X, -⟩ := S
  exact own_step (fun t k => XS.idiv X.here C.1 rfl (own_hd C hd) rfl hy k) k
theorem own_irem (C : own_Cx p s m meth c Z own cd maxL ret nm) (S : own_S p l e R s m args below meth c n0 T h cells slots) {x y : Int32} (hd : decode cd pc = .ok (.irem, 1)) (hy : y ≠ 0) (k : own_Go p e below En T (mkF m (pc + 1) ls (.int (x % y) :: st))) : own_Go p e below En T (mkF m pc ls (.int y :: .int x :: st)) := by
  obtain ⟨locs, kk, n, X, -⟩ := S
  exact own_step (fun t k => iremM X C.1 rfl (own_hd C hd) rfl hy k) k
theorem own_dcmp (C : own_Cx p s m meth c Z own cd maxL ret nm) (S : own_S p l e R s m args below meth c n0 T h cells slots) {o : CmpOp} {x y : UInt64} (v : Int32) (hd : decode cd pc = .ok (.dcmp o, 1)) (hv : cmpValue (FP.dcmp x y) o = v) (k : own_Go p e below En T (mkF m (pc + 1) ls (.int v :: st))) : own_Go p e below En T (mkF m pc ls (.double y :: .double x :: st)) := by
  obtain ⟨locs, kk, n, X, -⟩ := S
  exact own_step (fun t k => XS.dcmpS X.here C.1 rfl (own_hd C hd) rfl hv k) k
theorem own_ddiv (C : own_Cx p s m meth c Z own cd maxL ret nm) (S : own_S p l e R s m args below meth c n0 T h cells slots) {x y : UInt64} (v : UInt64) (hd : decode cd pc = .ok (.ddiv, 1)) (hn : Jvm.Free.Fl.NoNaN64 (FP.ddiv x y)) (hv : FP.ddiv x y = v) (k : own_Go p e below En T (mkF m (pc + 1) ls (.double v :: st))) : own_Go p e below En T (mkF m pc ls (.double y :: .double x :: st)) := by
  obtain ⟨locs, kk, n, X, -⟩ := S
  exact own_step (fun t k => XS.ddivS X.here C.1 rfl (own_hd C hd) rfl hn hv k) k
theorem own_dmul (C : own_Cx p s m meth c Z own cd maxL ret nm) (S : own_S p l e R s m args below meth c n0 T h cells slots) {x y : UInt64} (v : UInt64) (hd : decode cd pc = .ok (.dmul, 1)) (hn : Jvm.Free.Fl.NoNaN64 (FP.dmul x y)) (hv : FP.dmul x y = v) (k : own_Go p e below En T (mkF m (pc + 1) ls (.double v :: st))) : own_Go p e below En T (mkF m pc ls (.double y :: .double x :: st)) := by
  obtain ⟨locs, kk, n, X, -⟩ := S
  exact own_step (fun t k => XS.dmulS X.here C.1 rfl (own_hd C hd) rfl hn hv k) k
theorem own_dadd (C : own_Cx p s m meth c Z own cd maxL ret nm) (S : own_S p l e R s m args below meth c n0 T h cells slots) {x y : UInt64} (v : UInt64) (hd : decode cd pc = .ok (.dadd, 1)) (hn : Jvm.Free.Fl.NoNaN64 (FP.dadd x y)) (hv : FP.dadd x y = v) (k : own_Go p e below En T (mkF m (pc + 1) ls (.double v :: st))) : own_Go p e below En T (mkF m pc ls (.double y :: .double x :: st)) := by
  obtain ⟨locs, kk, n, X, -⟩ := S
  exact own_step (fun t k => XS.daddS X.here C.1 rfl (own_hd C hd) rfl hn hv k) k
theorem own_dconst0 (C : own_Cx p s m meth c Z own cd maxL ret nm) (S : own_S p l e R s m args below meth c n0 T h cells slots) (hd : decode cd pc = .ok (.dconst 0, 1)) (k : own_Go p e below En T (mkF m (pc + 1) ls (.double 0 :: st))) : own_Go p e below En T (mkF m pc ls st) := by
  obtain ⟨locs, kk, n, X, -⟩ := S
  exact own_step (fun t k => XS.dconst0 X.here C.1 rfl (own_hd C hd) rfl k) k
/-! constants -/
theorem own_ldc (C : own_Cx p s m meth c Z own cd maxL ret nm) (S : own_S p l e R s m args below meth c n0 T h cells slots) {index : Nat} {v : Int32} (w : (Jvm.Cond.constant own index v).before a0 Z = true) (hd : decode cd pc = .ok (.ldc index, 2)) (k : own_Go p e below En T (mkF m (pc + 2) ls (.int v :: st))) : own_Go p e below En T (mkF m pc ls st) := by
  obtain ⟨locs, kk, n, X, -⟩ := S
  exact own_step (fun t k => X.ldcInt C.1 C.2.2.2.1 (mv C.2.2.2.2.2.2.2 w) (g := mkF m pc ls st) rfl (own_hd C hd) t k) k
theorem own_ldc2D (C : own_Cx p s m meth c Z own cd maxL ret nm) (S : own_S p l e R s m args below meth c n0 T h cells slots) {index : Nat} {v : UInt64} (w : (Jvm.Cond.constantDouble own index v).before a0 Z = true) (hd : decode cd pc = .ok (.ldc2_w index, 3)) (k : own_Go p e below En T (mkF m (pc + 3) ls (.double v :: st))) : own_Go p e below En T (mkF m pc ls st) := by
  obtain ⟨locs, kk, n, X, -⟩ := S
  exact own_step (fun t k => X.ldc2DoubleC C.1 C.2.2.2.1 (mv C.2.2.2.2.2.2.2 w) (g := mkF m pc ls st) rfl (own_hd C hd) t k) k
theorem own_ldc2J (C : own_Cx p s m meth c Z own cd maxL ret nm) (S : own_S p l e R s m args below meth c n0 T h cells slots) {index : Nat} {v : Int64} (w : (Jvm.Cond.constantLong own index v).before a0 Z = true) (hd : decode cd pc = .ok (.ldc2_w index, 3)) (k : own_Go p e below En T (mkF m (pc + 3) ls (.long v :: st))) : own_Go p e below En T (mkF m pc ls st) := by
  obtain ⟨locs, kk, n, X, -⟩ := S
  exact own_step (fun t k => X.ldc2Long C.1 C.2.2.2.1 (mv C.2.2.2.2.2.2.2 w) (g := mkF m pc ls st) rfl (own_hd C hd) t k) k
/-! fields and objects -/
theorem own_getF (C : own_Cx p s m meth c Z own cd maxL ret nm) (S : own_S p l e R s m args below meth c n0 T h cells slots) {index : Nat} {R0 O n d host : String} {a : Addr} {v : Value} (w : (Jvm.Cond.fieldLink own index R0 n d).before a0 Z = true ∨ (Jvm.Cond.fieldLinkNest own index R0 n d host).before a0 Z = true) (via : Via Z R0 O n d) (FF : Fld Z h a O n d v) (hd : decode cd pc = .ok (.getfield index, 3))
    (k : ∀ T', own_S p l e R s m args below meth c n0 T' h cells slots → own_Go p e below En T' (mkF m (pc + 3) ls (v :: st))) : own_Go p e below En T (mkF m pc ls (.ref a :: st)) := by
  obtain ⟨locs, kk, nn, X, eT, N, q1, q2⟩ := S
  obtain ⟨T', X', e', stp⟩ := getF X C.1 C.2.2.2.2.2.2.2 C.2.2.2.1 w via eT FF (g := mkF m pc ls (.ref a :: st)) rfl rfl (own_hd C hd)
  exact own_step stp (k T' ⟨_, _, _, X', e', N, q1, q2⟩)
theorem own_getS (C : own_Cx p s m meth c Z own cd maxL ret nm) (S : own_S p l e R s m args below meth c n0 T h cells slots) {index : Nat} {R0 O n d : String} {v : Value} (w : (Jvm.Cond.fieldLink own index R0 n d).before a0 Z = true) (via : Via Z R0 O n d) (FF : Sta Z h O n d v) (hd : decode cd pc = .ok (.getstatic index, 3))
    (k : ∀ T', own_S p l e R s m args below meth c n0 T' h cells slots → own_Go p e below En T' (mkF m (pc + 3) ls (v :: st))) : own_Go p e below En T (mkF m pc ls st) := by
  obtain ⟨locs, kk, nn, X, eT, N, q1, q2⟩ := S
  obtain ⟨T', X', e', stp⟩ := getS X C.1 C.2.2.2.2.2.2.2 (host := "") C.2.2.2.1 w via eT FF (g := mkF m pc ls st) rfl (own_hd C hd)
  exact own_step stp (k T' ⟨_, _, _, X', e', N, q1, q2⟩)
theorem own_putF (C : own_Cx p s m meth c Z own cd maxL ret nm) (S : own_S p l e R s m args below meth c n0 T h cells slots) {index ki : Nat} {R0 O n d host Cl : String} {a : Addr} {v old : Value} {ty : FieldType} (w : (Jvm.Cond.fieldLink own index R0 n d).before a0 Z = true ∨ (Jvm.Cond.fieldLinkNest own index R0 n d host).before a0 Z = true) (via : Via Z R0 O n d) (FF : Fld Z h a O n d old) (E : Exa Z h a Cl)
    (L : (Jvm.Cond.lays Cl O n d).before a0 Z = true ∨ ((Jvm.Cond.laysFinal Cl O n d).before a0 Z = true ∧ own = O ∧ nm = "<init>")) (wi : (Jvm.Cond.instantiable Cl ki).before a0 Z = true) (hty : parseFieldDescriptor d = some ty) (hn : narrow ty v = v) (hf : fits ty v = true) (hge : n0 ≤ a) (hd : decode cd pc = .ok (.putfield index, 3))
    (k : ∀ T' h', own_S p l e R s m args below meth c n0 T' h' cells slots → Wr h h' a (Jvm.RoadKit.slotOf Z O n d) v → own_Go p e below En T' (mkF m (pc + 3) ls st)) : own_Go p e below En T (mkF m pc ls (v :: .ref a :: st)) := by
  obtain ⟨locs, kk, nn, X, eT, N, q1, q2⟩ := S
  obtain ⟨T', h', X', e', W, stp⟩ := putF X C.1 C.2.2.2.2.2.2.2 C.2.2.2.1 w via eT FF E (L.imp id (fun q => ⟨q.1, q.2.1, C.2.2.2.2.1.trans q.2.2⟩)) wi hty hn hf (g := mkF m pc ls (v :: .ref a :: st)) rfl rfl (own_hd C hd)
  exact own_step stp (k T' h' ⟨_, _, _, X', e', Fr.snoc X' N hge, q1, q2⟩ W)
theorem own_new (C : own_Cx p s m meth c Z own cd maxL ret nm) (S : own_S p l e R s m args below meth c n0 T h cells slots) {index ki : Nat} {Cl : String} (w : (Jvm.Cond.classLink own index Cl).before a0 Z = true) (wi : (Jvm.Cond.instantiable Cl ki).before a0 Z = true) (wz : (Jvm.Cond.initialized Cl).before a0 Z = true) (hd : decode cd pc = .ok (.new index, 3)) (hc : cells + 1 ≤ R.cells) (hl : slots + ki ≤ R.slots)
    (k : ∀ T' h' a, own_S p l e R s m args below meth c n0 T' h' (cells + 1) (slots + ki) → a = h.size → Ext h h' → Exa Z h' a Cl → (∀ {O nm d : String} {ty : FieldType}, Laid Z a0 Cl O nm d → parseFieldDescriptor d = some ty → Fld Z h' a O nm d (defaultValue ty)) → own_Go p e below En T' (mkF m (pc + 3) ls (.ref a :: st))) : own_Go p e below En T (mkF m pc ls st) := by
  obtain ⟨locs, kk, nn, X, eT, N, q1, q2⟩ := S
  obtain ⟨T', h', X', e', E, A, D, -, stp⟩ := newO X C.1 C.2.2.2.2.2.2.2 C.2.2.2.1 w wi wz eT (g := mkF m pc ls st) rfl (own_hd C hd) (by omega) (by omega)
  exact own_step stp (k T' h' _ ⟨_, _, _, X', e', N, by omega, by omega⟩ rfl E A D)
theorem own_initO (C : own_Cx p s m meth c Z own cd maxL ret nm) (S : own_S p l e R s m args below meth c n0 T h cells slots) {index : Nat} (w1 : (Jvm.Cond.methodLink own index Lib.objectInit).before a0 Z = true) (w2 : (Jvm.Cond.instanceMethod Lib.objectInit).before a0 Z = true) (w3 : (Jvm.Cond.code Lib.objectInit ⟨#[0xb1]⟩ 1 none).before a0 Z = true) {a : Addr} (hsz : ls.size = maxL) (hd : decode cd pc = .ok (.invokespecial index, 3)) (hf : 1 ≤ R.frames) (W : Nat) (hW : (st.map fun v => v.category).sum ≤ W) (hl : W + 12 ≤ R.locals)
    (k : ∀ T', own_S p l e R s m args below meth c n0 T' h cells slots → own_Go p e below En T' (mkF m (pc + 3) ls st)) : own_Go p e below En T (mkF m pc ls (.ref a :: st)) := by
  obtain ⟨locs, kk, nn, X, eT, N, q1, q2⟩ := S
  obtain ⟨T', X', e', stp⟩ := initO X C.1 C.2.2.2.2.2.2.2 C.2.2.2.1 w1 w2 w3 eT (g := mkF m pc ls (.ref a :: st)) rfl (own_hsz C hsz) rfl (own_hd C hd) hf (W := W) (by show 2 * 0 + _ ≤ W; omega) hl
  exact own_step stp (k T' ⟨_, _, _, X', e', N, q1, q2⟩)
/-! arrays -/
theorem own_newP (C : own_Cx p s m meth c Z own cd maxL ret nm) (S : own_S p l e R s m args below meth c n0 T h cells slots) {aty : ArrayType} (w : (Jvm.Cond.arrayClass (newarray.typeOf aty)).before a0 Z = true) (hd : decode cd pc = .ok (.newarray aty, 2)) {n : Int32} (hn : ¬ n < 0) (cap : Nat) (hcap : n.toNatClampNeg ≤ cap) (hb : cap * 8 ≤ 536870912) (hc : cells + 1 ≤ R.cells) (hl : slots + cap ≤ R.slots)
    (k : ∀ T' h' a cA, own_S p l e R s m args below meth c n0 T' h' (cells + 1) (slots + cap) → a = h.size → Ext h h' → Arv Z h' a cA (newarray.typeOf aty) n [] (defaultValue (newarray.typeOf aty)) → own_Go p e below En T' (mkF m (pc + 2) ls (.ref a :: st))) : own_Go p e below En T (mkF m pc ls (.int n :: st)) := by
  obtain ⟨locs, kk, nn, X, eT, N, q1, q2⟩ := S
  obtain ⟨T', h', cA, X', e', E, A, stp⟩ := newP X C.1 C.2.2.2.2.2.2.2 w eT (g := mkF m pc ls (.int n :: st)) rfl (own_hd C hd) rfl hn hcap hb (by omega) (by omega)
  exact own_step stp (k T' h' _ cA ⟨_, _, _, X', e', N, by omega, by omega⟩ rfl E (Arv.new A hn))
theorem own_alen (C : own_Cx p s m meth c Z own cd maxL ret nm) (S : own_S p l e R s m args below meth c n0 T h cells slots) {a : Addr} {ka : ClassId} {ty : FieldType} {N : Int32} {vs : List Value} {dv : Value} (FF : Arv Z h a ka ty N vs dv) (hd : decode cd pc = .ok (.arraylength, 1)) (k : own_Go p e below En T (mkF m (pc + 1) ls (.int N :: st))) : own_Go p e below En T (mkF m pc ls (.ref a :: st)) := by
  obtain ⟨locs, kk, nn, X, eT, -⟩ := S
  obtain ⟨cl, A, -, sz, hN, -⟩ := FF
  rw [← len_of sz hN] at k
  exact own_step (fun t k => X.arraylength C.1 (by rw [eT]; exact A.1) (State.isArrayOf_alike C.2.2.2.2.2.2.2.alike A.2.1) (g := mkF m pc ls (.ref a :: st)) rfl rfl (own_hd C hd) t k) k
theorem own_caload (C : own_Cx p s m meth c Z own cd maxL ret nm) (S : own_S p l e R s m args below meth c n0 T h cells slots) {a : Addr} {ka : ClassId} {N j : Int32} {vs : List Value} {dv : Value} (FF : Arv Z h a ka .char N vs dv) (hin : ¬ j < 0 ∧ j < N) (v : Value) (hv : vs.getD j.toNatClampNeg dv = v) (hd : decode cd pc = .ok (.caload, 1)) (k : own_Go p e below En T (mkF m (pc + 1) ls (v :: st))) : own_Go p e below En T (mkF m pc ls (.int j :: .ref a :: st)) := by
  obtain ⟨locs, kk, nn, X, eT, -⟩ := S
  obtain ⟨cl, A, -, sz, hN, H, -⟩ := FF
  exact own_step (fun t k => X.caload C.1 (by rw [eT]; exact A.1) (State.isArrayOf_alike C.2.2.2.2.2.2.2.alike A.2.1) A.2.2 (inb_of sz hin) (Has.at H (inb_of sz hin) hv) (g := mkF m pc ls (.int j :: .ref a :: st)) rfl rfl (own_hd C hd) t k) k
theorem own_iaload (C : own_Cx p s m meth c Z own cd maxL ret nm) (S : own_S p l e R s m args below meth c n0 T h cells slots) {a : Addr} {ka : ClassId} {N j : Int32} {vs : List Value} {dv : Value} (FF : Arv Z h a ka .int N vs dv) (hin : ¬ j < 0 ∧ j < N) (v : Value) (hv : vs.getD j.toNatClampNeg dv = v) (hd : decode cd pc = .ok (.iaload, 1)) (k : own_Go p e below En T (mkF m (pc + 1) ls (v :: st))) : own_Go p e below En T (mkF m pc ls (.int j :: .ref a :: st)) := by
  obtain ⟨locs, kk, nn, X, eT, -⟩ := S
  obtain ⟨cl, A, -, sz, hN, H, -⟩ := FF
  exact own_step (fun t k => X.iaload C.1 (by rw [eT]; exact A.1) (State.isArrayOf_alike C.2.2.2.2.2.2.2.alike A.2.1) A.2.2 (inb_of sz hin) (Has.at H (inb_of sz hin) hv) (g := mkF m pc ls (.int j :: .ref a :: st)) rfl rfl (own_hd C hd) t k) k
theorem own_baload (C : own_Cx p s m meth c Z own cd maxL ret nm) (S : own_S p l e R s m args below meth c n0 T h cells slots) {a : Addr} {ka : ClassId} {N j : Int32} {vs : List Value} {dv : Value} (FF : Arv Z h a ka .byte N vs dv) (hin : ¬ j < 0 ∧ j < N) (v : Value) (hv : vs.getD j.toNatClampNeg dv = v) (hd : decode cd pc = .ok (.baload, 1)) (k : own_Go p e below En T (mkF m (pc + 1) ls (v :: st))) : own_Go p e below En T (mkF m pc ls (.int j :: .ref a :: st)) := by
  obtain ⟨locs, kk, nn, X, eT, -⟩ := S
  obtain ⟨cl, A, -, sz, hN, H, -⟩ := FF
  exact own_step (fun t k => X.baloadBytes C.1 (by rw [eT]; exact A.1) (State.isArrayOf_alike C.2.2.2.2.2.2.2.alike A.2.1) A.2.2 (inb_of sz hin) (Has.at H (inb_of sz hin) hv) (g := mkF m pc ls (.int j :: .ref a :: st)) rfl rfl (own_hd C hd) t k) k
theorem own_daload (C : own_Cx p s m meth c Z own cd maxL ret nm) (S : own_S p l e R s m args below meth c n0 T h cells slots) {a : Addr} {ka : ClassId} {N j : Int32} {vs : List Value} {dv : Value} (FF : Arv Z h a ka .double N vs dv) (hin : ¬ j < 0 ∧ j < N) (v : Value) (hv : vs.getD j.toNatClampNeg dv = v) (hd : decode cd pc = .ok (.daload, 1)) (k : own_Go p e below En T (mkF m (pc + 1) ls (v :: st))) : own_Go p e below En T (mkF m pc ls (.int j :: .ref a :: st)) := by
  obtain ⟨locs, kk, nn, X, eT, -⟩ := S
  obtain ⟨cl, A, -, sz, hN, H, -⟩ := FF
  exact own_step (fun t k => X.daload C.1 (by rw [eT]; exact A.1) (State.isArrayOf_alike C.2.2.2.2.2.2.2.alike A.2.1) A.2.2 (inb_of sz hin) (Has.at H (inb_of sz hin) hv) (g := mkF m pc ls (.int j :: .ref a :: st)) rfl rfl (own_hd C hd) t k) k
theorem own_castore (C : own_Cx p s m meth c Z own cd maxL ret nm) (S : own_S p l e R s m args below meth c n0 T h cells slots) {a : Addr} {ka : ClassId} {N j x : Int32} {vs : List Value} {dv : Value} (FF : Arv Z h a ka .char N vs dv) (hin : ¬ j < 0 ∧ j < N) (i : Nat) (hj : j.toNatClampNeg = i) (hi : i < vs.length) (x' : Int32) (hx' : nar .char x = x') (hge : n0 ≤ a) (hd : decode cd pc = .ok (.castore, 1))
    (k : ∀ T' h', own_S p l e R s m args below meth c n0 T' h' cells slots → Wr h h' a j.toNatClampNeg (.int x') → Arv Z h' a ka .char N (vs.set i (.int x')) dv → own_Go p e below En T' (mkF m (pc + 1) ls st)) : own_Go p e below En T (mkF m pc ls (.int x :: .int j :: .ref a :: st)) := by
  subst hx'
  obtain ⟨locs, kk, nn, X, eT, N, q1, q2⟩ := S
  obtain ⟨cl, A, ck, sz, hN, H, G⟩ := FF
  obtain ⟨T', h', X', e', W, stp⟩ := stC X C.1 C.2.2.2.2.2.2.2 eT A (inb_of sz hin) (g := mkF m pc ls (.int x :: .int j :: .ref a :: st)) rfl rfl (own_hd C hd)
  exact own_step stp (k T' h' ⟨_, _, _, X', e', Fr.snoc X' N hge, q1, q2⟩ W (Arv.set A ck sz hN H G (fits_nar_char x) W i hj hi))
theorem own_bastore (C : own_Cx p s m meth c Z own cd maxL ret nm) (S : own_S p l e R s m args below meth c n0 T h cells slots) {a : Addr} {ka : ClassId} {N j x : Int32} {vs : List Value} {dv : Value} (FF : Arv Z h a ka .byte N vs dv) (hin : ¬ j < 0 ∧ j < N) (i : Nat) (hj : j.toNatClampNeg = i) (hi : i < vs.length) (x' : Int32) (hx' : nar .byte x = x') (hge : n0 ≤ a) (hd : decode cd pc = .ok (.bastore, 1))
    (k : ∀ T' h', own_S p l e R s m args below meth c n0 T' h' cells slots → Wr h h' a j.toNatClampNeg (.int x') → Arv Z h' a ka .byte N (vs.set i (.int x')) dv → own_Go p e below En T' (mkF m (pc + 1) ls st)) : own_Go p e below En T (mkF m pc ls (.int x :: .int j :: .ref a :: st)) := by
  subst hx'
  obtain ⟨locs, kk, nn, X, eT, N, q1, q2⟩ := S
  obtain ⟨cl, A, ck, sz, hN, H, G⟩ := FF
  obtain ⟨T', h', X', e', W, stp⟩ := stB X C.1 C.2.2.2.2.2.2.2 eT A (inb_of sz hin) (g := mkF m pc ls (.int x :: .int j :: .ref a :: st)) rfl rfl (own_hd C hd)
  exact own_step stp (k T' h' ⟨_, _, _, X', e', Fr.snoc X' N hge, q1, q2⟩ W (Arv.set A ck sz hN H G (fits_nar_byte x) W i hj hi))
theorem own_iastore (C : own_Cx p s m meth c Z own cd maxL ret nm) (S : own_S p l e R s m args below meth c n0 T h cells slots) {a : Addr} {ka : ClassId} {N j x : Int32} {vs : List Value} {dv : Value} (FF : Arv Z h a ka .int N vs dv) (hin : ¬ j < 0 ∧ j < N) (i : Nat) (hj : j.toNatClampNeg = i) (hi : i < vs.length) (hge : n0 ≤ a) (hd : decode cd pc = .ok (.iastore, 1))
    (k : ∀ T' h', own_S p l e R s m args below meth c n0 T' h' cells slots → Wr h h' a j.toNatClampNeg (.int x) → Arv Z h' a ka .int N (vs.set i (.int x)) dv → own_Go p e below En T' (mkF m (pc + 1) ls st)) : own_Go p e below En T (mkF m pc ls (.int x :: .int j :: .ref a :: st)) := by
  obtain ⟨locs, kk, nn, X, eT, N, q1, q2⟩ := S
  obtain ⟨cl, A, ck, sz, hN, H, G⟩ := FF
  obtain ⟨T', h', X', e', W, stp⟩ := stI X C.1 C.2.2.2.2.2.2.2 eT A (inb_of sz hin) (g := mkF m pc ls (.int x :: .int j :: .ref a :: st)) rfl rfl (own_hd C hd)
  exact own_step stp (k T' h' ⟨_, _, _, X', e', Fr.snoc X' N hge, q1, q2⟩ W (Arv.set A ck sz hN H G rfl W i hj hi))
theorem own_dastore (C : own_Cx p s m meth c Z own cd maxL ret nm) (S : own_S p l e R s m args below meth c n0 T h cells slots) {a : Addr} {ka : ClassId} {N j : Int32} {x : UInt64} {vs : List Value} {dv : Value} (FF : Arv Z h a ka .double N vs dv) (hin : ¬ j < 0 ∧ j < N) (i : Nat) (hj : j.toNatClampNeg = i) (hi : i < vs.length) (hge : n0 ≤ a) (hd : decode cd pc = .ok (.dastore, 1))
    (k : ∀ T' h', own_S p l e R s m args below meth c n0 T' h' cells slots → Wr h h' a j.toNatClampNeg (.double x) → Arv Z h' a ka .double N (vs.set i (.double x)) dv → own_Go p e below En T' (mkF m (pc + 1) ls st)) : own_Go p e below En T (mkF m pc ls (.double x :: .int j :: .ref a :: st)) := by
  obtain ⟨locs, kk, nn, X, eT, N, q1, q2⟩ := S
  obtain ⟨cl, A, ck, sz, hN, H, G⟩ := FF
  obtain ⟨T', h', X', e', W, stp⟩ := stD X C.1 C.2.2.2.2.2.2.2 eT A (inb_of sz hin) (g := mkF m pc ls (.double x :: .int j :: .ref a :: st)) rfl rfl (own_hd C hd)
  exact own_step stp (k T' h' ⟨_, _, _, X', e', Fr.snoc X' N hge, q1, q2⟩ W (Arv.set A ck sz hN H G rfl W i hj hi))
/-! arrays of objects, casts -/
theorem own_newR (C : own_Cx p s m meth c Z own cd maxL ret nm) (S : own_S p l e R s m args below meth c n0 T h cells slots) {index : Nat} {Cl : String} (w1 : (Jvm.Cond.classLink own index Cl).before a0 Z = true) (w2 : (Jvm.Cond.arrayOver (.object Cl)).before a0 Z = true) (hd : decode cd pc = .ok (.anewarray index, 3)) {n : Int32} (hn : ¬ n < 0) (cap : Nat) (hcap : n.toNatClampNeg ≤ cap) (hb : cap * 8 ≤ 536870912) (hc : cells + 1 ≤ R.cells) (hl : slots + cap ≤ R.slots)
    (k : ∀ T' h' a cA, own_S p l e R s m args below meth c n0 T' h' (cells + 1) (slots + cap) → a = h.size → Ext h h' → Arv Z h' a cA (.object Cl) n [] .null → Ovr Z cA Cl → own_Go p e below En T' (mkF m (pc + 3) ls (.ref a :: st))) : own_Go p e below En T (mkF m pc ls (.int n :: st)) := by
  obtain ⟨locs, kk, nn, X, eT, N, q1, q2⟩ := S
  obtain ⟨T', h', cA, X', e', E, A, O, stp⟩ := newR X C.1 C.2.2.2.2.2.2.2 C.2.2.2.1 w1 w2 eT (g := mkF m pc ls (.int n :: st)) rfl (own_hd C hd) rfl hn hcap hb (by omega) (by omega)
  exact own_step stp (k T' h' _ cA ⟨_, _, _, X', e', N, by omega, by omega⟩ rfl E (Arv.new A hn) O)
theorem own_aaload (C : own_Cx p s m meth c Z own cd maxL ret nm) (S : own_S p l e R s m args below meth c n0 T h cells slots) {a : Addr} {ka : ClassId} {ty : FieldType} {N j : Int32} {vs : List Value} {dv : Value} (FF : Arv Z h a ka ty N vs dv) (hty : ty.isReference = true) (hin : ¬ j < 0 ∧ j < N) (v : Value) (hv : vs.getD j.toNatClampNeg dv = v) (hd : decode cd pc = .ok (.aaload, 1)) (k : own_Go p e below En T (mkF m (pc + 1) ls (v :: st))) : own_Go p e below En T (mkF m pc ls (.int j :: .ref a :: st)) := by
  obtain ⟨locs, kk, nn, X, eT, -⟩ := S
  obtain ⟨cl, A, -, sz, hN, H, -⟩ := FF
  exact own_step (fun t k => X.aaload C.1 (by rw [eT]; exact A.1) (State.isArrayOf_alike C.2.2.2.2.2.2.2.alike A.2.1) hty A.2.2 (inb_of sz hin) (Has.at H (inb_of sz hin) hv) (g := mkF m pc ls (.int j :: .ref a :: st)) rfl rfl (own_hd C hd) t k) k
theorem own_aastore (C : own_Cx p s m meth c Z own cd maxL ret nm) (S : own_S p l e R s m args below meth c n0 T h cells slots) {a y : Addr} {ka : ClassId} {Cl : String} {N j : Int32} {vs : List Value} {dv : Value} (FF : Arv Z h a ka (.object Cl) N vs dv) (O : Ovr Z ka Cl) (I : Ins Z h y Cl true) (hin : ¬ j < 0 ∧ j < N) (i : Nat) (hj : j.toNatClampNeg = i) (hi : i < vs.length) (hge : n0 ≤ a) (hd : decode cd pc = .ok (.aastore, 1))
    (k : ∀ T' h', own_S p l e R s m args below meth c n0 T' h' cells slots → Wr h h' a j.toNatClampNeg (.ref y) → Arv Z h' a ka (.object Cl) N (vs.set i (.ref y)) dv → own_Go p e below En T' (mkF m (pc + 1) ls st)) : own_Go p e below En T (mkF m pc ls (.ref y :: .int j :: .ref a :: st)) := by
  obtain ⟨locs, kk, nn, X, eT, N, q1, q2⟩ := S
  obtain ⟨cl, A, ck, sz, hN, H, G⟩ := FF
  obtain ⟨T', h', X', e', W, stp⟩ := stR X C.1 C.2.2.2.2.2.2.2 eT A (inb_of sz hin) rfl (Sto.ofV A ck O I) (g := mkF m pc ls (.ref y :: .int j :: .ref a :: st)) rfl rfl (own_hd C hd)
  exact own_step stp (k T' h' ⟨_, _, _, X', e', Fr.snoc X' N hge, q1, q2⟩ W (Arv.set A ck sz hN H G rfl W i hj hi))
theorem own_cast (C : own_Cx p s m meth c Z own cd maxL ret nm) (S : own_S p l e R s m args below meth c n0 T h cells slots) {index : Nat} {K : String} {a : Addr} (w : (Jvm.Cond.classLink own index K).before a0 Z = true) (FF : Ins Z h a K true) (hd : decode cd pc = .ok (.checkcast index, 3))
    (k : ∀ T', own_S p l e R s m args below meth c n0 T' h cells slots → own_Go p e below En T' (mkF m (pc + 3) ls (.ref a :: st))) : own_Go p e below En T (mkF m pc ls (.ref a :: st)) := by
  obtain ⟨locs, kk, nn, X, eT, N, q1, q2⟩ := S
  obtain ⟨T', X', e', stp⟩ := castY X C.1 C.2.2.2.2.2.2.2 C.2.2.2.1 w eT FF (g := mkF m pc ls (.ref a :: st)) rfl rfl (own_hd C hd)
  exact own_step stp (k T' ⟨_, _, _, X', e', N, q1, q2⟩)
theorem own_inst (C : own_Cx p s m meth c Z own cd maxL ret nm) (S : own_S p l e R s m args below meth c n0 T h cells slots) {index : Nat} {K : String} {a : Addr} (w : (Jvm.Cond.classLink own index K).before a0 Z = true) (FF : Ins Z h a K true) (hd : decode cd pc = .ok (.instanceof index, 3))
    (k : ∀ T', own_S p l e R s m args below meth c n0 T' h cells slots → own_Go p e below En T' (mkF m (pc + 3) ls (.int 1 :: st))) : own_Go p e below En T (mkF m pc ls (.ref a :: st)) := by
  obtain ⟨locs, kk, nn, X, eT, N, q1, q2⟩ := S
  obtain ⟨T', X', e', stp⟩ := instY X C.1 C.2.2.2.2.2.2.2 C.2.2.2.1 w eT FF (g := mkF m pc ls (.ref a :: st)) rfl rfl (own_hd C hd)
  exact own_step stp (k T' ⟨_, _, _, X', e', N, q1, q2⟩)
/-! the end -/
theorem own_ret {t : FieldType} (C : own_Cx p s m meth c Z own cd maxL (some t) nm) (S : own_S p l e R s m args below meth c n0 T h cells slots) {i : Instr} {w : Value} (hd : decode cd pc = .ok (i, 1)) (hn : narrow t w = w)
    (hi : (i = .ireturn ∧ (t = .int ∨ t = .boolean ∨ t = .byte ∨ t = .char ∨ t = .short) ∧ ∃ z, w = .int z) ∨ (i = .lreturn ∧ t = .long ∧ ∃ z, w = .long z) ∨ (i = .dreturn ∧ t = .double ∧ ∃ z, w = .double z) ∨ (i = .freturn ∧ t = .float ∧ ∃ z, w = .float z) ∨ (i = .areturn ∧ t.isReference = true ∧ w.isRef = true))
    (hc : cells ≤ kc) (hs : slots ≤ ks) (hF : F (some w) h) : own_Go p e below (own_En s n0 F kc ks) T (mkF m pc ls (w :: st)) := by
  obtain ⟨locs, kk, nn, X, eT, N, q1, q2⟩ := S
  obtain ⟨fs, hr, hrun, hended, hW, hsame⟩ := X.leave (v := some w) (fun q => by rw [C.2.2.2.2.2.1] at q; cases q) C.2.2.2.2.2.2.1
  refine ⟨_, _, retOut X C.1 C.2.2.2.2.2.1 hn hi (own_hd C hd) hr, hrun, hended, _, _, rfl, ⟨?_, N⟩, ⟨_, rfl⟩, hW, hsame.mono (Nat.le_trans q1 hc) (Nat.le_trans q2 hs)⟩
  show F (some w) T.heap
  rw [eT]; exact hF
theorem own_retI (C : own_Cx p s m meth c Z own cd maxL (some .int) nm) (S : own_S p l e R s m args below meth c n0 T h cells slots) {z : Int32} (hd : decode cd pc = .ok (.ireturn, 1)) (hc : cells ≤ kc) (hs : slots ≤ ks) (hF : F (some (.int z)) h) : own_Go p e below (own_En s n0 F kc ks) T (mkF m pc ls (.int z :: st)) :=
  own_ret C S hd rfl (Or.inl ⟨rfl, Or.inl rfl, z, rfl⟩) hc hs hF
theorem own_retZ (C : own_Cx p s m meth c Z own cd maxL (some .boolean) nm) (S : own_S p l e R s m args below meth c n0 T h cells slots) {z : Int32} (hd : decode cd pc = .ok (.ireturn, 1)) (hz : z &&& 1 = z) (hc : cells ≤ kc) (hs : slots ≤ ks) (hF : F (some (.int z)) h) : own_Go p e below (own_En s n0 F kc ks) T (mkF m pc ls (.int z :: st)) :=
  own_ret C S hd (by show Value.int (z &&& 1) = _; rw [hz]) (Or.inl ⟨rfl, Or.inr (Or.inl rfl), z, rfl⟩) hc hs hF
theorem own_retC (C : own_Cx p s m meth c Z own cd maxL (some .char) nm) (S : own_S p l e R s m args below meth c n0 T h cells slots) {z : Int32} (hd : decode cd pc = .ok (.ireturn, 1)) (hz : z.toUInt32.toUInt16.toUInt32.toInt32 = z) (hc : cells ≤ kc) (hs : slots ≤ ks) (hF : F (some (.int z)) h) : own_Go p e below (own_En s n0 F kc ks) T (mkF m pc ls (.int z :: st)) :=
  own_ret C S hd (by show Value.int (z.toUInt32.toUInt16.toUInt32.toInt32) = _; rw [hz]) (Or.inl ⟨rfl, by simp, z, rfl⟩) hc hs hF
theorem own_retA {t : FieldType} (C : own_Cx p s m meth c Z own cd maxL (some t) nm) (S : own_S p l e R s m args below meth c n0 T h cells slots) {w : Value} (ht : t.isReference = true) (hr : w.isRef = true) (hd : decode cd pc = .ok (.areturn, 1)) (hc : cells ≤ kc) (hs : slots ≤ ks) (hF : F (some w) h) : own_Go p e below (own_En s n0 F kc ks) T (mkF m pc ls (w :: st)) :=
  own_ret C S hd (by cases w <;> simp [Value.isRef] at hr <;> cases t <;> first | rfl | (simp [FieldType.isReference] at ht)) (by simp [ht, hr]) hc hs hF
theorem own_retD (C : own_Cx p s m meth c Z own cd maxL (some .double) nm) (S : own_S p l e R s m args below meth c n0 T h cells slots) {z : UInt64} (hd : decode cd pc = .ok (.dreturn, 1)) (hc : cells ≤ kc) (hs : slots ≤ ks) (hF : F (some (.double z)) h) : own_Go p e below (own_En s n0 F kc ks) T (mkF m pc ls (.double z :: st)) :=
  own_ret C S hd rfl (by simp) hc hs hF
theorem own_retV (C : own_Cx p s m meth c Z own cd maxL none nm) (S : own_S p l e R s m args below meth c n0 T h cells slots) (hd : decode cd pc = .ok (.return_, 1)) (hc : cells ≤ kc) (hs : slots ≤ ks) (hF : F none h) : own_Go p e below (own_En s n0 F kc ks) T (mkF m pc ls []) := by
  obtain ⟨locs, kk, nn, X, eT, N, q1, q2⟩ := S
  obtain ⟨fs, hr, hrun, hended, hW, hsame⟩ := X.leave (v := none) (fun _ => rfl) C.2.2.2.2.2.2.1
  refine ⟨_, _, X.returnOut C.1 C.2.2.2.2.2.1 (own_hd C hd) hr, hrun, hended, _, _, rfl, ⟨?_, N⟩, ⟨_, rfl⟩, hW, hsame.mono (Nat.le_trans q1 hc) (Nat.le_trans q2 hs)⟩
  show F none T.heap
  rw [eT]; exact hF
/-! contracts -/
def own_Met (l : Launch) (Z : State) (y : MethodName) (cd : ByteArray) (maxL : Nat) (ret : Option FieldType) (rm : Room) (n0 : Nat) (as' : Array Value) (h0 : Heap) (Q : Option Value → Heap → Prop) : Prop :=
  ∀ ws, MetFree l y (head1 (Jvm.Cond.code y cd maxL ret :: ws) rm) (fun a U => a = as' ∧ Z.Warmed39 U.vm ∧ U.heap = h0) (fun _ _ _ _ _ => True) (fun _ U o U' => ∃ v L, o = .returned v ∧ (Q v U'.heap ∧ Fr n0 L) ∧ FrameEnd U o U' L rm.cells rm.slots)
theorem own_met {y : MethodName} {rm : Room} {as' : Array Value} {h0 : Heap} {Q : Option Value → Heap → Prop} (hp : plainFor y = true) (ls : Array Slot) (hef : ∀ m, entryFrame m as' maxL = mkF m 0 ls [])
    (H : ∀ (p : Program) (e : Env) (s : State) (m : MethodId) (below : List Frame) (meth : Method) (c : Code) (T : State), own_Cx p s m meth c Z y.cls cd maxL ret y.name → own_S p l e rm s m as' below meth c n0 T h0 0 0 → own_Go p e below (own_En s n0 Q rm.cells rm.slots) T (mkF m 0 ls [])) : own_Met l Z y cd maxL ret rm n0 as' h0 Q := by
  intro ws
  refine MetFree.of_bodySF hp hisR ?_
  intro p e s m args below meth c s₁ Bd hml hP hK
  obtain ⟨rfl, hZ, hh⟩ := hP
  have e0 : s₁.heap = h0 := by rw [← hh, Bd.state]; rfl
  have G := H p e s m below meth c s₁ ⟨Bd.exec, Bd.bytes, hml, findClass_of_methodNamed Bd.named, (name_of_methodNamed Bd.named Bd.method).1, Bd.returns, BodyLoose.notSynchronized Bd, hZ⟩ ⟨_, _, _, Stand.of_body Bd, e0, Fr.nil n0, Nat.le_refl _, Nat.le_refl _⟩
  rw [← hef m] at G
  exact G
/-! calls -/
/-- who pays a call -/
abbrev own_Pay (l : Launch) (R : Room) (p : Program) (e : Env) (below : List Frame) (s : State) (args : Array Value) (y : MethodName) (len W : Nat) (as' : Array Value) (h : Heap) (k1 k2 : Nat) (Q : Option Value → Heap → List Loc → Prop) : Prop :=
  Back l R p e below s args y len W (fun P a => a = as' ∧ P.U.heap = h ∧ P.cells + k1 ≤ R.cells ∧ P.slots + k2 ≤ R.slots) (fun P _ v B => ∃ L, Q v B.U.heap L ∧ B.locs = P.locs ++ L ∧ B.cells = P.cells + k1 ∧ B.slots = P.slots + k2)
theorem own_Met.pay {y : MethodName} {cdy : ByteArray} {maxy : Nat} {rety : Option FieldType} {rm : Room} {as' : Array Value} {Q : Option Value → Heap → Prop} (M : own_Met l Z y cdy maxy rety rm n0 as' h Q) (C : own_Cx p s m meth c Z own cd maxL ret nm) {len : Nat} (W : Nat) (wc : (Jvm.Cond.code y cdy maxy rety).before a0 Z = true) (wz : (Jvm.Cond.initialized y.cls).before a0 Z = true) (hf : rm.frames + 1 ≤ R.frames) (hl : W + (maxy + 11) + rm.locals ≤ R.locals) :
    own_Pay l R p e below s args y len W as' h rm.cells rm.slots (fun v h' L => Q v h' ∧ Fr n0 L) := backOf (Q := fun v h' L => Q v h' ∧ Fr n0 L) (M []) C.2.2.2.2.2.2.2 wc wz hf hl
theorem own_callS (C : own_Cx p s m meth c Z own cd maxL ret nm) (S : own_S p l e R s m args below meth c n0 T h cells slots) {y : MethodName} {index : Nat} {cdy : ByteArray} {maxy : Nat} {rety : Option FieldType} {W k1 k2 : Nat} {as' : Array Value} {Q : Option Value → Heap → List Loc → Prop}
    (w1 : (Jvm.Cond.methodLink own index y).before a0 Z = true) (w2 : (Jvm.Cond.static y).before a0 Z = true) (w3 : (Jvm.Cond.initialized y.cls).before a0 Z = true) (w4 : (Jvm.Cond.code y cdy maxy rety).before a0 Z = true) (hy : y.cls ≠ "java/lang/invoke/MethodHandle" ∧ y.cls ≠ "java/lang/invoke/VarHandle")
    (hK : own_Pay l R p e below s args y 3 W as' h k1 k2 Q) (hfr : ∀ v h' L, Q v h' L → Fr n0 L) (argsL rest : List Value) {ps : List FieldType} {rr : Option FieldType} (has : argsL.toArray = as') (hpd : parseMethodDescriptor y.desc = some ⟨ps, rr⟩) (hlen : argsL.length = ps.length) (hstk : st = argsL.reverse ++ rest) (hsz : ls.size = maxL) (hW : (rest.map fun v => v.category).sum ≤ W)
    (hc : cells + k1 ≤ R.cells) (hs : slots + k2 ≤ R.slots) (hd : decode cd pc = .ok (.invokestatic index, 3))
    (k : ∀ T' h' v L, own_S p l e R s m args below meth c n0 T' h' (cells + k1) (slots + k2) → Q v h' L → own_Go p e below En T' (mkF m (pc + 3) ls (v.toList ++ rest))) : own_Go p e below En T (mkF m pc ls st) := by
  obtain ⟨locs, kk, nn, X, eT, N, q1, q2⟩ := S
  have hZ := C.2.2.2.2.2.2.2
  obtain ⟨v, vm1, B, -, X', ⟨L, hQ, l1, l2, l3⟩, stp⟩ := Jvm.LawKit.callS X C.1 C.2.2.2.1 (mvT hZ w1) (mvT hZ w2) (mvT hZ w3) (mvT hZ w4) hy hK (g := mkF m pc ls st) rfl (own_hsz C hsz) (argsL := argsL) (rest := rest) (lenOf hpd hlen) hstk (by show 2 * 0 + _ ≤ W; omega) (own_hd C hd) (fun _ _ => ⟨has, eT, by show kk + k1 ≤ _; omega, by show nn + k2 ≤ _; omega⟩)
  refine own_step stp (k B.U _ v L ⟨B.locs, B.cells, B.slots, X', rfl, ?_, ?_, ?_⟩ hQ)
  · rw [l1]; exact Fr.app N (hfr _ _ _ hQ)
  · rw [l2]; show kk + k1 ≤ _; omega
  · rw [l3]; show nn + k2 ≤ _; omega
theorem own_callI (C : own_Cx p s m meth c Z own cd maxL ret nm) (S : own_S p l e R s m args below meth c n0 T h cells slots) {y : MethodName} {index : Nat} {cdy : ByteArray} {maxy : Nat} {W k1 k2 : Nat} {as' : Array Value} {Q : Option Value → Heap → List Loc → Prop}
    (hy1 : y.name = "<init>") (w1 : (Jvm.Cond.methodLink own index y).before a0 Z = true) (w2 : (Jvm.Cond.instanceMethod y).before a0 Z = true) (w4 : (Jvm.Cond.code y cdy maxy none).before a0 Z = true) (hy : y.cls ≠ "java/lang/invoke/MethodHandle" ∧ y.cls ≠ "java/lang/invoke/VarHandle")
    (hK : own_Pay l R p e below s args y 3 W as' h k1 k2 Q) (hfr : ∀ v h' L, Q v h' L → Fr n0 L) {a : Addr} (argsL rest : List Value) {ps : List FieldType} {rr : Option FieldType} (has : (.ref a :: argsL).toArray = as') (hpd : parseMethodDescriptor y.desc = some ⟨ps, rr⟩) (hlen : argsL.length = ps.length) (hstk : st = argsL.reverse ++ .ref a :: rest) (hsz : ls.size = maxL) (hW : (rest.map fun v => v.category).sum ≤ W)
    (hc : cells + k1 ≤ R.cells) (hs : slots + k2 ≤ R.slots) (hd : decode cd pc = .ok (.invokespecial index, 3))
    (k : ∀ T' h' v L, own_S p l e R s m args below meth c n0 T' h' (cells + k1) (slots + k2) → Q v h' L → own_Go p e below En T' (mkF m (pc + 3) ls (v.toList ++ rest))) : own_Go p e below En T (mkF m pc ls st) := by
  obtain ⟨locs, kk, nn, X, eT, N, q1, q2⟩ := S
  have hZ := C.2.2.2.2.2.2.2
  obtain ⟨v, vm1, B, -, X', ⟨L, hQ, l1, l2, l3⟩, stp⟩ := X.specialBack C.1 hy1 C.2.2.2.1 (mvT hZ w1) (mvT hZ w2) (mvT hZ w4) hy hK (g := mkF m pc ls st) rfl (own_hsz C hsz) (Steps.refl _) (a := a) (argsL := argsL) (rest := rest) (lenOf hpd hlen) hstk (by show 2 * 0 + _ ≤ W; omega) (own_hd C hd) (fun _ _ => ⟨has, eT, by show kk + k1 ≤ _; omega, by show nn + k2 ≤ _; omega⟩)
  refine own_step (fun t k => stp.trans k) (k B.U _ v L ⟨B.locs, B.cells, B.slots, X', rfl, ?_, ?_, ?_⟩ hQ)
  · rw [l1]; exact Fr.app N (hfr _ _ _ hQ)
  · rw [l2]; show kk + k1 ≤ _; omega
  · rw [l3]; show nn + k2 ≤ _; omega
theorem own_nf {args : Array Value} {s : State} {C : String} {y y' : MethodName} (hyc : y'.cls = y.cls) (hsel : (Jvm.Cond.selects C y' y').before args s = true) : NotFace s y := fun r0 h0 => by
  obtain ⟨c2, r2, m2, q1, q2, q3, q4, kP, hkP, hkPi⟩ := Cond.selects_spec hsel
  have e1 := findClass_of_methodNamed h0
  have e2 := findClass_of_methodNamed q3
  rw [hyc, e1] at e2
  rw [Option.some.inj e2]
  exact ⟨kP, hkP, hkPi⟩
theorem own_selfP {C : String} {y : MethodName} (w1 : (Jvm.Cond.instanceMethod y).before a0 Z = true) (w2 : (Jvm.Cond.privateMethod y).before a0 Z = true) (w3 : (Jvm.Cond.selects C y y).before a0 Z = true) (hy : y.cls ≠ "java/lang/invoke/MethodHandle" ∧ y.cls ≠ "java/lang/invoke/VarHandle") : (Jvm.Cond.selects y.cls y y).before a0 Z = true := by
  obtain ⟨mk, methM, hnamed, hmethM, -, -⟩ := Cond.instanceMethod_spec w1
  obtain ⟨k, hk, hki⟩ := notFace_of_selects w3 mk hnamed
  exact selects_self_of_private (findClass_of_methodNamed hnamed) hk hki (Cond.privateMethod_at w2) w1 hy
theorem own_same {C : String} {y y' : MethodName} (hyc : y'.cls = y.cls) (w1 : (Jvm.Cond.instanceMethod y).before a0 Z = true) (w3 : (Jvm.Cond.selects C y' y').before a0 Z = true) (hy : y.cls ≠ "java/lang/invoke/MethodHandle" ∧ y.cls ≠ "java/lang/invoke/VarHandle") : (Jvm.Cond.sameMethod y.cls y.cls y.name y.desc).before a0 Z = true := by
  obtain ⟨mk, methM, hnamed, hmethM, -, -⟩ := Cond.instanceMethod_spec w1
  obtain ⟨k, hk, hki⟩ := own_nf hyc w3 mk hnamed
  have hf : Z.methodFound? y.cls y.name y.desc = some mk := State.methodFound?_of_named hnamed hy
  have hc := findClass_of_methodNamed hnamed
  have hn' : Z.methodNamed? ⟨y.cls, y.name, y.desc⟩ = some mk := hnamed
  simp only [Cond.before, Cond.holds, Cond.value, hc, hf, hn', hk]
  simp [hki]
theorem own_callV (C : own_Cx p s m meth c Z own cd maxL ret nm) (S : own_S p l e R s m args below meth c n0 T h cells slots) {y z : MethodName} {Cl : String} {index : Nat} {W k1 k2 : Nat} {as' : Array Value} {Q : Option Value → Heap → List Loc → Prop}
    (w1 : (Jvm.Cond.methodLink own index y).before a0 Z = true) (w2 : (Jvm.Cond.declares y).before a0 Z = true) (w3 : (Jvm.Cond.selects Cl y z).before a0 Z = true) {Cl' : String} {y' : MethodName} (hyc : y'.cls = y.cls) (w3' : (Jvm.Cond.selects Cl' y' y').before a0 Z = true) (w4 : (Jvm.Cond.instanceMethod z).before a0 Z = true) (hy : y.cls ≠ "java/lang/invoke/MethodHandle" ∧ y.cls ≠ "java/lang/invoke/VarHandle")
    (hK : own_Pay l R p e below s args z 3 W as' h k1 k2 Q) (hfr : ∀ v h' L, Q v h' L → Fr n0 L) {a : Addr} (E : Exa Z h a Cl) (argsL rest : List Value) {ps : List FieldType} {rr : Option FieldType} (has : (.ref a :: argsL).toArray = as') (hpd : parseMethodDescriptor y.desc = some ⟨ps, rr⟩) (hlen : argsL.length = ps.length) (hstk : st = argsL.reverse ++ .ref a :: rest) (hsz : ls.size = maxL) (hW : (rest.map fun v => v.category).sum ≤ W)
    (hc : cells + k1 ≤ R.cells) (hs : slots + k2 ≤ R.slots) (hd : decode cd pc = .ok (.invokevirtual index, 3))
    (k : ∀ T' h' v L, own_S p l e R s m args below meth c n0 T' h' (cells + k1) (slots + k2) → Q v h' L → own_Go p e below En T' (mkF m (pc + 3) ls (v.toList ++ rest))) : own_Go p e below En T (mkF m pc ls st) := by
  obtain ⟨locs, kk, nn, X, eT, N, q1, q2⟩ := S
  have hZ := C.2.2.2.2.2.2.2
  obtain ⟨cq, kq, qa, qb, qc⟩ := isOf (T := T) hZ eT E
  obtain ⟨v, vm1, B, -, X', ⟨L, hQ, l1, l2, l3⟩, stp⟩ := X.virtualBack C.1 C.2.2.2.1 (mvT hZ w1) (mvT hZ w2) (own_nf (args := #[]) hyc (mvT hZ w3')) (mvT hZ w3) (mvT hZ w4) hy hK qa qc (g := mkF m pc ls st) rfl (own_hsz C hsz) (Steps.refl _) (argsL := argsL) (rest := rest) (lenOf hpd hlen) hstk (by show 2 * 0 + _ ≤ W; omega) (own_hd C hd) (fun _ _ => ⟨has, eT, by show kk + k1 ≤ _; omega, by show nn + k2 ≤ _; omega⟩)
  refine own_step (fun t k => stp.trans k) (k B.U _ v L ⟨B.locs, B.cells, B.slots, X', rfl, ?_, ?_, ?_⟩ hQ)
  · rw [l1]; exact Fr.app N (hfr _ _ _ hQ)
  · rw [l2]; show kk + k1 ≤ _; omega
  · rw [l3]; show nn + k2 ≤ _; omega
theorem own_callP (C : own_Cx p s m meth c Z own cd maxL ret nm) (S : own_S p l e R s m args below meth c n0 T h cells slots) {y : MethodName} {index : Nat} {cdy : ByteArray} {maxy : Nat} {rety : Option FieldType} {W k1 k2 : Nat} {as' : Array Value} {Q : Option Value → Heap → List Loc → Prop}
    (w1 : (Jvm.Cond.methodLink own index y).before a0 Z = true) (w2 : (Jvm.Cond.instanceMethod y).before a0 Z = true) (w3 : (Jvm.Cond.selects y.cls y y).before a0 Z = true) (w4 : (Jvm.Cond.privateMethod y).before a0 Z = true) (w5 : (Jvm.Cond.code y cdy maxy rety).before a0 Z = true) (hy : y.cls ≠ "java/lang/invoke/MethodHandle" ∧ y.cls ≠ "java/lang/invoke/VarHandle")
    (hK : own_Pay l R p e below s args y 3 W as' h k1 k2 Q) (hfr : ∀ v h' L, Q v h' L → Fr n0 L) {a : Addr} {Cl : String} (E : Exa Z h a Cl) (argsL rest : List Value) {ps : List FieldType} {rr : Option FieldType} (has : (.ref a :: argsL).toArray = as') (hpd : parseMethodDescriptor y.desc = some ⟨ps, rr⟩) (hlen : argsL.length = ps.length) (hstk : st = argsL.reverse ++ .ref a :: rest) (hsz : ls.size = maxL) (hW : (rest.map fun v => v.category).sum ≤ W)
    (hc : cells + k1 ≤ R.cells) (hs : slots + k2 ≤ R.slots) (hd : decode cd pc = .ok (.invokevirtual index, 3))
    (k : ∀ T' h' v L, own_S p l e R s m args below meth c n0 T' h' (cells + k1) (slots + k2) → Q v h' L → own_Go p e below En T' (mkF m (pc + 3) ls (v.toList ++ rest))) : own_Go p e below En T (mkF m pc ls st) := by
  obtain ⟨locs, kk, nn, X, eT, N, q1, q2⟩ := S
  have hZ := C.2.2.2.2.2.2.2
  obtain ⟨cl, hcl, hns⟩ := E.cell
  obtain ⟨v, vm1, B, -, X', ⟨L, hQ, l1, l2, l3⟩, stp⟩ := X.privateBack C.1 C.2.2.2.1 (mvT hZ w1) (mvT hZ w2) (mvT hZ w3) (Cond.privateMethod_at (mvP (args := args) hZ w4)) (mvT hZ w5) hy hK (g := mkF m pc ls st) rfl (own_hsz C hsz) (Steps.refl _) (a := a) (cell := cl) (by rw [eT]; exact hcl) hns (argsL := argsL) (rest := rest) (lenOf hpd hlen) hstk (by show 2 * 0 + _ ≤ W; omega) (own_hd C hd) (fun _ _ => ⟨has, eT, by show kk + k1 ≤ _; omega, by show nn + k2 ≤ _; omega⟩)
  refine own_step (fun t k => stp.trans k) (k B.U _ v L ⟨B.locs, B.cells, B.slots, X', rfl, ?_, ?_, ?_⟩ hQ)
  · rw [l1]; exact Fr.app N (hfr _ _ _ hQ)
  · rw [l2]; show kk + k1 ≤ _; omega
  · rw [l3]; show nn + k2 ≤ _; omega
theorem own_callF (C : own_Cx p s m meth c Z own cd maxL ret nm) (S : own_S p l e R s m args below meth c n0 T h cells slots) {y z : MethodName} {Cl : String} {index count : Nat} {W k1 k2 : Nat} {as' : Array Value} {Q : Option Value → Heap → List Loc → Prop}
    (w1 : (Jvm.Cond.methodLink own index y).before a0 Z = true) (w2 : (Jvm.Cond.declares y).before a0 Z = true) (w3 : (Jvm.Cond.interfaceMethod y.cls y.cls y.name y.desc).before a0 Z = true) (hfa : ((Jvm.Cond.interfaceMethod y.cls y.cls y.name y.desc).onTables && (Jvm.Cond.interfaceMethod y.cls y.cls y.name y.desc).keepsFace) = true) (w4 : (Jvm.Cond.selects Cl y z).before a0 Z = true) (w5 : (Jvm.Cond.instanceMethod z).before a0 Z = true) (w6 : (Jvm.Cond.publicMethod z).before a0 Z = true) (w7 : (Jvm.Cond.unhidden Cl y.name y.desc).before a0 Z = true) (w8 : (Jvm.Cond.castable Cl y.cls).before a0 Z = true) (hy : y.cls ≠ "java/lang/invoke/MethodHandle" ∧ y.cls ≠ "java/lang/invoke/VarHandle")
    (hK : own_Pay l R p e below s args z 5 W as' h k1 k2 Q) (hfr : ∀ v h' L, Q v h' L → Fr n0 L) {a : Addr} (E : Exa Z h a Cl) (argsL rest : List Value) {ps : List FieldType} {rr : Option FieldType} (has : (.ref a :: argsL).toArray = as') (hpd : parseMethodDescriptor y.desc = some ⟨ps, rr⟩) (hlen : argsL.length = ps.length) (hstk : st = argsL.reverse ++ .ref a :: rest) (hsz : ls.size = maxL) (hW : (rest.map fun v => v.category).sum ≤ W)
    (hc : cells + k1 ≤ R.cells) (hs : slots + k2 ≤ R.slots) (hd : decode cd pc = .ok (.invokeinterface index count, 5))
    (k : ∀ T' h' v L, own_S p l e R s m args below meth c n0 T' h' (cells + k1) (slots + k2) → Q v h' L → own_Go p e below En T' (mkF m (pc + 5) ls (v.toList ++ rest))) : own_Go p e below En T (mkF m pc ls st) := by
  obtain ⟨locs, kk, nn, X, eT, N, q1, q2⟩ := S
  have hZ := C.2.2.2.2.2.2.2
  obtain ⟨cq, kq, qa, qb, qc⟩ := isOf (T := T) hZ eT E
  obtain ⟨v, vm1, B, -, X', ⟨L, hQ, l1, l2, l3⟩, stp⟩ := X.interfaceBack C.1 C.2.2.2.1 (mvT hZ w1) (mvT hZ w2) (mvT hZ w3 hfa) (mvT hZ w4) (mvT hZ w5) (mvT hZ w6) (mvT hZ w7) (mvT hZ w8) hy hK qa qb qc (g := mkF m pc ls st) rfl (own_hsz C hsz) (Steps.refl _) (argsL := argsL) (rest := rest) (lenOf hpd hlen) hstk (by show 2 * 0 + _ ≤ W; omega) (own_hd C hd) (fun _ _ => ⟨has, eT, by show kk + k1 ≤ _; omega, by show nn + k2 ≤ _; omega⟩)
  refine own_step (fun t k => stp.trans k) (k B.U _ v L ⟨B.locs, B.cells, B.slots, X', rfl, ?_, ?_, ?_⟩ hQ)
  · rw [l1]; exact Fr.app N (hfr _ _ _ hQ)
  · rw [l2]; show kk + k1 ≤ _; omega
  · rw [l3]; show nn + k2 ≤ _; omega
theorem own_callX (C : own_Cx p s m meth c Z own cd maxL ret nm) (S : own_S p l e R s m args below meth c n0 T h cells slots) {y : MethodName} {K : String} {index : Nat} {cdy : ByteArray} {maxy : Nat} {rety : Option FieldType} {W k1 k2 : Nat} {as' : Array Value} {Q : Option Value → Heap → List Loc → Prop}
    (w1 : (Jvm.Cond.methodLink own index y).before a0 Z = true) (w2 : (Jvm.Cond.sameMethod y.cls y.cls y.name y.desc).before a0 Z = true) (w3 : (Jvm.Cond.instanceMethod y).before a0 Z = true) (w4 : (Jvm.Cond.superclass own y.cls).before a0 Z = true) (hn : y.name ≠ "<init>") (w5 : (Jvm.Cond.code y cdy maxy rety).before a0 Z = true)
    (hK : own_Pay l R p e below s args y 3 W as' h k1 k2 Q) (hfr : ∀ v h' L, Q v h' L → Fr n0 L) {a : Addr} (E : Ins Z h a K true) (argsL rest : List Value) {ps : List FieldType} {rr : Option FieldType} (has : (.ref a :: argsL).toArray = as') (hpd : parseMethodDescriptor y.desc = some ⟨ps, rr⟩) (hlen : argsL.length = ps.length) (hstk : st = argsL.reverse ++ .ref a :: rest) (hsz : ls.size = maxL) (hW : (rest.map fun v => v.category).sum ≤ W)
    (hc : cells + k1 ≤ R.cells) (hs : slots + k2 ≤ R.slots) (hd : decode cd pc = .ok (.invokespecial index, 3))
    (k : ∀ T' h' v L, own_S p l e R s m args below meth c n0 T' h' (cells + k1) (slots + k2) → Q v h' L → own_Go p e below En T' (mkF m (pc + 3) ls (v.toList ++ rest))) : own_Go p e below En T (mkF m pc ls st) := by
  obtain ⟨locs, kk, nn, X, eT, N, q1, q2⟩ := S
  obtain ⟨v, vm1, B, -, X', ⟨L, hQ, l1, l2, l3⟩, stp⟩ := superBack X C.1 C.2.2.2.2.2.2.2 C.2.2.2.1 w1 w2 w3 w4 hn hK eT E (g := mkF m pc ls st) rfl (own_hsz C hsz) w5 (argsL := argsL) (rest := rest) (lenOf hpd hlen) hstk (by show 2 * 0 + _ ≤ W; omega) (own_hd C hd) (fun _ _ => ⟨has, eT, by show kk + k1 ≤ _; omega, by show nn + k2 ≤ _; omega⟩)
  refine own_step (fun t k => stp.trans k) (k B.U _ v L ⟨B.locs, B.cells, B.slots, X', rfl, ?_, ?_, ?_⟩ hQ)
  · rw [l1]; exact Fr.app N (hfr _ _ _ hQ)
  · rw [l2]; show kk + k1 ≤ _; omega
  · rw [l3]; show nn + k2 ≤ _; omega
/-- System.arraycopy over arrays of one plain kind -/
theorem own_copy (C : own_Cx p s m meth c Z own cd maxL ret nm) (S : own_S p l e R s m args below meth c n0 T h cells slots) {index : Nat} (w1 : (Jvm.Cond.methodLink own index Jvm.Stand.acN).before a0 Z = true) (w2 : (Jvm.Cond.native Jvm.Stand.acN).before a0 Z = true) (w3 : (Jvm.Cond.static Jvm.Stand.acN).before a0 Z = true) (w4 : (Jvm.Cond.initialized "java/lang/System").before a0 Z = true)
    {a b : Addr} {ka kb : ClassId} {ty : FieldType} {z z' sp dp nn : Int32} {vs vd : List Value} {dv dd : Value} (A : Arv Z h a ka ty z vs dv) (B : Arv Z h b kb ty z' vd dd) (hty : refKind ty = false) (h1 : ¬ sp < 0) (h2 : ¬ dp < 0) (h3 : ¬ nn < 0) (h4 : sp.toNatClampNeg + nn.toNatClampNeg ≤ z.toNatClampNeg) (h5 : dp.toNatClampNeg + nn.toNatClampNeg ≤ z'.toNatClampNeg) (hl : dp.toNatClampNeg + nn.toNatClampNeg ≤ vd.length) (ge : n0 ≤ b)
    (us : List Value) (hus : vd.take dp.toNatClampNeg ++ ((List.range nn.toNatClampNeg).map fun i => vs.getD (sp.toNatClampNeg + i) dv) ++ vd.drop (dp.toNatClampNeg + nn.toNatClampNeg) = us) (hsz : ls.size = maxL) (hd : decode cd pc = .ok (.invokestatic index, 3)) (hf : 1 ≤ R.frames) (W : Nat) (hW : (st.map fun v => v.category).sum ≤ W) (hlo : W + (nativeFrameWords "java/lang/System" "arraycopy" 5 + 11) ≤ R.locals)
    (k : ∀ T' h', own_S p l e R s m args below meth c n0 T' h' cells slots → Keep h h' [b] → Arv Z h' b kb ty z' us dd → own_Go p e below En T' (mkF m (pc + 3) ls st)) : own_Go p e below En T (mkF m pc ls (.int nn :: .int dp :: .ref b :: .int sp :: .ref a :: st)) := by
  obtain ⟨locs, kk, nn', X, eT, N, q1, q2⟩ := S
  obtain ⟨T', h', L, X', e', N', K, B', stp⟩ := cpA X C.1 C.2.2.2.2.2.2.2 C.2.2.2.1 w1 w2 w3 w4 eT A B (Or.inl ⟨rfl, hty⟩) h1 h2 h3 h4 h5 rfl hl N ge (g := mkF m pc ls (.int nn :: .int dp :: .ref b :: .int sp :: .ref a :: st)) rfl (own_hsz C hsz) rfl (own_hd C hd) hf (W := W) (by show 2 * 0 + _ ≤ W; omega) hlo
  rw [hus] at B'
  exact own_step stp (k T' h' ⟨_, _, _, X', e', N', q1, q2⟩ K B')
/-- ireturn of a byte -/
theorem own_retB (C : own_Cx p s m meth c Z own cd maxL (some .byte) nm) (S : own_S p l e R s m args below meth c n0 T h cells slots) {z : Int32} (hd : decode cd pc = .ok (.ireturn, 1)) (hz : z.toInt8.toInt32 = z) (hc : cells ≤ kc) (hs : slots ≤ ks) (hF : F (some (.int z)) h) : own_Go p e below (own_En s n0 F kc ks) T (mkF m pc ls (.int z :: st)) :=
  own_ret C S hd (by show Value.int (z.toInt8.toInt32) = _; rw [hz]) (Or.inl ⟨rfl, by simp, z, rfl⟩) hc hs hF
theorem own_ifm {ref owner name desc : String} (hZ : Z.Warmed39 s.vm) (w : (Jvm.Cond.interfaceMethod ref owner name desc).before a0 Z = true) : (Jvm.Cond.interfaceMethod ref owner name desc).before args s = true := by
  obtain ⟨c, k, m, h1, h2, h3, h4, h5⟩ := Cond.interfaceMethod_spec w
  obtain ⟨k', q, ek⟩ := hZ.alike.2.2 _ _ h2
  have e1 : s.vm.findClass ref = some c := by rw [hZ.alike.findClass]; exact h1
  have e4 : s.methodFound? ref name desc = some m := (show s.methodFound? ref name desc = (Z.setVm s.vm).methodFound? ref name desc from rfl).trans ((State.methodFound?_setVm hZ.alike _ _ _).trans h4)
  have e5 : s.methodNamed? ⟨owner, name, desc⟩ = some m := (show s.methodNamed? ⟨owner, name, desc⟩ = (Z.setVm s.vm).methodNamed? ⟨owner, name, desc⟩ from rfl).trans ((State.methodNamed?_setVm hZ.alike _).trans h5)
  have e6 : k'.isInterface = true := by rw [ek]; exact h3
  simp only [Cond.before, Cond.holds, Cond.value, e1, e4, e5, q]
  simp [e6]
/-- getClass() by an interface's name -/
theorem own_gcI (C : own_Cx p s m meth c Z own cd maxL ret nm) (S : own_S p l e R s m args below meth c n0 T h cells slots) {index count : Nat} {xi : MethodName} {Cl : String} (w1 : (Jvm.Cond.methodLink own index xi).before a0 Z = true) (w2 : (Jvm.Cond.declares Jvm.Stand.gcN).before a0 Z = true) (w3 : (Jvm.Cond.interfaceMethod xi.cls "java/lang/Object" xi.name xi.desc).before a0 Z = true)
    (w4 : (Jvm.Cond.selects Cl xi Jvm.Stand.gcN).before a0 Z = true) (w5 : (Jvm.Cond.instanceMethod Jvm.Stand.gcN).before a0 Z = true) (w6 : (Jvm.Cond.publicMethod Jvm.Stand.gcN).before a0 Z = true) (w7 : (Jvm.Cond.unhidden Cl xi.name xi.desc).before a0 Z = true) (w8 : (Jvm.Cond.castable Cl xi.cls).before a0 Z = true) (w9 : (Jvm.Cond.native Jvm.Stand.gcN).before a0 Z = true)
    (hx : xi.cls ≠ "java/lang/invoke/MethodHandle" ∧ xi.cls ≠ "java/lang/invoke/VarHandle") (hxo : xi.cls ≠ "java/lang/Object") (hname : xi.name = "getClass") (hdesc : xi.desc = "()Ljava/lang/Class;") {a mr : Addr} (E : Exa Z h a Cl) (M : Mir Z Cl mr) (hsz : ls.size = maxL) (hd : decode cd pc = .ok (.invokeinterface index count, 5)) (hf : 1 ≤ R.frames) (W : Nat) (hW : (st.map fun v => v.category).sum ≤ W) (hl : W + (nativeFrameWords "java/lang/Object" "getClass" 1 + 11) ≤ R.locals)
    (k : ∀ T', own_S p l e R s m args below meth c n0 T' h cells slots → own_Go p e below En T' (mkF m (pc + 5) ls (.ref mr :: st))) : own_Go p e below En T (mkF m pc ls (.ref a :: st)) := by
  obtain ⟨locs, kk, nn, X, eT, N, q1, q2⟩ := S
  have hZ := C.2.2.2.2.2.2.2
  obtain ⟨cB, kB, i1, i2, i3⟩ := isOf (T := T) hZ eT E
  obtain ⟨cc, kc, m1, m2, m3, -⟩ := M
  have i1' := i1
  rw [hZ.alike.findClass] at i1'
  cases i1'.symm.trans m1
  obtain ⟨k', q, ek⟩ := hZ.alike.2.2 _ _ m2
  obtain ⟨vm', X', stp⟩ := X.getClassOfI C.1 C.2.2.2.1 (mvT hZ w1) (mvT hZ w2) (own_ifm hZ w3) (mvT hZ w4) (mvT hZ w5) (mvT hZ w6) (mvT hZ w7) (mvT hZ w8) (mvT hZ w9) hx hxo hname hdesc i1 q i3 (by rw [ek]; exact m3) (g := mkF m pc ls (.ref a :: st)) rfl (own_hsz C hsz) rfl (own_hd C hd) hf (by show 2 * 0 + _ + _ ≤ _; omega)
  exact own_step stp (k _ ⟨_, _, _, X', eT, N, q1, q2⟩)
/-- ldc of a class constant whose mirror is there -/
theorem own_ldcK (C : own_Cx p s m meth c Z own cd maxL ret nm) (S : own_S p l e R s m args below meth c n0 T h cells slots) {index : Nat} {Cl : String} (w : (Jvm.Cond.classLink own index Cl).before a0 Z = true) {mr : Addr} (M : Mir Z Cl mr) (hd : decode cd pc = .ok (.ldc index, 2))
    (k : ∀ T', own_S p l e R s m args below meth c n0 T' h cells slots → own_Go p e below En T' (mkF m (pc + 2) ls (.ref mr :: st))) : own_Go p e below En T (mkF m pc ls st) := by
  obtain ⟨locs, kk, nn, X, eT, N, q1, q2⟩ := S
  have hZ := C.2.2.2.2.2.2.2
  obtain ⟨cc, kc, m1, m2, m3, -⟩ := M
  obtain ⟨k', q, ek⟩ := hZ.alike.2.2 _ _ m2
  have hev : (Term.mirror Cl).eval args s none [] s = some (.ref mr) := by
    have e1 : s.vm.findClass Cl = some cc := by rw [hZ.alike.findClass]; exact m1
    have e2 : k'.mirror = some mr := by rw [ek]; exact m3
    simp [Term.eval, e1, q, e2]
  obtain ⟨vm', X', stp⟩ := X.ldcMirror C.1 C.2.2.2.1 (mvT hZ w) hev (g := mkF m pc ls st) rfl (own_hd C hd)
  exact own_step stp (k _ ⟨_, _, _, X', eT, N, q1, q2⟩)
theorem own_refne {a b : Addr} (h : a ≠ b) (q : (Value.ref a) = .ref b) : False := h (Value.ref.inj q)
end OwnKit
-- OWN KIT, WIDE: walks that may load String constants (the library's CHv, CHr, Safe, Since)
section OwnKitW
open Jvm.Free.SB Jvm.Free.SBG
variable {p : Program} {l : Launch} {e : Env} {R : Room} {s : State} {m : MethodId} {args : Array Value} {below : List Frame} {meth : Method} {c : Code} {T : State} {locs : List Loc} {cells slots : Nat} {Z : State} {a0 : Array Value} {h : Heap} {own : String} {cd : ByteArray} {maxL : Nat} {ret : Option FieldType} {nm : String} {n0 : Nat} {F : Option Value → Heap → Prop} {kc ks : Nat} {En : Outcome → State → Prop} {pc : Nat} {ls : Array Slot} {st : List Value} {EL : List (String × Nat)} {G : List Addr}
def own_EnW (s : State) (n0 : Nat) (Z : State) (EL : List (String × Nat)) (F : Option Value → Heap → Prop) (kc ks : Nat) (o : Outcome) (s₂ : State) : Prop :=
  ∃ v L, o = .returned v ∧ (F v s₂.heap ∧ Fr n0 L) ∧ CHr Z EL s.vm s.heap s₂.vm s₂.heap ∧ ReturnedEndW s o s₂ L kc ks
def own_CxW (p : Program) (meth : Method) (c : Code) (Z : State) (a0 : Array Value) (EL : List (String × Nat)) (cd : ByteArray) (maxL : Nat) (ret : Option FieldType) (nm : String) : Prop :=
  p.tables.exec = Jvm.exec ∧ c.code = cd ∧ c.maxLocals = maxL ∧ meth.name = nm ∧ meth.sig.returnType = ret ∧ meth.locks = false ∧ EW Z a0 EL ∧ ∀ a ∈ Bundle.stringAtoms, a.before a0 Z = true
def own_SW (p : Program) (l : Launch) (e : Env) (R : Room) (s : State) (m : MethodId) (args : Array Value) (below : List Frame) (meth : Method) (c : Code) (n0 : Nat) (Z : State) (EL : List (String × Nat)) (own : String) (T : State) (h : Heap) (G : List Addr) (cells slots : Nat) : Prop :=
  ∃ vm0 k0, own_S p l e R (s.setVm vm0) m args below meth c n0 T h cells slots ∧ s.Since vm0 k0 ∧ k0 ≤ h.size ∧ Z.Warmed39 vm0 ∧ vm0.findClass own = some m.cls ∧ CHr Z EL s.vm s.heap vm0 h ∧ ∀ x ∈ G, x < h.size ∧ Safe Z EL vm0 h x
/-- an object of another class than String and byte[] is safe -/
theorem own_SW.addE (S : own_SW p l e R s m args below meth c n0 Z EL own T h G cells slots) {a : Addr} {C : String} (E : Exa Z h a C) (h1 : C ≠ "java/lang/String") (h2 : C ≠ "[B") : own_SW p l e R s m args below meth c n0 Z EL own T h (a :: G) cells slots := by
  obtain ⟨vm0, k0, S0, hS, hk, hZ, ho, hC, hG⟩ := S
  refine ⟨vm0, k0, S0, hS, hk, hZ, ho, hC, fun x hx => ?_⟩
  rcases List.mem_cons.mp hx with rfl | hx
  · exact ⟨E.lt, Safe.exa hZ.alike E h1 h2⟩
  · exact hG x hx
theorem own_SW.addA (S : own_SW p l e R s m args below meth c n0 Z EL own T h G cells slots) {a : Addr} {k : ClassId} {ty : FieldType} {z : Int32} {vs : List Value} {dv : Value} (A : Arv Z h a k ty z vs dv) (h1 : ty ≠ .byte) : own_SW p l e R s m args below meth c n0 Z EL own T h (a :: G) cells slots := by
  obtain ⟨vm0, k0, S0, hS, hk, hZ, ho, hC, hG⟩ := S
  refine ⟨vm0, k0, S0, hS, hk, hZ, ho, hC, fun x hx => ?_⟩
  rcases List.mem_cons.mp hx with rfl | hx
  · exact ⟨A.lt, Safe.arv hZ.alike A h1⟩
  · exact hG x hx
/-- between two loads the walk is a narrow one, over the start with the tables at hand; 'rb' leads back -/
theorem own_lift (C : own_CxW p meth c Z a0 EL cd maxL ret nm) (S : own_SW p l e R s m args below meth c n0 Z EL own T h G cells slots) {g : JFrame}
    (k : ∀ vm0, own_Cx p (s.setVm vm0) m meth c Z own cd maxL ret nm → own_S p l e R (s.setVm vm0) m args below meth c n0 T h cells slots →
      (∀ T' h' c' s' ws N, own_S p l e R (s.setVm vm0) m args below meth c n0 T' h' c' s' → Keep h h' ws → (∀ x ∈ ws, x ∈ G) → (∀ x ∈ N, h.size ≤ x ∧ x < h'.size) → own_SW p l e R s m args below meth c n0 Z EL own T' h' (N ++ G) c' s') → own_Go p e below En T g) : own_Go p e below En T g := by
  obtain ⟨vm0, k0, S0, hS, hk, hZ, ho, hC, hG⟩ := S
  refine k vm0 ⟨C.1, C.2.1, C.2.2.1, ho, C.2.2.2.1, C.2.2.2.2.1, C.2.2.2.2.2.1, hZ⟩ S0 fun T' h' c' s' ws N S' K hws hN => ?_
  have hs : ∀ x ∈ ws, Safe Z EL vm0 h x := fun x hx => (hG x (hws x hx)).2
  refine ⟨vm0, k0, S', hS, Nat.le_trans hk K.1, hZ, ho, hC.trans (CHr.keep K hs hC.1), fun x hx => ?_⟩
  rcases List.mem_append.mp hx with hx | hx
  · exact ⟨(hN x hx).2, Safe.keep K hs hC.1 (Safe.new (hN x hx).1)⟩
  · exact ⟨Nat.lt_of_lt_of_le (hG x hx).1 K.1, Safe.keep K hs hC.1 (hG x hx).2⟩
/-- ldc of a String constant of EL, read -/
theorem own_ldcW (C : own_CxW p meth c Z a0 EL cd maxL ret nm) (S : own_SW p l e R s m args below meth c n0 Z EL own T h G cells slots) {index : Nat} {text : String} (w : (Jvm.Cond.stringLink own index text).before a0 Z = true) (hmem : (own, index) ∈ EL) {vs : List Value} {z : Int32} (ht : (∀ c ∈ text.toList, c.toNat < 256) ∧ text.toList.map (fun c => Value.int (Jvm.Lit.byteI c.toNat.toUInt16)) = vs) (hz : ¬ z < 0) (hl : z.toNatClampNeg = vs.length)
    (hd : decode cd pc = .ok (.ldc index, 2)) (n : Nat) (hn : 4 * text.toList.length ≤ n) (hbig : n ≤ 536870912) (hc : cells + 2 ≤ R.cells) (hl' : slots + (n + 4) ≤ R.slots)
    (k : ∀ T' h' a b kb, own_SW p l e R s m args below meth c n0 Z EL own T' h' G (cells + 2) (slots + (n + 4)) → Ext h h' → Exa Z h' a "java/lang/String" → Fld Z h' a "java/lang/String" "coder" "B" (.int 0) → Fld Z h' a "java/lang/String" "value" "[B" (.ref b) → Arv Z h' b kb .byte z vs (.int 0) → (∀ x ∈ G, x ≠ a ∧ x ≠ b) → own_Go p e below En T' (mkF m (pc + 2) ls (.ref a :: st))) : own_Go p e below En T (mkF m pc ls st) := by
  obtain ⟨vm0, k0, ⟨locs, kk, nn, X, eT, N, q1, q2⟩, hS, hk, hZ, ho, hC, hG⟩ := S
  obtain ⟨a, T', h', k1, b, kb, X', e', E, hS', hk', hZ', ho', x1, x2, x3, x4, x5, x6, hC', hL, hne, stp⟩ := ldcCH X C.1 hZ ho w C.2.2.2.2.2.2.2 eT hS hk C.2.2.2.2.2.2.1 hmem hC.1 ht hz hl (g := mkF m pc ls st) rfl (by rw [C.2.1]; exact hd) hn hbig (by omega) (by omega)
  have hG' : ∀ x ∈ G, x < h'.size ∧ Safe Z EL T'.vm h' x := fun x hx => ⟨Nat.lt_of_lt_of_le (hG x hx).1 E.1, hC'.safe (hG x hx).1 (hG x hx).2⟩
  exact own_step stp (k T' h' a b kb ⟨T'.vm, k1, ⟨locs, _, _, X', e', N, by omega, by omega⟩, hS', hk', hZ', ho', hC.trans hC', hG'⟩ E x1 x2 x3 x4 fun x hx => hne x (hG' x hx).2)
/-- ldc of any String constant: which text it is isn't said -/
theorem own_ldcO (C : own_CxW p meth c Z a0 EL cd maxL ret nm) (S : own_SW p l e R s m args below meth c n0 Z EL own T h G cells slots) {index : Nat} {text : String} (w : (Jvm.Cond.stringLink own index text).before a0 Z = true)
    (hd : decode cd pc = .ok (.ldc index, 2)) (n : Nat) (hn : 4 * text.toList.length ≤ n) (hbig : n ≤ 536870912) (hc : cells + 2 ≤ R.cells) (hl' : slots + (n + 4) ≤ R.slots)
    (k : ∀ T' h' a, own_SW p l e R s m args below meth c n0 Z EL own T' h' G (cells + 2) (slots + (n + 4)) → Ext h h' → own_Go p e below En T' (mkF m (pc + 2) ls (.ref a :: st))) : own_Go p e below En T (mkF m pc ls st) := by
  obtain ⟨vm0, k0, ⟨locs, kk, nn, X, eT, N, q1, q2⟩, hS, hk, hZ, ho, hC, hG⟩ := S
  obtain ⟨a, T', h', k1, X', e', E, hS', hk', hZ', ho', hC', hL, stp⟩ := ldcOH X C.1 hZ ho w C.2.2.2.2.2.2.2 eT hS hk C.2.2.2.2.2.2.1 hC.1 (g := mkF m pc ls st) rfl (by rw [C.2.1]; exact hd) hn hbig (by omega) (by omega)
  have hG' : ∀ x ∈ G, x < h'.size ∧ Safe Z EL T'.vm h' x := fun x hx => ⟨Nat.lt_of_lt_of_le (hG x hx).1 E.1, hC'.safe (hG x hx).1 (hG x hx).2⟩
  exact own_step stp (k T' h' a ⟨T'.vm, k1, ⟨locs, _, _, X', e', N, by omega, by omega⟩, hS', hk', hZ', ho', hC.trans hC', hG'⟩ E)
/-! the end -/
theorem own_endW (C : own_CxW p meth c Z a0 EL cd maxL ret nm) (S : own_SW p l e R s m args below meth c n0 Z EL own T h G cells slots) {v : Option Value} (hv : meth.sig.returnType = none → v = none) {g : JFrame}
    (hst : ∀ locs kk nn vm0 fs, Stand p l e R (s.setVm vm0) m args below meth c T locs kk nn → (∀ (f : JFrame) (acts : List Action), f.method = m → f.locked = none → f.entered = [] → (doReturn e (T.setTop f) acts v).1 = T.setFrames fs) → Steps p.tables e below (T.setTop g) (T.setFrames fs)) (hc : cells ≤ kc) (hs : slots ≤ ks) (hF : F v h) : own_Go p e below (own_EnW s n0 Z EL F kc ks) T g := by
  obtain ⟨vm0, k0, ⟨locs, kk, nn, X, eT, N, q1, q2⟩, hS, hk, hZ, ho, hC, hG⟩ := S
  obtain ⟨fs, hr, hrun, hended, hret⟩ := X.leaveW hS (by rw [eT]; exact hk) hv C.2.2.2.2.2.1
  refine ⟨_, _, hst locs kk nn vm0 fs X hr, hrun, hended, v, locs, rfl, ⟨?_, N⟩, ?_, ?_⟩
  · show F v T.heap
    rw [eT]; exact hF
  · show CHr Z EL s.vm s.heap T.vm T.heap
    rw [eT]
    exact hC.trans (CHv.at X hZ C.2.2.2.2.2.2.1 hC.1)
  · exact ⟨hret.1, hret.2.1, hret.2.2.1, hret.2.2.2.mono (Nat.le_trans q1 hc) (Nat.le_trans q2 hs)⟩
theorem own_retW {t : FieldType} (C : own_CxW p meth c Z a0 EL cd maxL (some t) nm) (S : own_SW p l e R s m args below meth c n0 Z EL own T h G cells slots) {i : Instr} {w : Value} (hd : decode cd pc = .ok (i, 1)) (hn : narrow t w = w)
    (hi : (i = .ireturn ∧ (t = .int ∨ t = .boolean ∨ t = .byte ∨ t = .char ∨ t = .short) ∧ ∃ z, w = .int z) ∨ (i = .lreturn ∧ t = .long ∧ ∃ z, w = .long z) ∨ (i = .dreturn ∧ t = .double ∧ ∃ z, w = .double z) ∨ (i = .freturn ∧ t = .float ∧ ∃ z, w = .float z) ∨ (i = .areturn ∧ t.isReference = true ∧ w.isRef = true))
    (hc : cells ≤ kc) (hs : slots ≤ ks) (hF : F (some w) h) : own_Go p e below (own_EnW s n0 Z EL F kc ks) T (mkF m pc ls (w :: st)) :=
  own_endW C S (fun q => by rw [C.2.2.2.2.1] at q; cases q) (fun locs kk nn vm0 fs X hr => retOut X C.1 C.2.2.2.2.1 hn hi (by rw [C.2.1]; exact hd) hr) hc hs hF
theorem own_retIW (C : own_CxW p meth c Z a0 EL cd maxL (some .int) nm) (S : own_SW p l e R s m args below meth c n0 Z EL own T h G cells slots) {z : Int32} (hd : decode cd pc = .ok (.ireturn, 1)) (hc : cells ≤ kc) (hs : slots ≤ ks) (hF : F (some (.int z)) h) : own_Go p e below (own_EnW s n0 Z EL F kc ks) T (mkF m pc ls (.int z :: st)) :=
  own_retW C S hd rfl (Or.inl ⟨rfl, Or.inl rfl, z, rfl⟩) hc hs hF
theorem own_retZW (C : own_CxW p meth c Z a0 EL cd maxL (some .boolean) nm) (S : own_SW p l e R s m args below meth c n0 Z EL own T h G cells slots) {z : Int32} (hd : decode cd pc = .ok (.ireturn, 1)) (hz : z &&& 1 = z) (hc : cells ≤ kc) (hs : slots ≤ ks) (hF : F (some (.int z)) h) : own_Go p e below (own_EnW s n0 Z EL F kc ks) T (mkF m pc ls (.int z :: st)) :=
  own_retW C S hd (by show Value.int (z &&& 1) = _; rw [hz]) (Or.inl ⟨rfl, Or.inr (Or.inl rfl), z, rfl⟩) hc hs hF
theorem own_retAW {t : FieldType} (C : own_CxW p meth c Z a0 EL cd maxL (some t) nm) (S : own_SW p l e R s m args below meth c n0 Z EL own T h G cells slots) {w : Value} (ht : t.isReference = true) (hr : w.isRef = true) (hd : decode cd pc = .ok (.areturn, 1)) (hc : cells ≤ kc) (hs : slots ≤ ks) (hF : F (some w) h) : own_Go p e below (own_EnW s n0 Z EL F kc ks) T (mkF m pc ls (w :: st)) :=
  own_retW C S hd (by cases w <;> simp [Value.isRef] at hr <;> cases t <;> first | rfl | (simp [FieldType.isReference] at ht)) (by simp [ht, hr]) hc hs hF
theorem own_retVW (C : own_CxW p meth c Z a0 EL cd maxL none nm) (S : own_SW p l e R s m args below meth c n0 Z EL own T h G cells slots) (hd : decode cd pc = .ok (.return_, 1)) (hc : cells ≤ kc) (hs : slots ≤ ks) (hF : F none h) : own_Go p e below (own_EnW s n0 Z EL F kc ks) T (mkF m pc ls []) :=
  own_endW C S (fun _ => rfl) (fun locs kk nn vm0 fs X hr => X.returnOut C.1 C.2.2.2.2.1 (by rw [C.2.1]; exact hd) hr) hc hs hF
/-! contracts -/
def own_MetW (l : Launch) (Z : State) (EL : List (String × Nat)) (y : MethodName) (cd : ByteArray) (maxL : Nat) (ret : Option FieldType) (rm : Room) (n0 : Nat) (as' : Array Value) (h0 : Heap) (G0 : List Addr) (Q : Option Value → Heap → Prop) : Prop :=
  ∀ ws, MetFree l y (head1 (Jvm.Cond.code y cd maxL ret :: ws) rm) (fun a U => a = as' ∧ Z.Warmed39 U.vm ∧ U.heap = h0 ∧ CHv Z EL U.vm h0 ∧ ∀ x ∈ G0, x < h0.size ∧ Safe Z EL U.vm h0 x) (fun _ _ _ _ _ => True)
    (fun _ U o U' => ∃ v L, o = .returned v ∧ (Q v U'.heap ∧ Fr n0 L) ∧ CHr Z EL U.vm U.heap U'.vm U'.heap ∧ ReturnedEndW U o U' L rm.cells rm.slots)
theorem own_metW {y : MethodName} {rm : Room} {as' : Array Value} {h0 : Heap} {G0 : List Addr} {Q : Option Value → Heap → Prop} (hEL : EW Z a0 EL) (wS : ∀ a ∈ Bundle.stringAtoms, a.before a0 Z = true) (hp : plainFor y = true) (ls : Array Slot) (hef : ∀ m, entryFrame m as' maxL = mkF m 0 ls [])
    (H : ∀ (p : Program) (e : Env) (s : State) (m : MethodId) (below : List Frame) (meth : Method) (c : Code) (T : State), own_CxW p meth c Z a0 EL cd maxL ret y.name → own_SW p l e rm s m as' below meth c n0 Z EL y.cls T h0 G0 0 0 → own_Go p e below (own_EnW s n0 Z EL Q rm.cells rm.slots) T (mkF m 0 ls [])) : own_MetW l Z EL y cd maxL ret rm n0 as' h0 G0 Q := by
  intro ws
  refine MetFree.of_bodySF hp hisR ?_
  intro p e s m args below meth c s₁ Bd hml hP hK
  obtain ⟨rfl, hZ, hh, hC, hG⟩ := hP
  have e0 : s₁.heap = h0 := by rw [← hh, Bd.state]; rfl
  have G := H p e s m below meth c s₁ ⟨Bd.exec, Bd.bytes, hml, (name_of_methodNamed Bd.named Bd.method).1, Bd.returns, BodyLoose.notSynchronized Bd, hEL, wS⟩
    ⟨s.vm, h0.size, ⟨_, _, _, Stand.of_body Bd, e0, Fr.nil n0, Nat.le_refl _, Nat.le_refl _⟩, (State.WarmedH.refl s).since _, Nat.le_refl _, hZ, findClass_of_methodNamed Bd.named, by rw [hh]; exact CHr.refl hC, hG⟩
  rw [← hef m] at G
  exact G
/-! calls of a body that may load String constants -/
theorem own_payW {vm0 : Vm} {y : MethodName} {cdy : ByteArray} {maxy : Nat} {rety : Option FieldType} {rm : Room} {as' : Array Value} {G0 : List Addr} {Q : Option Value → Heap → Prop} (M : own_MetW l Z EL y cdy maxy rety rm n0 as' h G0 Q) (hZ : Z.Warmed39 vm0) {len W : Nat} (wc : (Jvm.Cond.code y cdy maxy rety).before a0 Z = true) (wz : (Jvm.Cond.initialized y.cls).before a0 Z = true) (hf : rm.frames + 1 ≤ R.frames) (hl : W + (maxy + 11) + rm.locals ≤ R.locals) (hEL : EW Z a0 EL) (H : CHv Z EL vm0 h) (hG : ∀ x ∈ G0, x < h.size ∧ Safe Z EL vm0 h x) :
    BackS l R p e below (s.setVm vm0) args y len W (fun A a => a = as' ∧ A.U.heap = h ∧ A.cells + rm.cells ≤ R.cells ∧ A.slots + rm.slots ≤ R.slots)
      (fun A _ v B => ∃ L, (Q v B.U.heap ∧ Fr n0 L) ∧ B.locs = A.locs ++ L ∧ B.cells = A.cells + rm.cells ∧ B.slots = A.slots + rm.slots ∧ CHr Z EL vm0 h B.U.vm B.U.heap) :=
  BackS.of_freeW (bytes := cdy) (maxL := maxy) (ret := rety) (E := fun _ first o t L k n => k = rm.cells ∧ n = rm.slots ∧ (∃ v, o = .returned v ∧ (Q v t.heap ∧ Fr n0 L)) ∧ CHr Z EL first.vm first.heap t.vm t.heap) (M []) hf hl
    (fun m meth c A a Y hp => have hU : Z.Warmed39 A.U.vm := wtrans (s := s.setVm vm0) hZ Y.warmed
      ⟨by show (Cond.and _ .tt).before a A.U = true; rw [Cond.before_and, mv hU wc]; rfl, mv hU wc, mv hU wz, hp.2.2.1, hp.2.2.2⟩)
    (fun m meth c A a g mk Y hp => ⟨hp.1, wtrans (s := s.setVm vm0) hZ Y.warmed, hp.2.1, (CHv.at Y hZ hEL H).1, fun x hx => ⟨(hG x hx).1, (CHv.at Y hZ hEL H).safe (hG x hx).1 (hG x hx).2⟩⟩) (fun _ _ _ _ _ _ _ _ _ => trivial)
    (fun _ _ _ _ ⟨v, L, h1, h2, h3, h4⟩ => ⟨L, _, _, h4, rfl, rfl, ⟨v, h1, h2⟩, h3⟩)
    (fun m meth c A a g mk v t L k n Y hp _ _ ⟨e1, e2, ⟨v', e3, e4⟩, e5⟩ => by
      cases e3; subst e1 e2
      refine ⟨L, e4, rfl, rfl, rfl, (CHv.at Y hZ hEL H).trans ?_⟩
      rw [← hp.2.1]; exact e5)
theorem own_backW {T : State} {vm0 : Vm} {k0 : Nat} {B : Pt} {Q : Option Value → Heap → Prop} {v : Option Value} {L : List Loc} {k1 k2 kk nn : Nat} (hS : s.Since vm0 k0) (hk : k0 ≤ h.size) (hZ : Z.Warmed39 vm0) (ho : vm0.findClass own = some m.cls) (hC : CHr Z EL s.vm s.heap vm0 h) (hG : ∀ x ∈ G, x < h.size ∧ Safe Z EL vm0 h x) (N : Fr n0 locs) (q1 : kk ≤ cells) (q2 : nn ≤ slots)
    (X' : Stand p l e R ((s.setVm vm0).setVm B.U.vm) m args below meth c B.U B.locs B.cells B.slots) (h2 : (s.setVm vm0).Since B.U.vm B.U.heap.size) (hg : h.size ≤ B.U.heap.size) (hQ : Q v B.U.heap ∧ Fr n0 L) (l1 : B.locs = locs ++ L) (l2 : B.cells = kk + k1) (l3 : B.slots = nn + k2) (hC' : CHr Z EL vm0 h B.U.vm B.U.heap) :
    own_SW p l e R s m args below meth c n0 Z EL own B.U B.U.heap G (cells + k1) (slots + k2) := by
  obtain ⟨X1, hS1, hZ1, ho1⟩ := rebS hS hk X' h2 hg hZ ho
  exact ⟨B.U.vm, _, ⟨B.locs, B.cells, B.slots, X1, rfl, by rw [l1]; exact Fr.app N hQ.2, by omega, by omega⟩, hS1, Nat.le_refl _, hZ1, ho1, hC.trans hC', fun x hx => ⟨Nat.lt_of_lt_of_le (hG x hx).1 hg, hC'.safe (hG x hx).1 (hG x hx).2⟩⟩
theorem own_callSW (C : own_CxW p meth c Z a0 EL cd maxL ret nm) (S : own_SW p l e R s m args below meth c n0 Z EL own T h G cells slots) {y : MethodName} {index : Nat} {cdy : ByteArray} {maxy : Nat} {rety : Option FieldType} {rm : Room} {as' : Array Value} {G0 : List Addr} {Q : Option Value → Heap → Prop}
    (w1 : (Jvm.Cond.methodLink own index y).before a0 Z = true) (w2 : (Jvm.Cond.static y).before a0 Z = true) (w3 : (Jvm.Cond.initialized y.cls).before a0 Z = true) (w4 : (Jvm.Cond.code y cdy maxy rety).before a0 Z = true) (hy : y.cls ≠ "java/lang/invoke/MethodHandle" ∧ y.cls ≠ "java/lang/invoke/VarHandle")
    (M : own_MetW l Z EL y cdy maxy rety rm n0 as' h G0 Q) (hG0 : ∀ x ∈ G0, x ∈ G) (W : Nat) (hf : rm.frames + 1 ≤ R.frames) (hlo : W + (maxy + 11) + rm.locals ≤ R.locals) (argsL rest : List Value) {ps : List FieldType} {rr : Option FieldType} (has : argsL.toArray = as') (hpd : parseMethodDescriptor y.desc = some ⟨ps, rr⟩) (hlen : argsL.length = ps.length) (hstk : st = argsL.reverse ++ rest) (hsz : ls.size = maxL) (hW : (rest.map fun v => v.category).sum ≤ W)
    (hc : cells + rm.cells ≤ R.cells) (hs : slots + rm.slots ≤ R.slots) (hd : decode cd pc = .ok (.invokestatic index, 3))
    (k : ∀ T' h' v, own_SW p l e R s m args below meth c n0 Z EL own T' h' G (cells + rm.cells) (slots + rm.slots) → h.size ≤ h'.size → Q v h' → own_Go p e below En T' (mkF m (pc + 3) ls (v.toList ++ rest))) : own_Go p e below En T (mkF m pc ls st) := by
  obtain ⟨vm0, k0, ⟨locs, kk, nn, X, eT, N, q1, q2⟩, hS, hk, hZ, ho, hC, hG⟩ := S
  obtain ⟨v, vm1, B, -, X', h2, hg, ⟨L, hQ, l1, l2, l3, hC'⟩, stp⟩ := callSS X C.1 ho (mvT (s := s.setVm vm0) hZ w1) (mvT (s := s.setVm vm0) hZ w2) (mvT (s := s.setVm vm0) hZ w3) (mvT (s := s.setVm vm0) hZ w4) hy (own_payW M hZ w4 w3 hf hlo C.2.2.2.2.2.2.1 hC.1 fun x hx => hG x (hG0 x hx)) (g := mkF m pc ls st) rfl (by rw [C.2.2.1]; exact hsz) (argsL := argsL) (rest := rest) (lenOf hpd hlen) hstk (by show 2 * 0 + _ ≤ W; omega) (by rw [C.2.1]; exact hd) (fun _ _ => ⟨has, eT, by show kk + _ ≤ _; omega, by show nn + _ ≤ _; omega⟩)
  rw [eT] at hg
  exact own_step (fun t k => stp.trans k) (k B.U _ v (own_backW (T := T) hS hk hZ ho hC hG N q1 q2 X' h2 hg hQ l1 l2 l3 hC') hg hQ.1)
theorem own_callIW (C : own_CxW p meth c Z a0 EL cd maxL ret nm) (S : own_SW p l e R s m args below meth c n0 Z EL own T h G cells slots) {y : MethodName} {index : Nat} {cdy : ByteArray} {maxy : Nat} {rm : Room} {as' : Array Value} {G0 : List Addr} {Q : Option Value → Heap → Prop}
    (hy1 : y.name = "<init>") (w1 : (Jvm.Cond.methodLink own index y).before a0 Z = true) (w2 : (Jvm.Cond.instanceMethod y).before a0 Z = true) (w3 : (Jvm.Cond.initialized y.cls).before a0 Z = true) (w4 : (Jvm.Cond.code y cdy maxy none).before a0 Z = true) (hy : y.cls ≠ "java/lang/invoke/MethodHandle" ∧ y.cls ≠ "java/lang/invoke/VarHandle")
    (M : own_MetW l Z EL y cdy maxy none rm n0 as' h G0 Q) (hG0 : ∀ x ∈ G0, x ∈ G) (W : Nat) (hf : rm.frames + 1 ≤ R.frames) (hlo : W + (maxy + 11) + rm.locals ≤ R.locals) {a : Addr} (argsL rest : List Value) {ps : List FieldType} {rr : Option FieldType} (has : (.ref a :: argsL).toArray = as') (hpd : parseMethodDescriptor y.desc = some ⟨ps, rr⟩) (hlen : argsL.length = ps.length) (hstk : st = argsL.reverse ++ .ref a :: rest) (hsz : ls.size = maxL) (hW : (rest.map fun v => v.category).sum ≤ W)
    (hc : cells + rm.cells ≤ R.cells) (hs : slots + rm.slots ≤ R.slots) (hd : decode cd pc = .ok (.invokespecial index, 3))
    (k : ∀ T' h' v, own_SW p l e R s m args below meth c n0 Z EL own T' h' G (cells + rm.cells) (slots + rm.slots) → h.size ≤ h'.size → Q v h' → own_Go p e below En T' (mkF m (pc + 3) ls (v.toList ++ rest))) : own_Go p e below En T (mkF m pc ls st) := by
  obtain ⟨vm0, k0, ⟨locs, kk, nn, X, eT, N, q1, q2⟩, hS, hk, hZ, ho, hC, hG⟩ := S
  obtain ⟨v, vm1, B, -, X', h2, hg, ⟨L, hQ, l1, l2, l3, hC'⟩, stp⟩ := X.specialBackS C.1 hy1 ho (mvT (s := s.setVm vm0) hZ w1) (mvT (s := s.setVm vm0) hZ w2) (mvT (s := s.setVm vm0) hZ w4) hy (own_payW M hZ w4 w3 hf hlo C.2.2.2.2.2.2.1 hC.1 fun x hx => hG x (hG0 x hx)) (g := mkF m pc ls st) rfl (by rw [C.2.2.1]; exact hsz) (Steps.refl _) (a := a) (argsL := argsL) (rest := rest) (lenOf hpd hlen) hstk (by show 2 * 0 + _ ≤ W; omega) (by rw [C.2.1]; exact hd) (fun _ _ => ⟨has, eT, by show kk + _ ≤ _; omega, by show nn + _ ≤ _; omega⟩)
  rw [eT] at hg
  exact own_step (fun t k => stp.trans k) (k B.U _ v (own_backW (T := T) hS hk hZ ho hC hG N q1 q2 X' h2 hg hQ l1 l2 l3 hC') hg hQ.1)
theorem own_callVW (C : own_CxW p meth c Z a0 EL cd maxL ret nm) (S : own_SW p l e R s m args below meth c n0 Z EL own T h G cells slots) {y z : MethodName} {Cl Cl' : String} {index : Nat} {cdy : ByteArray} {maxy : Nat} {rety : Option FieldType} {rm : Room} {as' : Array Value} {G0 : List Addr} {Q : Option Value → Heap → Prop}
    (w1 : (Jvm.Cond.methodLink own index y).before a0 Z = true) (w2 : (Jvm.Cond.declares y).before a0 Z = true) (w3 : (Jvm.Cond.selects Cl y z).before a0 Z = true) {y' : MethodName} (hyc : y'.cls = y.cls) (w3' : (Jvm.Cond.selects Cl' y' y').before a0 Z = true) (w4 : (Jvm.Cond.instanceMethod z).before a0 Z = true) (w5 : (Jvm.Cond.initialized z.cls).before a0 Z = true) (w6 : (Jvm.Cond.code z cdy maxy rety).before a0 Z = true) (hy : y.cls ≠ "java/lang/invoke/MethodHandle" ∧ y.cls ≠ "java/lang/invoke/VarHandle")
    (M : own_MetW l Z EL z cdy maxy rety rm n0 as' h G0 Q) (hG0 : ∀ x ∈ G0, x ∈ G) (W : Nat) (hf : rm.frames + 1 ≤ R.frames) (hlo : W + (maxy + 11) + rm.locals ≤ R.locals) {a : Addr} (E : Exa Z h a Cl) (argsL rest : List Value) {ps : List FieldType} {rr : Option FieldType} (has : (.ref a :: argsL).toArray = as') (hpd : parseMethodDescriptor y.desc = some ⟨ps, rr⟩) (hlen : argsL.length = ps.length) (hstk : st = argsL.reverse ++ .ref a :: rest) (hsz : ls.size = maxL) (hW : (rest.map fun v => v.category).sum ≤ W)
    (hc : cells + rm.cells ≤ R.cells) (hs : slots + rm.slots ≤ R.slots) (hd : decode cd pc = .ok (.invokevirtual index, 3))
    (k : ∀ T' h' v, own_SW p l e R s m args below meth c n0 Z EL own T' h' G (cells + rm.cells) (slots + rm.slots) → h.size ≤ h'.size → Q v h' → own_Go p e below En T' (mkF m (pc + 3) ls (v.toList ++ rest))) : own_Go p e below En T (mkF m pc ls st) := by
  obtain ⟨vm0, k0, ⟨locs, kk, nn, X, eT, N, q1, q2⟩, hS, hk, hZ, ho, hC, hG⟩ := S
  obtain ⟨cq, kq, qa, qb, qc⟩ := isOf (T := T) (s := s.setVm vm0) hZ eT E
  obtain ⟨v, vm1, B, -, X', h2, hg, ⟨L, hQ, l1, l2, l3, hC'⟩, stp⟩ := X.virtualBackS C.1 ho (mvT (s := s.setVm vm0) hZ w1) (mvT (s := s.setVm vm0) hZ w2) (own_nf (args := #[]) hyc (mvT (s := s.setVm vm0) hZ w3')) (mvT (s := s.setVm vm0) hZ w3) (mvT (s := s.setVm vm0) hZ w4) hy (own_payW M hZ w6 w5 hf hlo C.2.2.2.2.2.2.1 hC.1 fun x hx => hG x (hG0 x hx)) qa qc (g := mkF m pc ls st) rfl (by rw [C.2.2.1]; exact hsz) (Steps.refl _) (argsL := argsL) (rest := rest) (lenOf hpd hlen) hstk (by show 2 * 0 + _ ≤ W; omega) (by rw [C.2.1]; exact hd) (fun _ _ => ⟨has, eT, by show kk + _ ≤ _; omega, by show nn + _ ≤ _; omega⟩)
  rw [eT] at hg
  exact own_step (fun t k => stp.trans k) (k B.U _ v (own_backW (T := T) hS hk hZ ho hC hG N q1 q2 X' h2 hg hQ l1 l2 l3 hC') hg hQ.1)
theorem own_callPW (C : own_CxW p meth c Z a0 EL cd maxL ret nm) (S : own_SW p l e R s m args below meth c n0 Z EL own T h G cells slots) {y : MethodName} {index : Nat} {cdy : ByteArray} {maxy : Nat} {rety : Option FieldType} {rm : Room} {as' : Array Value} {G0 : List Addr} {Q : Option Value → Heap → Prop}
    (w1 : (Jvm.Cond.methodLink own index y).before a0 Z = true) (w2 : (Jvm.Cond.instanceMethod y).before a0 Z = true) (w3 : (Jvm.Cond.selects y.cls y y).before a0 Z = true) (w4 : (Jvm.Cond.privateMethod y).before a0 Z = true) (w5 : (Jvm.Cond.initialized y.cls).before a0 Z = true) (w6 : (Jvm.Cond.code y cdy maxy rety).before a0 Z = true) (hy : y.cls ≠ "java/lang/invoke/MethodHandle" ∧ y.cls ≠ "java/lang/invoke/VarHandle")
    (M : own_MetW l Z EL y cdy maxy rety rm n0 as' h G0 Q) (hG0 : ∀ x ∈ G0, x ∈ G) (W : Nat) (hf : rm.frames + 1 ≤ R.frames) (hlo : W + (maxy + 11) + rm.locals ≤ R.locals) {a : Addr} {Cl : String} (E : Exa Z h a Cl) (argsL rest : List Value) {ps : List FieldType} {rr : Option FieldType} (has : (.ref a :: argsL).toArray = as') (hpd : parseMethodDescriptor y.desc = some ⟨ps, rr⟩) (hlen : argsL.length = ps.length) (hstk : st = argsL.reverse ++ .ref a :: rest) (hsz : ls.size = maxL) (hW : (rest.map fun v => v.category).sum ≤ W)
    (hc : cells + rm.cells ≤ R.cells) (hs : slots + rm.slots ≤ R.slots) (hd : decode cd pc = .ok (.invokevirtual index, 3))
    (k : ∀ T' h' v, own_SW p l e R s m args below meth c n0 Z EL own T' h' G (cells + rm.cells) (slots + rm.slots) → h.size ≤ h'.size → Q v h' → own_Go p e below En T' (mkF m (pc + 3) ls (v.toList ++ rest))) : own_Go p e below En T (mkF m pc ls st) := by
  obtain ⟨vm0, k0, ⟨locs, kk, nn, X, eT, N, q1, q2⟩, hS, hk, hZ, ho, hC, hG⟩ := S
  obtain ⟨cl, hcl, hns⟩ := E.cell
  obtain ⟨v, vm1, B, -, X', h2, hg, ⟨L, hQ, l1, l2, l3, hC'⟩, stp⟩ := X.privateBackS C.1 ho (mvT (s := s.setVm vm0) hZ w1) (mvT (s := s.setVm vm0) hZ w2) (mvT (s := s.setVm vm0) hZ w3) (Cond.privateMethod_at (mvP (s := s.setVm vm0) (args := args) hZ w4)) (mvT (s := s.setVm vm0) hZ w6) hy (own_payW M hZ w6 w5 hf hlo C.2.2.2.2.2.2.1 hC.1 fun x hx => hG x (hG0 x hx)) (g := mkF m pc ls st) rfl (by rw [C.2.2.1]; exact hsz) (Steps.refl _) (a := a) (cell := cl) (by rw [eT]; exact hcl) hns (argsL := argsL) (rest := rest) (lenOf hpd hlen) hstk (by show 2 * 0 + _ ≤ W; omega) (by rw [C.2.1]; exact hd) (fun _ _ => ⟨has, eT, by show kk + _ ≤ _; omega, by show nn + _ ≤ _; omega⟩)
  rw [eT] at hg
  exact own_step (fun t k => stp.trans k) (k B.U _ v (own_backW (T := T) hS hk hZ ho hC hG N q1 q2 X' h2 hg hQ l1 l2 l3 hC') hg hQ.1)
end OwnKitW
theorem own_i2c2 (x : Int32) : nar .char x.toUInt32.toUInt16.toUInt32.toInt32 = x.toUInt32.toUInt16.toUInt32.toInt32 := by
  have h := Jvm.Free.XT.narrow_c x
  exact Value.int.inj h
theorem own_i2b2 (x : Int32) : nar .byte x.toInt8.toInt32 = x.toInt8.toInt32 := by
  have h := Jvm.Free.XT.narrow_b x
  exact Value.int.inj h
theorem own_and255 (x : Int32) : ¬ (x &&& (255 : Int32)) < 0 ∧ ¬ (255 : Int32) < (x &&& (255 : Int32)) := by
  have h := c_and x (255 : Int32) (by decide)
  rw [Int32.lt_iff_toInt_lt, Int32.lt_iff_toInt_lt]
  have e1 : (255 : Int32).toInt = 255 := rfl
  have e2 : (0 : Int32).toInt = 0 := rfl
  omega
theorem own_mask255 (x : Int32) : nar .char (x &&& (255 : Int32)).toUInt32.toUInt16.toUInt32.toInt32 = x &&& (255 : Int32) := by
  rw [own_i2c2, i2c_mask]
theorem own_up (cs : List Int32) (h : ∀ c ∈ cs, ¬ c < 0 ∧ ¬ (255 : Int32) < c) : ∀ c ∈ cs, ¬ c < 0 ∧ ¬ (65535 : Int32) < c := fun c hc => ⟨(h c hc).1, fun q => (h c hc).2 (by rw [Int32.lt_iff_toInt_lt] at q ⊢; have e1 : (65535 : Int32).toInt = 65535 := rfl; have e2 : (255 : Int32).toInt = 255 := rfl; omega)⟩
theorem own_shl0 (x : Int32) : x <<< ((0 : Int32) &&& 31) = x := by
  rw [show ((0 : Int32) &&& 31) = 0 from by decide]; exact Int32.shiftLeft_zero
theorem own_shr0 (x : Int32) : x >>> ((0 : Int32) &&& 31) = x := by
  rw [show ((0 : Int32) &&& 31) = 0 from by decide]; exact Int32.shiftRight_zero
theorem own_cod {cs : List Int32} {N : Int32} {vs : List Value} (h : StrChars.Road.CodA cs 0 N vs) : Int32.ofNat cs.length = N ∧ vs = cs.map fun c => Value.int (StrChars.lo8 c) := by
  rcases h with ⟨-, h1, h2, -⟩ | ⟨h, -⟩
  · exact ⟨h1.symm, h2⟩
  · exact absurd h (by decide)
theorem own_take0 (k : Nat) (d : Value) (M : List Value) : (List.replicate k d).take (0 : Int32).toNatClampNeg ++ M ++ (List.replicate k d).drop ((0 : Int32).toNatClampNeg + k) = M := by
  have e : (0 : Int32).toNatClampNeg = 0 := rfl
  rw [e]; simp
theorem own_min_l {x y : Int32} (h : ¬ y < x) : (if y < x then y else x) = x := if_neg h
theorem own_min_g {x y : Int32} (h : ¬ x < y) : (if y < x then y else x) = y := by
  by_cases g : y < x
  · rw [if_pos g]
  · rw [if_neg g]
    exact Int32.toInt_inj.mp (by rw [Int32.lt_iff_toInt_lt] at h g; omega)
theorem own_nat_le {n N : Int32} (h0 : ¬ n < 0) (h : ¬ N < n) : 0 + n.toNatClampNeg ≤ N.toNatClampNeg := by
  rw [Int32.lt_iff_toInt_lt] at h h0
  have e0 : (0 : Int32).toInt = 0 := rfl
  simp only [Int32.toNatClampNeg]
  omega
theorem own_ofNat_nn {i : Nat} (h : i ≤ 4000) : ¬ Int32.ofNat i < 0 ∧ (Int32.ofNat i).toNatClampNeg = i := by
  have e : (Int32.ofNat i).toInt = i := Int32.toInt_ofNat_of_lt (by omega)
  refine ⟨?_, ?_⟩
  · rw [Int32.lt_iff_toInt_lt, e]
    have e0 : (0 : Int32).toInt = 0 := rfl
    omega
  · simp only [Int32.toNatClampNeg, e]; omega
theorem own_ofNat_lt {i n : Nat} (h : i ≤ 4000) (hn : n ≤ 4000) : Int32.ofNat i < Int32.ofNat n ↔ i < n := by
  have e : (Int32.ofNat i).toInt = i := Int32.toInt_ofNat_of_lt (by omega)
  have e2 : (Int32.ofNat n).toInt = n := Int32.toInt_ofNat_of_lt (by omega)
  rw [Int32.lt_iff_toInt_lt, e, e2]; omega
theorem own_ofNat_succ (i : Nat) : Int32.ofNat i + 1 = Int32.ofNat (i + 1) := by
  rw [Int32.ofNat_add]; rfl
theorem own_b8 {c : Int32} (h : ¬ c < 0 ∧ ¬ (255 : Int32) < c) : c.toInt8.toInt32.toInt % 256 = c.toInt ∧ 0 ≤ c.toInt ∧ c.toInt ≤ 255 := by
  obtain ⟨h1, h2⟩ := h
  rw [Int32.lt_iff_toInt_lt] at h1 h2
  have e0 : (0 : Int32).toInt = 0 := rfl
  have e1 : (255 : Int32).toInt = 255 := rfl
  have e3 : c.toInt8.toInt32.toInt = c.toInt.bmod (2 ^ 8) := by simp
  rw [e3]
  refine ⟨?_, by omega, by omega⟩
  have := Int.bmod_emod (x := c.toInt) (m := 2 ^ 8)
  omega
theorem own_b8_inj {c d : Int32} (h : ¬ c < 0 ∧ ¬ (255 : Int32) < c) (h' : ¬ d < 0 ∧ ¬ (255 : Int32) < d) (e : c.toInt8.toInt32 = d.toInt8.toInt32) : c = d := by
  obtain ⟨a1, -⟩ := own_b8 h
  obtain ⟨a2, -⟩ := own_b8 h'
  rw [e] at a1
  exact Int32.toInt_inj.mp (a1.symm.trans a2)
theorem own_getD {cs : List Int32} {i : Nat} (h : i ≤ 4000) (hi : i < cs.length) : (cs.map fun c => Value.int (StrChars.lo8 c)).getD (Int32.ofNat i).toNatClampNeg (.int 0) = .int ((cs.getD i 0).toInt8.toInt32) := by
  rw [(own_ofNat_nn h).2]
  simp [List.getD, List.getElem?_map, List.getElem?_eq_getElem hi, StrChars.lo8]
theorem own_getD_mem {cs : List Int32} {i : Nat} (hi : i < cs.length) : cs.getD i 0 ∈ cs := by
  simp [List.getD, List.getElem?_eq_getElem hi]
theorem own_take_succ {cs : List Int32} {i : Nat} (hi : i < cs.length) {P : Int32 → Prop} (h : ∀ c ∈ cs.take i, P c) (h' : P (cs.getD i 0)) : ∀ c ∈ cs.take (i + 1), P c := by
  intro c hc
  rw [List.take_add_one, List.getElem?_eq_getElem hi] at hc
  simp [List.getD, List.getElem?_eq_getElem hi] at h'
  rcases List.mem_append.mp hc with q | q
  · exact h c q
  · simp at q; subst q; exact h'
def own_IO (r : Int32) (cs : List Int32) (k : Int32) : Prop := (r < 0 ∧ ∀ c ∈ cs, ¬ c = k) ∨ (¬ r < 0 ∧ k ∈ cs)
theorem own_IO.no {r k : Int32} {cs : List Int32} (q : own_IO r cs k) (h : ∀ c ∈ cs, ¬ c = k) (hr : ¬ r < 0) : False := by
  rcases q with ⟨q, -⟩ | ⟨-, q⟩
  · exact hr q
  · exact h k q rfl
theorem own_IO.yes {r k : Int32} {cs : List Int32} (q : own_IO r cs k) (h : k ∈ cs) (hr : r < 0) : False := by
  rcases q with ⟨-, q⟩ | ⟨q, -⟩
  · exact q k h rfl
  · exact q hr
def own_Ch (r : Int32) : Prop := (¬ r < 0 ∧ ¬ (255 : Int32) < r) ∧ nar .char r = r ∧ r.toUInt32.toUInt16.toUInt32.toInt32 = r
theorem own_Ch.of (x : Int32) : own_Ch (x &&& (255 : Int32)) := ⟨own_and255 x, i2c_mask x, i2c_mask x⟩
def own_sv (cs : List Int32) : List Value := cs.map fun c => Value.int (StrChars.lo8 c)
def own_bv (cs : List Int32) : List Value := own_sv cs ++ List.replicate (16 - cs.length) (.int 0)
theorem own_codG {cs : List Int32} (h : ∀ c ∈ cs, ¬ c < 0 ∧ ¬ (255 : Int32) < c) : StrChars.Road.CodA cs 0 (Int32.ofNat cs.length) (own_sv cs) := Or.inl ⟨rfl, rfl, rfl, fun c hc => (h c hc).2⟩
theorem own_sv_len (cs : List Int32) : (own_sv cs).length = cs.length := by simp [own_sv]
theorem own_bv_len {cs : List Int32} (h : cs.length ≤ 16) : (own_bv cs).length = 16 := by simp [own_bv, own_sv_len]; omega
theorem own_oN {n : Nat} (h : n ≤ 4000) : (Int32.ofNat n).toInt = n ∧ (Int32.ofNat n).toNatClampNeg = n := by
  have e : (Int32.ofNat n).toInt = n := Int32.toInt_ofNat_of_lt (by omega)
  exact ⟨e, (own_ofNat_nn h).2⟩
theorem own_cntA {a b : List Int32} : Int32.ofNat a.length + Int32.ofNat b.length = Int32.ofNat (a ++ b).length := by
  rw [List.length_append, Int32.ofNat_add]
theorem own_range {vs : List Value} {d : Value} {n : Nat} (h : vs.length = n) : ((List.range n).map fun i => vs.getD (0 + i) d) = vs := by
  apply List.ext_getElem
  · simp [h]
  · intro i h1 h2
    simp [List.getD, List.getElem?_eq_getElem h2]
theorem own_apH {b x : List Int32} (h : b.length + x.length ≤ 16) : ¬ (0 : Int32) < ((Int32.ofNat b.length + Int32.ofNat x.length) - (16 : Int32)) := by
  rw [own_cntA, Int32.lt_iff_toInt_lt, Int32.toInt_sub, (own_oN (n := (b ++ x).length) (by rw [List.length_append]; omega)).1]
  have e0 : (0 : Int32).toInt = 0 := rfl
  have e1 : (16 : Int32).toInt = 16 := rfl
  rw [e0, e1, List.length_append]
  have := Int.bmod_emod (x := ((b.length + x.length : Nat) : Int) - 16) (m := 2 ^ 32)
  have h3 : (((b.length + x.length : Nat) : Int) - 16).bmod (2 ^ 32) = ((b.length + x.length : Nat) : Int) - 16 := by
    rw [Int.bmod_def]; split <;> omega
  omega
theorem own_ap5 {b x : List Int32} (h : b.length + x.length ≤ 16) : (Int32.ofNat b.length).toNatClampNeg + (Int32.ofNat x.length).toNatClampNeg ≤ (16 : Int32).toNatClampNeg := by
  rw [(own_oN (n := b.length) (by omega)).2, (own_oN (n := x.length) (by omega)).2]; exact h
theorem own_apL {b x : List Int32} (h : b.length + x.length ≤ 16) : (Int32.ofNat b.length).toNatClampNeg + (Int32.ofNat x.length).toNatClampNeg ≤ (own_bv b).length := by
  rw [own_bv_len (by omega)]; exact own_ap5 h
theorem own_apU {b x : List Int32} (h : b.length + x.length ≤ 16) : (own_bv b).take (Int32.ofNat b.length).toNatClampNeg ++ ((List.range (Int32.ofNat x.length).toNatClampNeg).map fun i => (own_sv x).getD ((0 : Int32).toNatClampNeg + i) (.int 0)) ++ (own_bv b).drop ((Int32.ofNat b.length).toNatClampNeg + (Int32.ofNat x.length).toNatClampNeg) = own_bv (b ++ x) := by
  rw [(own_oN (n := b.length) (by omega)).2, (own_oN (n := x.length) (by omega)).2]
  have e0 : (0 : Int32).toNatClampNeg = 0 := rfl
  rw [e0, own_range (own_sv_len x)]
  have e1 : (own_bv b).take b.length = own_sv b := by
    unfold own_bv; rw [List.take_append_of_le_length (by rw [own_sv_len]; exact Nat.le_refl _)]
    exact List.take_of_length_le (by rw [own_sv_len]; exact Nat.le_refl _)
  have e2 : (own_bv b).drop (b.length + x.length) = List.replicate (16 - (b ++ x).length) (.int 0) := by
    unfold own_bv
    rw [List.drop_append, List.drop_of_length_le (by rw [own_sv_len]; omega), own_sv_len, List.drop_replicate, List.length_append, List.nil_append]
    congr 1; omega
  rw [e1, e2]
  show own_sv b ++ own_sv x ++ _ = own_sv (b ++ x) ++ _
  congr 1
  simp [own_sv]
theorem own_tsH {b : List Int32} (h : b.length < 16) : ¬ Int32.ofNat b.length < (0 : Int32) ∧ ¬ (16 : Int32) < Int32.ofNat b.length ∧ ¬ Int32.ofNat b.length = (16 : Int32) ∧ (Int32.ofNat b.length).toNatClampNeg ≤ 64 := by
  have e := own_oN (n := b.length) (by omega)
  have e0 : (0 : Int32).toInt = 0 := rfl
  have e1 : (16 : Int32).toInt = 16 := rfl
  refine ⟨?_, ?_, ?_, by omega⟩
  · rw [Int32.lt_iff_toInt_lt]; omega
  · rw [Int32.lt_iff_toInt_lt]; omega
  · intro q; rw [q] at e; omega
theorem own_tsU {b : List Int32} (h : b.length < 16) : ((List.range (Int32.ofNat b.length).toNatClampNeg).map fun i => (own_bv b).getD ((0 : Int32).toNatClampNeg + i) (.int (0 : Int32))) = own_sv b := by
  rw [(own_oN (n := b.length) (by omega)).2]
  have e0 : (0 : Int32).toNatClampNeg = 0 := rfl
  rw [e0]
  have e1 : ∀ i, i < b.length → (own_bv b).getD (0 + i) (.int 0) = (own_sv b).getD (0 + i) (.int 0) := by
    intro i hi
    unfold own_bv
    simp only [List.getD]
    rw [List.getElem?_append_left (by rw [own_sv_len]; omega)]
  rw [List.map_congr_left (fun i hi => e1 i (List.mem_range.mp hi))]
  exact own_range (own_sv_len b)
theorem own_and_id {c : Int32} (h1 : 0 ≤ c.toInt) (h2 : c.toInt ≤ 255) : c &&& 255 = c := by
  have e : c = Int32.ofNat c.toInt.toNat := by
    apply Int32.toInt_inj.mp
    rw [Int32.toInt_ofNat_of_lt (by omega)]; omega
  have h3 : c.toInt.toNat < 256 := by omega
  generalize c.toInt.toNat = n at e h3
  subst e
  revert n; decide +kernel
theorem own_c16 {c : Int32} (h : ¬ c < 0 ∧ ¬ (255 : Int32) < c) : c.toUInt32.toUInt16.toUInt32.toInt32 = c := by
  obtain ⟨h1, h2⟩ := h
  rw [Int32.lt_iff_toInt_lt] at h1 h2
  have e0 : (0 : Int32).toInt = 0 := rfl
  have e1 : (255 : Int32).toInt = 255 := rfl
  have e2 : c &&& 255 = c := own_and_id (by omega) (by omega)
  have := i2c_mask c
  rw [e2] at this
  exact this
abbrev own_EL : List (String × Nat) := consts_1
def own_E (n v : List Int32) (k : Nat) : Int32 := (n ++ ([58, 32] ++ v)).getD k 0
theorem own_E1 {n v : List Int32} {k : Nat} (h : k < n.length) : own_E n v k = n.getD k 0 := by
  simp only [own_E, List.getD]; rw [List.getElem?_append_left h]
theorem own_E2 {n v : List Int32} {k : Nat} (h : n.length ≤ k) : own_E n v k = ((58 : Int32) :: 32 :: v).getD (k - n.length) 0 := by
  simp only [own_E, List.getD]; rw [List.getElem?_append_right h]; rfl
theorem own_E4 {v : List Int32} {d : Nat} (h : 2 ≤ d) : ((58 : Int32) :: 32 :: v).getD d 0 = v.getD (d - 2) 0 := by
  obtain ⟨e, rfl⟩ : ∃ e, d = e + 2 := ⟨d - 2, by omega⟩
  simp [List.getD]
theorem own_oNinj {a b : Nat} (ha : a ≤ 4000) (hb : b ≤ 4000) : Int32.ofNat a = Int32.ofNat b ↔ a = b := by
  refine ⟨fun h => ?_, fun h => by rw [h]⟩
  have e1 := (own_oN ha).1
  have e2 := (own_oN hb).1
  rw [h] at e1; omega
theorem own_sub2 {k n : Nat} (h : n + 2 ≤ k) (hk : k ≤ 4000) : (Int32.ofNat k - Int32.ofNat n) - 2 = Int32.ofNat (k - n - 2) := by
  have e1 := (own_oN hk).1
  have e2 := (own_oN (n := n) (by omega)).1
  have e3 := (own_oN (n := k - n - 2) (by omega)).1
  apply Int32.toInt_inj.mp
  rw [Int32.toInt_sub, Int32.toInt_sub, e1, e2, e3]
  have e4 : (2 : Int32).toInt = 2 := rfl
  rw [e4]
  have h1 : ((k : Int) - n).bmod (2 ^ 32) = (k : Int) - n := by rw [Int.bmod_def]; split <;> omega
  rw [h1, Int.bmod_def]; split <;> omega
theorem own_lenS {r n v : List Int32} (hr : r = n ++ ([58, 32] ++ v)) : (Int32.ofNat n.length + Int32.ofNat v.length) + 2 = Int32.ofNat r.length := by
  rw [hr, show (2 : Int32) = Int32.ofNat 2 from rfl, ← Int32.ofNat_add, ← Int32.ofNat_add]
  congr 1
  simp only [List.length_append, List.length_cons, List.length_nil]; omega
theorem own_D0 {s : State} {a : Array Value} {t : Term} {ty : FieldType} {dv : Value} (h1 : (Jvm.Cond.arrayOf t ty).before a s = true) (h2 : (Jvm.Cond.eq (.length t) (.int 0)).before a s = true) : ∃ D k, t.eval a s none [] s = some (.ref D) ∧ Arv s s.heap D k ty 0 [] dv ∧ D < s.heap.size := by
  obtain ⟨y, e1, e2⟩ := Cond.eq_one (show (Jvm.Cond.eq (.length t) (.int 0)).holds a s none s [] = true from h2)
  obtain ⟨D, cell, d1, d2, rfl⟩ := Term.length_spec e1
  obtain ⟨c, A⟩ := Arr.start d1 (Cond.before_iff.mp h1)
  have e3 : s.arrayAt? D = some c := Arr.fin (Vm.Alike.refl _) A
  obtain rfl : c = cell := Option.some.inj (e3.symm.trans d2)
  have hlt : c.slots.size < 2 ^ 31 := by
    by_cases g : c.slots.size < 2 ^ 31
    · exact g
    · simp [Term.eval, d1, d2, g] at e1
  rw [Term.int_eval] at e2
  have e4 : c.slots.size.toInt32 = 0 := Value.int.inj (Option.some.inj e2).symm
  have e5 : c.slots.size = 0 := by
    have := congrArg Int32.toInt e4
    rw [Jvm.RoadKit.len_toInt hlt] at this
    have e0 : (0 : Int32).toInt = 0 := rfl
    omega
  refine ⟨D, c.cls, d1, ⟨c, A, rfl, by rw [e5]; rfl, by decide, fun i hi => by omega, fun i hi => by omega⟩, A.lt⟩
theorem own_mir {s : State} {C : String} (h : Jvm.D.MirrorMade s C) : ∃ m, Mir s C m := by
  obtain ⟨c, k, m, h1, h2, h3, cell, h4, h5⟩ := h
  exact ⟨m, c, k, h1, h2, h3, cell, h4, h5⟩
theorem own_hpA {x y : List Int32} (hx : ∀ c ∈ x, ¬ c < 0 ∧ ¬ (255 : Int32) < c) (hy : ∀ c ∈ y, ¬ c < 0 ∧ ¬ (255 : Int32) < c) : ∀ c ∈ (((([] : List Int32) ++ x) ++ ([58, 32] : List Int32)) ++ y), ¬ c < 0 ∧ ¬ (255 : Int32) < c := by
  intro c hc
  simp only [List.mem_append, List.mem_cons, List.not_mem_nil, or_false, false_or] at hc
  rcases hc with (hc | rfl | rfl) | hc
  · exact hx c hc
  · decide
  · decide
  · exact hy c hc
set_option maxRecDepth 65536 in
set_option maxHeartbeats 40000000 in
theorem own_coder (l : Launch) (Z : State) (a0 : Array Value) (hw : ∀ d ∈ tables_1, d.before a0 Z = true) (G1 : Int32) (G3 : Value) (x : Addr) (h0 : Heap) (n0 : Nat) (z0 : n0 ≤ h0.size) (X00 : Old Z n0 h0) (pC : Fld Z h0 x "java/lang/String" "coder" "B" (.int 0)) (O2 : Sta Z Z.heap "java/lang/String" "COMPACT_STRINGS" "Z" (.int G1)) (O4 : Sta Z Z.heap "jdk/internal/util/Preconditions" "SIOOBE_FORMATTER" "Ljava/util/function/BiFunction;" G3) (P5 : ¬ G1 = (0 : Int32)) (rG3 : G3.isRef = true) :
    own_Met l Z (⟨"java/lang/String", "coder", "()B"⟩ : MethodName) jdk_42_method_152_code 1 (some .byte) ({ frames := 0, cells := 0, slots := 0, locals := 0 } : Room) n0 #[(.ref x)] h0 (fun v h => v = some (.int 0) ∧ h = h0) := by
  refine own_met (by decide +kernel) #[.val (.ref x)] (fun m => by first | (simp [entryFrame, mkF, argsToLocals, Value.category]; done) | rfl) ?_
  intro p e s m below meth c T0 C S0
  refine own_getS C S0 (own_wd hw 170 rfl) Via.refl (O2.ext X00.2) (by decide +kernel) ?_
  intro T1 S2
  refine own_if C S2 (q := .eq) (o := 10) (by decide +kernel) 13 (by decide) (by decide) (fun (hq : G1 = (0 : Int32)) => False.elim (P5 hq)) (fun (q3 : ¬ G1 = (0 : Int32)) => ?_)
  refine own_seg C S2 [(6, .aload_n 0, 1)] (by decide +kernel) 7 #[.val (.ref x)] [(.ref x)] rfl ?_
  refine own_getF C S2 (host := "") (Or.inl (own_wd hw 25 rfl)) Via.refl pC (by decide +kernel) ?_
  intro T4 S5
  refine own_seg C S5 [(10, .goto 4, 3)] (by decide +kernel) 14 #[.val (.ref x)] [(.int 0)] rfl ?_
  refine own_retB C S5 (by decide +kernel) rfl (by decide) (by decide) ?_
  exact ⟨rfl, rfl⟩
set_option maxRecDepth 65536 in
set_option maxHeartbeats 40000000 in
theorem own_min (l : Launch) (Z : State) (a0 : Array Value) (hw : ∀ d ∈ tables_1, d.before a0 Z = true) (x1 : Int32) (x2 : Int32) (h0 : Heap) (n0 : Nat) (z0 : n0 ≤ h0.size) :
    own_Met l Z (⟨"java/lang/Math", "min", "(II)I"⟩ : MethodName) jdk_29_method_69_code 2 (some .int) ({ frames := 0, cells := 0, slots := 0, locals := 0 } : Room) n0 #[(.int x1), (.int x2)] h0 (fun v h => v = some (.int (if x2 < x1 then x2 else x1)) ∧ h = h0) := by
  refine own_met (by decide +kernel) #[.val (.int x1), .val (.int x2)] (fun m => by first | (simp [entryFrame, mkF, argsToLocals, Value.category]; done) | rfl) ?_
  intro p e s m below meth c T0 C S0
  refine own_seg C S0 [(0, .iload_n 0, 1), (1, .iload_n 1, 1)] (by decide +kernel) 2 #[.val (.int x1), .val (.int x2)] [(.int x2), (.int x1)] rfl ?_
  refine own_icmp C S0 (q := .gt) (o := 7) (by decide +kernel) 9 (by decide) (by decide) (fun (q6 : x2 < x1) => ?_) (fun (q7 : ¬ x2 < x1) => ?_)
  · refine own_seg C S0 [(9, .iload_n 1, 1)] (by decide +kernel) 10 #[.val (.int x1), .val (.int x2)] [(.int x2)] rfl ?_
    refine own_retI C S0 (by decide +kernel) (by decide) (by decide) ?_
    exact ⟨by rw [if_pos q6], rfl⟩
  · refine own_seg C S0 [(5, .iload_n 0, 1), (6, .goto 4, 3)] (by decide +kernel) 10 #[.val (.int x1), .val (.int x2)] [(.int x1)] rfl ?_
    refine own_retI C S0 (by decide +kernel) (by decide) (by decide) ?_
    exact ⟨by rw [if_neg q7], rfl⟩
set_option maxRecDepth 65536 in
set_option maxHeartbeats 40000000 in
theorem own_max (l : Launch) (Z : State) (a0 : Array Value) (hw : ∀ d ∈ tables_1, d.before a0 Z = true) (x1 : Int32) (x2 : Int32) (h0 : Heap) (n0 : Nat) (z0 : n0 ≤ h0.size) :
    own_Met l Z (⟨"java/lang/Math", "max", "(II)I"⟩ : MethodName) jdk_29_method_65_code 2 (some .int) ({ frames := 0, cells := 0, slots := 0, locals := 0 } : Room) n0 #[(.int x1), (.int x2)] h0 (fun v h => v = some (.int (if x1 < x2 then x2 else x1)) ∧ h = h0) := by
  refine own_met (by decide +kernel) #[.val (.int x1), .val (.int x2)] (fun m => by first | (simp [entryFrame, mkF, argsToLocals, Value.category]; done) | rfl) ?_
  intro p e s m below meth c T0 C S0
  refine own_seg C S0 [(0, .iload_n 0, 1), (1, .iload_n 1, 1)] (by decide +kernel) 2 #[.val (.int x1), .val (.int x2)] [(.int x2), (.int x1)] rfl ?_
  refine own_icmp C S0 (q := .lt) (o := 7) (by decide +kernel) 9 (by decide) (by decide) (fun (q8 : x1 < x2) => ?_) (fun (q9 : ¬ x1 < x2) => ?_)
  · refine own_seg C S0 [(9, .iload_n 1, 1)] (by decide +kernel) 10 #[.val (.int x1), .val (.int x2)] [(.int x2)] rfl ?_
    refine own_retI C S0 (by decide +kernel) (by decide) (by decide) ?_
    exact ⟨by rw [if_pos q8], rfl⟩
  · refine own_seg C S0 [(5, .iload_n 0, 1), (6, .goto 4, 3)] (by decide +kernel) 10 #[.val (.int x1), .val (.int x2)] [(.int x1)] rfl ?_
    refine own_retI C S0 (by decide +kernel) (by decide) (by decide) ?_
    exact ⟨by rw [if_neg q9], rfl⟩
theorem own_fd0 : parseFieldDescriptor "[B" = some (.array .byte) := by decide +kernel
theorem own_fd1 : parseFieldDescriptor "B" = some .byte := by decide +kernel
theorem own_sn0 {Z : State} {a0 : Array Value} (hw : ∀ d ∈ tables_1, d.before a0 Z = true) : Jvm.RoadKit.slotOf Z "java/lang/AbstractStringBuilder" "coder" "B" ≠ Jvm.RoadKit.slotOf Z "java/lang/AbstractStringBuilder" "value" "[B" := slot_ne (Or.inl (own_wd hw 149 rfl)) (Or.inl (own_wd hw 147 rfl)) (by decide) own_fd1 own_fd0
theorem own_sn1 {Z : State} {a0 : Array Value} (hw : ∀ d ∈ tables_1, d.before a0 Z = true) : Jvm.RoadKit.slotOf Z "java/lang/AbstractStringBuilder" "value" "[B" ≠ Jvm.RoadKit.slotOf Z "java/lang/AbstractStringBuilder" "coder" "B" := slot_ne (Or.inl (own_wd hw 147 rfl)) (Or.inl (own_wd hw 149 rfl)) (by decide) own_fd0 own_fd1
theorem own_fd2 : parseFieldDescriptor "I" = some .int := by decide +kernel
theorem own_sn2 {Z : State} {a0 : Array Value} (hw : ∀ d ∈ tables_1, d.before a0 Z = true) : Jvm.RoadKit.slotOf Z "java/lang/AbstractStringBuilder" "count" "I" ≠ Jvm.RoadKit.slotOf Z "java/lang/AbstractStringBuilder" "value" "[B" := slot_ne (Or.inl (own_wd hw 172 rfl)) (Or.inl (own_wd hw 147 rfl)) (by decide) own_fd2 own_fd0
theorem own_sn3 {Z : State} {a0 : Array Value} (hw : ∀ d ∈ tables_1, d.before a0 Z = true) : Jvm.RoadKit.slotOf Z "java/lang/AbstractStringBuilder" "count" "I" ≠ Jvm.RoadKit.slotOf Z "java/lang/AbstractStringBuilder" "coder" "B" := slot_ne (Or.inl (own_wd hw 172 rfl)) (Or.inl (own_wd hw 149 rfl)) (by decide) own_fd2 own_fd1
set_option maxRecDepth 65536 in
set_option maxHeartbeats 40000000 in
theorem own_asbI (l : Launch) (Z : State) (a0 : Array Value) (hw : ∀ d ∈ tables_1, d.before a0 Z = true) (G1 : Int32) (G3 : Value) (a : Addr) (h0 : Heap) (n0 : Nat) (z0 : n0 ≤ h0.size) (ge_a : n0 ≤ a) (X00 : Old Z n0 h0) (aE : Exa Z h0 a "java/lang/StringBuilder") (aV : Fld Z h0 a "java/lang/AbstractStringBuilder" "value" "[B" .null) (aC : Fld Z h0 a "java/lang/AbstractStringBuilder" "coder" "B" (.int (0 : Int32))) (aN : Fld Z h0 a "java/lang/AbstractStringBuilder" "count" "I" (.int (0 : Int32))) (O2 : Sta Z Z.heap "java/lang/String" "COMPACT_STRINGS" "Z" (.int G1)) (O4 : Sta Z Z.heap "jdk/internal/util/Preconditions" "SIOOBE_FORMATTER" "Ljava/util/function/BiFunction;" G3) (P5 : ¬ G1 = (0 : Int32)) (rG3 : G3.isRef = true) :
    own_Met l Z (⟨"java/lang/AbstractStringBuilder", "<init>", "(I)V"⟩ : MethodName) jdk_68_method_2_code 2 none ({ frames := 1, cells := 1, slots := 16, locals := 12 } : Room) n0 #[(.ref a), (.int (16 : Int32))] h0 (fun v h => ∃ b : Addr, ∃ bk : ClassId, v = none ∧ h0.size ≤ b ∧ Keep h0 h [a] ∧ Exa Z h a "java/lang/StringBuilder" ∧ Fld Z h a "java/lang/AbstractStringBuilder" "value" "[B" (.ref b) ∧ Fld Z h a "java/lang/AbstractStringBuilder" "coder" "B" (.int (0 : Int32)) ∧ Fld Z h a "java/lang/AbstractStringBuilder" "count" "I" (.int (0 : Int32)) ∧ Arv Z h b bk .byte (16 : Int32) ([(.int (0 : Int32)), (.int (0 : Int32)), (.int (0 : Int32)), (.int (0 : Int32)), (.int (0 : Int32)), (.int (0 : Int32)), (.int (0 : Int32)), (.int (0 : Int32)), (.int (0 : Int32)), (.int (0 : Int32)), (.int (0 : Int32)), (.int (0 : Int32)), (.int (0 : Int32)), (.int (0 : Int32)), (.int (0 : Int32)), (.int (0 : Int32))]) (.int (0 : Int32))) := by
  refine own_met (by decide +kernel) #[.val (.ref a), .val (.int (16 : Int32))] (fun m => by first | (simp [entryFrame, mkF, argsToLocals, Value.category]; done) | rfl) ?_
  intro p e s m below meth c T0 C S0
  refine own_seg C S0 [(0, .aload_n 0, 1)] (by decide +kernel) 1 #[.val (.ref a), .val (.int (16 : Int32))] [(.ref a)] rfl ?_
  refine own_initO C S0 (own_wd hw 144 rfl) (own_wd hw 16 rfl) (own_wd hw 17 rfl) rfl (by decide +kernel) (by decide) 0 (Nat.le_of_ble_eq_true rfl) (by decide) ?_
  intro T10 S11
  refine own_getS C S11 (own_wd hw 145 rfl) Via.refl (O2.ext X00.2) (by decide +kernel) ?_
  intro T12 S13
  refine own_if C S13 (q := .eq) (o := 18) (by decide +kernel) 25 (by decide) (by decide) (fun (hq : G1 = (0 : Int32)) => False.elim (P5 hq)) (fun (q14 : ¬ G1 = (0 : Int32)) => ?_)
  refine own_seg C S13 [(10, .aload_n 0, 1), (11, .iload_n 1, 1)] (by decide +kernel) 12 #[.val (.ref a), .val (.int (16 : Int32))] [(.int (16 : Int32)), (.ref a)] rfl ?_
  refine own_newP C S13 (aty := .byte) (own_wd hw 19 rfl) (by decide +kernel) (by decide) 16 (by decide) (by decide) (by decide) (by decide) ?_
  intro T15 h17 a18 k19 S16 g20 E21 f22
  have f23 : Arv Z h17 a18 k19 .byte (16 : Int32) ([(.int (0 : Int32)), (.int (0 : Int32)), (.int (0 : Int32)), (.int (0 : Int32)), (.int (0 : Int32)), (.int (0 : Int32)), (.int (0 : Int32)), (.int (0 : Int32)), (.int (0 : Int32)), (.int (0 : Int32)), (.int (0 : Int32)), (.int (0 : Int32)), (.int (0 : Int32)), (.int (0 : Int32)), (.int (0 : Int32)), (.int (0 : Int32))]) (.int (0 : Int32)) := Arv.pad f22 (pad_rep [] (.int (0 : Int32)) 16)
  have f24 : Fld Z h17 a "java/lang/AbstractStringBuilder" "value" "[B" .null := (Fld.ext E21 aV)
  have f25 : Exa Z h17 a "java/lang/StringBuilder" := (Exa.ext E21 aE)
  refine own_putF C S16 (ty := (.array .byte)) (host := "") (Or.inl (own_wd hw 146 rfl)) Via.refl f24 f25 (Or.inl (own_wd hw 147 rfl)) (own_wd hw 133 rfl) own_fd0 rfl rfl ge_a (by decide +kernel) ?_
  intro T26 h28 S27 W29
  have f30 : Fld Z h28 a "java/lang/AbstractStringBuilder" "value" "[B" (.ref a18) := Fld.same W29 f24
  refine own_seg C S27 [(17, .aload_n 0, 1), (18, .iconst 0, 1)] (by decide +kernel) 19 #[.val (.ref a), .val (.int (16 : Int32))] [(.int (0 : Int32)), (.ref a)] rfl ?_
  have f31 : Fld Z h28 a "java/lang/AbstractStringBuilder" "coder" "B" (.int (0 : Int32)) := (Fld.other W29 (Fld.ext E21 aC) (Or.inr (own_sn0 hw)))
  have f32 : Exa Z h28 a "java/lang/StringBuilder" := (Exa.wr W29 f25)
  refine own_putF C S27 (ty := .byte) (host := "") (Or.inl (own_wd hw 148 rfl)) Via.refl f31 f32 (Or.inl (own_wd hw 149 rfl)) (own_wd hw 133 rfl) own_fd1 rfl rfl ge_a (by decide +kernel) ?_
  intro T33 h35 S34 W36
  have f37 : Fld Z h35 a "java/lang/AbstractStringBuilder" "coder" "B" (.int (0 : Int32)) := Fld.same W36 f31
  refine own_seg C S34 [(22, .goto 16, 3)] (by decide +kernel) 38 #[.val (.ref a), .val (.int (16 : Int32))] [] rfl ?_
  refine own_retV C S34 (by decide +kernel) (by decide) (by decide) ?_
  have f38 : Exa Z h35 a "java/lang/StringBuilder" := (Exa.wr W36 f32)
  have f39 : Fld Z h35 a "java/lang/AbstractStringBuilder" "value" "[B" (.ref a18) := (Fld.other W36 f30 (Or.inr (own_sn1 hw)))
  have f40 : Fld Z h35 a "java/lang/AbstractStringBuilder" "count" "I" (.int (0 : Int32)) := (Fld.other W36 (Fld.other W29 (Fld.ext E21 aN) (Or.inr (own_sn2 hw))) (Or.inr (own_sn3 hw)))
  have n41 : a ≠ a18 := by rw [g20]; exact Nat.ne_of_lt aE.lt
  have f42 : Arv Z h35 a18 k19 .byte (16 : Int32) ([(.int (0 : Int32)), (.int (0 : Int32)), (.int (0 : Int32)), (.int (0 : Int32)), (.int (0 : Int32)), (.int (0 : Int32)), (.int (0 : Int32)), (.int (0 : Int32)), (.int (0 : Int32)), (.int (0 : Int32)), (.int (0 : Int32)), (.int (0 : Int32)), (.int (0 : Int32)), (.int (0 : Int32)), (.int (0 : Int32)), (.int (0 : Int32))]) (.int (0 : Int32)) := ((f23.other W29 (Ne.symm n41)).other W36 (Ne.symm n41))
  exact ⟨a18, k19, rfl, (by rw [g20]; exact (Nat.le_refl _)), ((((Keep.refl _ _).ext E21).wr W29 (Or.inl (List.mem_of_getElem? (i := 0) rfl))).wr W36 (Or.inl (List.mem_of_getElem? (i := 0) rfl))), f38, f39, f37, f40, f42⟩
theorem own_pd0 : parseMethodDescriptor "(I)V" = some ⟨[.int], none⟩ := by decide +kernel
set_option maxRecDepth 65536 in
set_option maxHeartbeats 40000000 in
theorem own_sbI (l : Launch) (Z : State) (a0 : Array Value) (hw : ∀ d ∈ tables_1, d.before a0 Z = true) (G1 : Int32) (G3 : Value) (a : Addr) (h0 : Heap) (n0 : Nat) (z0 : n0 ≤ h0.size) (ge_a : n0 ≤ a) (X00 : Old Z n0 h0) (aE : Exa Z h0 a "java/lang/StringBuilder") (aV : Fld Z h0 a "java/lang/AbstractStringBuilder" "value" "[B" .null) (aC : Fld Z h0 a "java/lang/AbstractStringBuilder" "coder" "B" (.int (0 : Int32))) (aN : Fld Z h0 a "java/lang/AbstractStringBuilder" "count" "I" (.int (0 : Int32))) (O2 : Sta Z Z.heap "java/lang/String" "COMPACT_STRINGS" "Z" (.int G1)) (O4 : Sta Z Z.heap "jdk/internal/util/Preconditions" "SIOOBE_FORMATTER" "Ljava/util/function/BiFunction;" G3) (P5 : ¬ G1 = (0 : Int32)) (rG3 : G3.isRef = true) :
    own_Met l Z (⟨"java/lang/StringBuilder", "<init>", "()V"⟩ : MethodName) jdk_67_method_1_code 1 none ({ frames := 2, cells := 1, slots := 16, locals := 25 } : Room) n0 #[(.ref a)] h0 (fun v h => ∃ b : Addr, ∃ bk : ClassId, v = none ∧ h0.size ≤ b ∧ Keep h0 h [a] ∧ Exa Z h a "java/lang/StringBuilder" ∧ Fld Z h a "java/lang/AbstractStringBuilder" "value" "[B" (.ref b) ∧ Fld Z h a "java/lang/AbstractStringBuilder" "coder" "B" (.int (0 : Int32)) ∧ Fld Z h a "java/lang/AbstractStringBuilder" "count" "I" (.int (0 : Int32)) ∧ Arv Z h b bk .byte (16 : Int32) ([(.int (0 : Int32)), (.int (0 : Int32)), (.int (0 : Int32)), (.int (0 : Int32)), (.int (0 : Int32)), (.int (0 : Int32)), (.int (0 : Int32)), (.int (0 : Int32)), (.int (0 : Int32)), (.int (0 : Int32)), (.int (0 : Int32)), (.int (0 : Int32)), (.int (0 : Int32)), (.int (0 : Int32)), (.int (0 : Int32)), (.int (0 : Int32))]) (.int (0 : Int32))) := by
  refine own_met (by decide +kernel) #[.val (.ref a)] (fun m => by first | (simp [entryFrame, mkF, argsToLocals, Value.category]; done) | rfl) ?_
  intro p e s m below meth c T0 C S0
  refine own_seg C S0 [(0, .aload_n 0, 1), (1, .bipush 16, 2)] (by decide +kernel) 3 #[.val (.ref a)] [(.int (16 : Int32)), (.ref a)] rfl ?_
  refine own_callI C S0 rfl (own_wd hw 138 rfl) (own_wd hw 139 rfl) (own_wd hw 143 rfl) (by decide) (own_Met.pay (own_asbI l Z a0 hw G1 G3 a h0 n0 z0 ge_a X00 aE aV aC aN O2 O4 P5 rG3) C 0 (own_wd hw 143 rfl) (own_wd hw 142 rfl) (by decide) (by decide)) (fun _ _ _ q => q.2) [(.int (16 : Int32))] [] rfl own_pd0 rfl rfl rfl (Nat.le_of_ble_eq_true rfl) (by decide) (by decide) (by decide +kernel) ?_
  rintro T52 h53 v54 L55 S56 ⟨⟨a43, k44, rfl, g45, K46, f47, f48, f49, f50, f51⟩, -⟩
  replace S56 : own_S p l e ({ frames := 2, cells := 1, slots := 16, locals := 25 } : Room) s m #[(.ref a)] below meth c n0 T52 h53 1 16 := S56
  show own_Go p e below _ T52 (mkF m 6 #[.val (.ref a)] [])
  refine own_retV C S56 (by decide +kernel) (by decide) (by decide) ?_
  exact ⟨a43, k44, rfl, (Nat.le_trans (Nat.le_refl _) g45), ((Keep.refl _ _).trans K46 (allS (Or.inl (List.mem_of_getElem? (i := 0) rfl)) all0)), f47, f48, f49, f50, f51⟩
set_option maxRecDepth 65536 in
set_option maxHeartbeats 40000000 in
theorem own_ens (l : Launch) (Z : State) (a0 : Array Value) (hw : ∀ d ∈ tables_1, d.before a0 Z = true) (a : Addr) (mn : Int32) (b : Addr) (bk : ClassId) (bN : Int32) (bvs : List Value) (h0 : Heap) (n0 : Nat) (z0 : n0 ≤ h0.size) (aE : Exa Z h0 a "java/lang/StringBuilder") (aV : Fld Z h0 a "java/lang/AbstractStringBuilder" "value" "[B" (.ref b)) (aC : Fld Z h0 a "java/lang/AbstractStringBuilder" "coder" "B" (.int (0 : Int32))) (bK : Arv Z h0 b bk .byte bN bvs (.int (0 : Int32))) (hle : ¬ (0 : Int32) < (mn - bN)) :
    own_Met l Z (⟨"java/lang/AbstractStringBuilder", "ensureCapacityInternal", "(I)V"⟩ : MethodName) jdk_68_method_9_code 3 none ({ frames := 0, cells := 0, slots := 0, locals := 0 } : Room) n0 #[(.ref a), (.int mn)] h0 (fun v h => v = none ∧ h = h0) := by
  refine own_met (by decide +kernel) #[.val (.ref a), .val (.int mn), .unset] (fun m => by first | (simp [entryFrame, mkF, argsToLocals, Value.category]; done) | rfl) ?_
  intro p e s m below meth c T0 C S0
  refine own_seg C S0 [(0, .aload_n 0, 1)] (by decide +kernel) 1 #[.val (.ref a), .val (.int mn), .unset] [(.ref a)] rfl ?_
  refine own_getF C S0 (host := "") (Or.inl (own_wd hw 146 rfl)) Via.refl aV (by decide +kernel) ?_
  intro T57 S58
  refine own_alen C S58 bK (by decide +kernel) ?_
  refine own_seg C S58 [(5, .aload_n 0, 1)] (by decide +kernel) 6 #[.val (.ref a), .val (.int mn), .unset] [(.ref a), (.int bN)] rfl ?_
  refine own_getF C S58 (host := "") (Or.inl (own_wd hw 148 rfl)) Via.refl aC (by decide +kernel) ?_
  intro T59 S60
  refine own_seg C S60 [(9, .ishr, 1)] (by decide +kernel) 10 #[.val (.ref a), .val (.int mn), .unset] [(.int (bN >>> ((0 : Int32) &&& 31)))] rfl ?_
  rw [show (bN >>> ((0 : Int32) &&& 31)) = bN from own_shr0 _]
  refine own_seg C S60 [(10, .istore_n 2, 1), (11, .iload_n 1, 1), (12, .iload_n 2, 1), (13, .isub, 1)] (by decide +kernel) 14 #[.val (.ref a), .val (.int mn), .val (.int bN)] [(.int (mn - bN))] rfl ?_
  refine own_if C S60 (q := .le) (o := 24) (by decide +kernel) 38 (by decide) (by decide) (fun (q61 : ¬ (0 : Int32) < (mn - bN)) => ?_) (fun (hq : (0 : Int32) < (mn - bN)) => False.elim (hle hq))
  refine own_retV C S60 (by decide +kernel) (by decide) (by decide) ?_
  exact ⟨rfl, rfl⟩
theorem own_pd1 : parseMethodDescriptor "()B" = some ⟨[], (some .byte)⟩ := by decide +kernel
set_option maxRecDepth 65536 in
set_option maxHeartbeats 40000000 in
theorem own_infl (l : Launch) (Z : State) (a0 : Array Value) (hw : ∀ d ∈ tables_1, d.before a0 Z = true) (G1 : Int32) (G3 : Value) (a : Addr) (x : Addr) (h0 : Heap) (n0 : Nat) (z0 : n0 ≤ h0.size) (X00 : Old Z n0 h0) (aC : Fld Z h0 a "java/lang/AbstractStringBuilder" "coder" "B" (.int (0 : Int32))) (xE : Exa Z h0 x "java/lang/String") (xC : Fld Z h0 x "java/lang/String" "coder" "B" (.int 0)) (O2 : Sta Z Z.heap "java/lang/String" "COMPACT_STRINGS" "Z" (.int G1)) (O4 : Sta Z Z.heap "jdk/internal/util/Preconditions" "SIOOBE_FORMATTER" "Ljava/util/function/BiFunction;" G3) (P5 : ¬ G1 = (0 : Int32)) (rG3 : G3.isRef = true) :
    own_Met l Z (⟨"java/lang/AbstractStringBuilder", "inflateIfNeededFor", "(Ljava/lang/String;)V"⟩ : MethodName) jdk_68_method_71_code 2 none ({ frames := 1, cells := 0, slots := 0, locals := 13 } : Room) n0 #[(.ref a), (.ref x)] h0 (fun v h => v = none ∧ h = h0) := by
  refine own_met (by decide +kernel) #[.val (.ref a), .val (.ref x)] (fun m => by first | (simp [entryFrame, mkF, argsToLocals, Value.category]; done) | rfl) ?_
  intro p e s m below meth c T0 C S0
  refine own_getS C S0 (own_wd hw 145 rfl) Via.refl (O2.ext X00.2) (by decide +kernel) ?_
  intro T62 S63
  refine own_if C S63 (q := .eq) (o := 18) (by decide +kernel) 21 (by decide) (by decide) (fun (hq : G1 = (0 : Int32)) => False.elim (P5 hq)) (fun (q64 : ¬ G1 = (0 : Int32)) => ?_)
  refine own_seg C S63 [(6, .aload_n 0, 1)] (by decide +kernel) 7 #[.val (.ref a), .val (.ref x)] [(.ref a)] rfl ?_
  refine own_getF C S63 (host := "") (Or.inl (own_wd hw 148 rfl)) Via.refl aC (by decide +kernel) ?_
  intro T65 S66
  refine own_seg C S66 [(10, .aload_n 1, 1)] (by decide +kernel) 11 #[.val (.ref a), .val (.ref x)] [(.ref x), (.int (0 : Int32))] rfl ?_
  refine own_callV C S66 (own_wd hw 188 rfl) (own_wd hw 166 rfl) (own_wd hw 168 rfl) (y' := ⟨"java/lang/String", "coder", "()B"⟩) rfl (own_wd hw 168 rfl) (own_wd hw 167 rfl) (by decide) (own_Met.pay (own_coder l Z a0 hw G1 G3 x h0 n0 z0 X00 xC O2 O4 P5 rG3) C 1 (own_wd hw 169 rfl) (own_wd hw 6 rfl) (by decide) (by decide)) (fun _ _ _ q => q.2) xE [] [(.int (0 : Int32))] rfl own_pd1 rfl rfl rfl (Nat.le_of_ble_eq_true rfl) (by decide) (by decide) (by decide +kernel) ?_
  rintro T68 h69 v70 L71 S72 ⟨⟨rfl, e67⟩, -⟩
  replace S72 : own_S p l e ({ frames := 1, cells := 0, slots := 0, locals := 13 } : Room) s m #[(.ref a), (.ref x)] below meth c n0 T68 h69 0 0 := S72
  rw [e67] at S72; clear e67
  show own_Go p e below _ T68 (mkF m 14 #[.val (.ref a), .val (.ref x)] [(.int 0), (.int (0 : Int32))])
  refine own_icmp C S72 (q := .eq) (o := 7) (by decide +kernel) 21 (by decide) (by decide) (fun (q73 : (0 : Int32) = 0) => ?_) (fun (hq : ¬ (0 : Int32) = 0) => False.elim (hq rfl))
  refine own_retV C S72 (by decide +kernel) (by decide) (by decide) ?_
  exact ⟨rfl, rfl⟩
set_option maxRecDepth 65536 in
set_option maxHeartbeats 40000000 in
theorem own_gb (l : Launch) (Z : State) (a0 : Array Value) (hw : ∀ d ∈ tables_1, d.before a0 Z = true) (G1 : Int32) (G3 : Value) (x : Addr) (xt : Addr) (xk : ClassId) (xN : Int32) (xvs : List Value) (xcs : List Int32) (b : Addr) (bk : ClassId) (bN : Int32) (bvs : List Value) (off : Int32) (us : List Value) (h0 : Heap) (n0 : Nat) (z0 : n0 ≤ h0.size) (ge_b : n0 ≤ b) (X00 : Old Z n0 h0) (xE : Exa Z h0 x "java/lang/String") (xV : Fld Z h0 x "java/lang/String" "value" "[B" (.ref xt)) (xC : Fld Z h0 x "java/lang/String" "coder" "B" (.int 0)) (xK : Arv Z h0 xt xk .byte xN xvs (.int 0)) (bK : Arv Z h0 b bk .byte bN bvs (.int (0 : Int32))) (O2 : Sta Z Z.heap "java/lang/String" "COMPACT_STRINGS" "Z" (.int G1)) (O4 : Sta Z Z.heap "jdk/internal/util/Preconditions" "SIOOBE_FORMATTER" "Ljava/util/function/BiFunction;" G3) (P5 : ¬ G1 = (0 : Int32)) (rG3 : G3.isRef = true) (xcd : StrChars.Road.CodA xcs 0 xN xvs) (xhp : ∀ c ∈ xcs, ¬ c < 0 ∧ ¬ (255 : Int32) < c) (xl2 : xcs.length ≤ 4000) (c3 : ¬ xN < 0) (c2 : ¬ off < 0) (c5 : off.toNatClampNeg + xN.toNatClampNeg ≤ bN.toNatClampNeg) (cl : off.toNatClampNeg + xN.toNatClampNeg ≤ bvs.length) (cu : bvs.take off.toNatClampNeg ++ ((List.range xN.toNatClampNeg).map fun i => xvs.getD ((0 : Int32).toNatClampNeg + i) (.int 0)) ++ bvs.drop (off.toNatClampNeg + xN.toNatClampNeg) = us) :
    own_Met l Z (⟨"java/lang/String", "getBytes", "([BIB)V"⟩ : MethodName) jdk_42_method_147_code 4 none ({ frames := 1, cells := 0, slots := 0, locals := 18 } : Room) n0 #[(.ref x), (.ref b), (.int off), (.int (0 : Int32))] h0 (fun v h => v = none ∧ Keep h0 h [b] ∧ Arv Z h b bk .byte bN us (.int (0 : Int32))) := by
  refine own_met (by decide +kernel) #[.val (.ref x), .val (.ref b), .val (.int off), .val (.int (0 : Int32))] (fun m => by first | (simp [entryFrame, mkF, argsToLocals, Value.category]; done) | rfl) ?_
  intro p e s m below meth c T0 C S0
  refine own_seg C S0 [(0, .aload_n 0, 1)] (by decide +kernel) 1 #[.val (.ref x), .val (.ref b), .val (.int off), .val (.int (0 : Int32))] [(.ref x)] rfl ?_
  refine own_callV C S0 (own_wd hw 165 rfl) (own_wd hw 166 rfl) (own_wd hw 168 rfl) (y' := ⟨"java/lang/String", "coder", "()B"⟩) rfl (own_wd hw 168 rfl) (own_wd hw 167 rfl) (by decide) (own_Met.pay (own_coder l Z a0 hw G1 G3 x h0 n0 z0 X00 xC O2 O4 P5 rG3) C 0 (own_wd hw 169 rfl) (own_wd hw 6 rfl) (by decide) (by decide)) (fun _ _ _ q => q.2) xE [] [] rfl own_pd1 rfl rfl rfl (Nat.le_of_ble_eq_true rfl) (by decide) (by decide) (by decide +kernel) ?_
  rintro T75 h76 v77 L78 S79 ⟨⟨rfl, e74⟩, -⟩
  replace S79 : own_S p l e ({ frames := 1, cells := 0, slots := 0, locals := 18 } : Room) s m #[(.ref x), (.ref b), (.int off), (.int (0 : Int32))] below meth c n0 T75 h76 0 0 := S79
  rw [e74] at S79; clear e74
  show own_Go p e below _ T75 (mkF m 4 #[.val (.ref x), .val (.ref b), .val (.int off), .val (.int (0 : Int32))] [(.int 0)])
  refine own_seg C S79 [(4, .iload_n 3, 1)] (by decide +kernel) 5 #[.val (.ref x), .val (.ref b), .val (.int off), .val (.int (0 : Int32))] [(.int (0 : Int32)), (.int 0)] rfl ?_
  refine own_icmp C S79 (q := .ne) (o := 23) (by decide +kernel) 28 (by decide) (by decide) (fun (hq : ¬ 0 = (0 : Int32)) => False.elim (hq rfl)) (fun (q80 : 0 = (0 : Int32)) => ?_)
  refine own_seg C S79 [(8, .aload_n 0, 1)] (by decide +kernel) 9 #[.val (.ref x), .val (.ref b), .val (.int off), .val (.int (0 : Int32))] [(.ref x)] rfl ?_
  refine own_getF C S79 (host := "") (Or.inl (own_wd hw 24 rfl)) Via.refl xV (by decide +kernel) ?_
  intro T81 S82
  refine own_seg C S82 [(12, .iconst 0, 1), (13, .aload_n 1, 1), (14, .iload_n 2, 1), (15, .iload_n 3, 1)] (by decide +kernel) 16 #[.val (.ref x), .val (.ref b), .val (.int off), .val (.int (0 : Int32))] [(.int (0 : Int32)), (.int off), (.ref b), (.int (0 : Int32)), (.ref xt)] rfl ?_
  refine own_seg C S82 [(16, .ishl, 1)] (by decide +kernel) 17 #[.val (.ref x), .val (.ref b), .val (.int off), .val (.int (0 : Int32))] [(.int (off <<< ((0 : Int32) &&& 31))), (.ref b), (.int (0 : Int32)), (.ref xt)] rfl ?_
  rw [show (off <<< ((0 : Int32) &&& 31)) = off from own_shl0 _]
  refine own_seg C S82 [(17, .aload_n 0, 1)] (by decide +kernel) 18 #[.val (.ref x), .val (.ref b), .val (.int off), .val (.int (0 : Int32))] [(.ref x), (.int off), (.ref b), (.int (0 : Int32)), (.ref xt)] rfl ?_
  refine own_getF C S82 (host := "") (Or.inl (own_wd hw 24 rfl)) Via.refl xV (by decide +kernel) ?_
  intro T83 S84
  refine own_alen C S84 xK (by decide +kernel) ?_
  refine own_copy C S84 (own_wd hw 194 rfl) (own_wd hw 197 rfl) (own_wd hw 195 rfl) (own_wd hw 196 rfl) xK bK rfl (by decide) c2 c3 (Nat.le_of_eq (Nat.zero_add _)) c5 cl ge_b us cu rfl (by decide +kernel) (by decide) 0 (Nat.le_of_ble_eq_true rfl) (by decide) ?_
  intro T85 h87 S86 K88 f89
  refine own_seg C S86 [(25, .goto 18, 3)] (by decide +kernel) 43 #[.val (.ref x), .val (.ref b), .val (.int off), .val (.int (0 : Int32))] [] rfl ?_
  refine own_retV C S86 (by decide +kernel) (by decide) (by decide) ?_
  exact ⟨rfl, ((Keep.refl _ _).trans K88 (allS (Or.inl (List.mem_of_getElem? (i := 0) rfl)) all0)), f89⟩
theorem own_pd2 : parseMethodDescriptor "(Ljava/lang/String;)V" = some ⟨[(.object "java/lang/String")], none⟩ := by decide +kernel
theorem own_pd3 : parseMethodDescriptor "([BIB)V" = some ⟨[(.array .byte), .int, .byte], none⟩ := by decide +kernel
set_option maxRecDepth 65536 in
set_option maxHeartbeats 40000000 in
theorem own_put (l : Launch) (Z : State) (a0 : Array Value) (hw : ∀ d ∈ tables_1, d.before a0 Z = true) (G1 : Int32) (G3 : Value) (x : Addr) (xt : Addr) (xk : ClassId) (xN : Int32) (xvs : List Value) (xcs : List Int32) (a : Addr) (b : Addr) (bk : ClassId) (bN : Int32) (bvs : List Value) (off : Int32) (us : List Value) (h0 : Heap) (n0 : Nat) (z0 : n0 ≤ h0.size) (ge_b : n0 ≤ b) (X00 : Old Z n0 h0) (xE : Exa Z h0 x "java/lang/String") (xV : Fld Z h0 x "java/lang/String" "value" "[B" (.ref xt)) (xC : Fld Z h0 x "java/lang/String" "coder" "B" (.int 0)) (xK : Arv Z h0 xt xk .byte xN xvs (.int 0)) (aE : Exa Z h0 a "java/lang/StringBuilder") (aV : Fld Z h0 a "java/lang/AbstractStringBuilder" "value" "[B" (.ref b)) (aC : Fld Z h0 a "java/lang/AbstractStringBuilder" "coder" "B" (.int (0 : Int32))) (bK : Arv Z h0 b bk .byte bN bvs (.int (0 : Int32))) (O2 : Sta Z Z.heap "java/lang/String" "COMPACT_STRINGS" "Z" (.int G1)) (O4 : Sta Z Z.heap "jdk/internal/util/Preconditions" "SIOOBE_FORMATTER" "Ljava/util/function/BiFunction;" G3) (P5 : ¬ G1 = (0 : Int32)) (rG3 : G3.isRef = true) (xcd : StrChars.Road.CodA xcs 0 xN xvs) (xhp : ∀ c ∈ xcs, ¬ c < 0 ∧ ¬ (255 : Int32) < c) (xl2 : xcs.length ≤ 4000) (c3 : ¬ xN < 0) (c2 : ¬ off < 0) (c5 : off.toNatClampNeg + xN.toNatClampNeg ≤ bN.toNatClampNeg) (cl : off.toNatClampNeg + xN.toNatClampNeg ≤ bvs.length) (cu : bvs.take off.toNatClampNeg ++ ((List.range xN.toNatClampNeg).map fun i => xvs.getD ((0 : Int32).toNatClampNeg + i) (.int 0)) ++ bvs.drop (off.toNatClampNeg + xN.toNatClampNeg) = us) :
    own_Met l Z (⟨"java/lang/AbstractStringBuilder", "putStringAt", "(ILjava/lang/String;)V"⟩ : MethodName) jdk_68_method_73_code 3 none ({ frames := 2, cells := 0, slots := 0, locals := 33 } : Room) n0 #[(.ref a), (.int off), (.ref x)] h0 (fun v h => v = none ∧ Keep h0 h [b] ∧ Arv Z h b bk .byte bN us (.int (0 : Int32))) := by
  refine own_met (by decide +kernel) #[.val (.ref a), .val (.int off), .val (.ref x)] (fun m => by first | (simp [entryFrame, mkF, argsToLocals, Value.category]; done) | rfl) ?_
  intro p e s m below meth c T0 C S0
  refine own_seg C S0 [(0, .aload_n 0, 1), (1, .aload_n 2, 1)] (by decide +kernel) 2 #[.val (.ref a), .val (.int off), .val (.ref x)] [(.ref x), (.ref a)] rfl ?_
  refine own_callP C S0 (own_wd hw 183 rfl) (own_wd hw 184 rfl) (own_selfP (own_wd hw 184 rfl) (own_wd hw 185 rfl) (own_wd hw 186 rfl) (by decide)) (own_wd hw 185 rfl) (own_wd hw 187 rfl) (by decide) (own_Met.pay (own_infl l Z a0 hw G1 G3 a x h0 n0 z0 X00 aC xE xC O2 O4 P5 rG3) C 0 (own_wd hw 187 rfl) (own_wd hw 142 rfl) (by decide) (by decide)) (fun _ _ _ q => q.2) aE [(.ref x)] [] rfl own_pd2 rfl rfl rfl (Nat.le_of_ble_eq_true rfl) (by decide) (by decide) (by decide +kernel) ?_
  rintro T91 h92 v93 L94 S95 ⟨⟨rfl, e90⟩, -⟩
  replace S95 : own_S p l e ({ frames := 2, cells := 0, slots := 0, locals := 33 } : Room) s m #[(.ref a), (.int off), (.ref x)] below meth c n0 T91 h92 0 0 := S95
  rw [e90] at S95; clear e90
  show own_Go p e below _ T91 (mkF m 5 #[.val (.ref a), .val (.int off), .val (.ref x)] [])
  refine own_seg C S95 [(5, .aload_n 2, 1), (6, .aload_n 0, 1)] (by decide +kernel) 7 #[.val (.ref a), .val (.int off), .val (.ref x)] [(.ref a), (.ref x)] rfl ?_
  refine own_getF C S95 (host := "") (Or.inl (own_wd hw 146 rfl)) Via.refl aV (by decide +kernel) ?_
  intro T96 S97
  refine own_seg C S97 [(10, .iload_n 1, 1), (11, .aload_n 0, 1)] (by decide +kernel) 12 #[.val (.ref a), .val (.int off), .val (.ref x)] [(.ref a), (.int off), (.ref b), (.ref x)] rfl ?_
  refine own_getF C S97 (host := "") (Or.inl (own_wd hw 148 rfl)) Via.refl aC (by decide +kernel) ?_
  intro T98 S99
  refine own_callV C S99 (own_wd hw 189 rfl) (own_wd hw 190 rfl) (own_wd hw 192 rfl) (y' := ⟨"java/lang/String", "getBytes", "([BIB)V"⟩) rfl (own_wd hw 192 rfl) (own_wd hw 191 rfl) (by decide) (own_Met.pay (own_gb l Z a0 hw G1 G3 x xt xk xN xvs xcs b bk bN bvs off us h0 n0 z0 ge_b X00 xE xV xC xK bK O2 O4 P5 rG3 xcd xhp xl2 c3 c2 c5 cl cu) C 0 (own_wd hw 193 rfl) (own_wd hw 6 rfl) (by decide) (by decide)) (fun _ _ _ q => q.2) xE [(.ref b), (.int off), (.int (0 : Int32))] [] rfl own_pd3 rfl rfl rfl (Nat.le_of_ble_eq_true rfl) (by decide) (by decide) (by decide +kernel) ?_
  rintro T102 h103 v104 L105 S106 ⟨⟨rfl, K100, f101⟩, -⟩
  replace S106 : own_S p l e ({ frames := 2, cells := 0, slots := 0, locals := 33 } : Room) s m #[(.ref a), (.int off), (.ref x)] below meth c n0 T102 h103 0 0 := S106
  show own_Go p e below _ T102 (mkF m 18 #[.val (.ref a), .val (.int off), .val (.ref x)] [])
  refine own_retV C S106 (by decide +kernel) (by decide) (by decide) ?_
  exact ⟨rfl, ((Keep.refl _ _).trans K100 (allS (Or.inl (List.mem_of_getElem? (i := 0) rfl)) all0)), f101⟩
theorem own_hln : ∀ d ∈ StrChars.Road.wordsLen, d ∈ tables_1 := by decide +kernel
theorem own_pd4 : parseMethodDescriptor "()I" = some ⟨[], (some .int)⟩ := by decide +kernel
theorem own_pd5 : parseMethodDescriptor "(ILjava/lang/String;)V" = some ⟨[.int, (.object "java/lang/String")], none⟩ := by decide +kernel
theorem own_sn4 {Z : State} {a0 : Array Value} (hw : ∀ d ∈ tables_1, d.before a0 Z = true) : Jvm.RoadKit.slotOf Z "java/lang/AbstractStringBuilder" "value" "[B" ≠ Jvm.RoadKit.slotOf Z "java/lang/AbstractStringBuilder" "count" "I" := slot_ne (Or.inl (own_wd hw 147 rfl)) (Or.inl (own_wd hw 172 rfl)) (by decide) own_fd0 own_fd2
theorem own_sn5 {Z : State} {a0 : Array Value} (hw : ∀ d ∈ tables_1, d.before a0 Z = true) : Jvm.RoadKit.slotOf Z "java/lang/AbstractStringBuilder" "coder" "B" ≠ Jvm.RoadKit.slotOf Z "java/lang/AbstractStringBuilder" "count" "I" := slot_ne (Or.inl (own_wd hw 149 rfl)) (Or.inl (own_wd hw 172 rfl)) (by decide) own_fd1 own_fd2
set_option maxRecDepth 65536 in
set_option maxHeartbeats 40000000 in
theorem own_asbA (l : Launch) (Z : State) (a0 : Array Value) (hw : ∀ d ∈ tables_1, d.before a0 Z = true) (G1 : Int32) (G3 : Value) (x : Addr) (xt : Addr) (xk : ClassId) (xN : Int32) (xvs : List Value) (xcs : List Int32) (a : Addr) (b : Addr) (bk : ClassId) (bN : Int32) (bvs : List Value) (cnt : Int32) (us : List Value) (h0 : Heap) (n0 : Nat) (z0 : n0 ≤ h0.size) (ge_a : n0 ≤ a) (ge_b : n0 ≤ b) (X00 : Old Z n0 h0) (xE : Exa Z h0 x "java/lang/String") (xV : Fld Z h0 x "java/lang/String" "value" "[B" (.ref xt)) (xC : Fld Z h0 x "java/lang/String" "coder" "B" (.int 0)) (xK : Arv Z h0 xt xk .byte xN xvs (.int 0)) (aE : Exa Z h0 a "java/lang/StringBuilder") (aV : Fld Z h0 a "java/lang/AbstractStringBuilder" "value" "[B" (.ref b)) (aC : Fld Z h0 a "java/lang/AbstractStringBuilder" "coder" "B" (.int (0 : Int32))) (aN : Fld Z h0 a "java/lang/AbstractStringBuilder" "count" "I" (.int cnt)) (bK : Arv Z h0 b bk .byte bN bvs (.int (0 : Int32))) (ne_xt_b : xt ≠ b) (ne_xt_a : xt ≠ a) (ne_x_a : x ≠ a) (ne_x_b : x ≠ b) (ne_b_a : b ≠ a) (O2 : Sta Z Z.heap "java/lang/String" "COMPACT_STRINGS" "Z" (.int G1)) (O4 : Sta Z Z.heap "jdk/internal/util/Preconditions" "SIOOBE_FORMATTER" "Ljava/util/function/BiFunction;" G3) (P5 : ¬ G1 = (0 : Int32)) (rG3 : G3.isRef = true) (xcd : StrChars.Road.CodA xcs 0 xN xvs) (xhp : ∀ c ∈ xcs, ¬ c < 0 ∧ ¬ (255 : Int32) < c) (xl2 : xcs.length ≤ 4000) (hle : ¬ (0 : Int32) < ((cnt + xN) - bN)) (c3 : ¬ xN < 0) (c2 : ¬ cnt < 0) (c5 : cnt.toNatClampNeg + xN.toNatClampNeg ≤ bN.toNatClampNeg) (cl : cnt.toNatClampNeg + xN.toNatClampNeg ≤ bvs.length) (cu : bvs.take cnt.toNatClampNeg ++ ((List.range xN.toNatClampNeg).map fun i => xvs.getD ((0 : Int32).toNatClampNeg + i) (.int 0)) ++ bvs.drop (cnt.toNatClampNeg + xN.toNatClampNeg) = us) :
    own_Met l Z (⟨"java/lang/AbstractStringBuilder", "append", "(Ljava/lang/String;)Ljava/lang/AbstractStringBuilder;"⟩ : MethodName) jdk_68_method_22_code 3 (some (.object "java/lang/AbstractStringBuilder")) ({ frames := 3, cells := 0, slots := 0, locals := 47 } : Room) n0 #[(.ref a), (.ref x)] h0 (fun v h => v = some (.ref a) ∧ Keep h0 h [a, b] ∧ Exa Z h a "java/lang/StringBuilder" ∧ Fld Z h a "java/lang/AbstractStringBuilder" "value" "[B" (.ref b) ∧ Fld Z h a "java/lang/AbstractStringBuilder" "coder" "B" (.int (0 : Int32)) ∧ Fld Z h a "java/lang/AbstractStringBuilder" "count" "I" (.int (cnt + xN)) ∧ Arv Z h b bk .byte bN us (.int (0 : Int32))) := by
  refine own_met (by decide +kernel) #[.val (.ref a), .val (.ref x), .unset] (fun m => by first | (simp [entryFrame, mkF, argsToLocals, Value.category]; done) | rfl) ?_
  intro p e s m below meth c T0 C S0
  refine own_seg C S0 [(0, .aload_n 1, 1), (1, .ifnonnull 8, 3), (9, .aload_n 1, 1)] (by decide +kernel) 10 #[.val (.ref a), .val (.ref x), .unset] [(.ref x)] rfl ?_
  refine own_callV C S0 (own_wd hw 160 rfl) (own_wd hw 161 rfl) (own_wd hw 163 rfl) (y' := ⟨"java/lang/String", "length", "()I"⟩) rfl (own_wd hw 163 rfl) (own_wd hw 162 rfl) (by decide) (Q := (fun v h' L => v = some (.int (Int32.ofNat (xcs).length)) ∧ L = [] ∧ h' = h0)) (StrChars.Road.lenW (W := 0) C.2.2.2.2.2.2.2 (fun d hd => hw d (own_hln d hd)) (kI := 4) (own_wd hw 5 rfl) xE xV xC xK xcd (own_up _ xhp) (O2.ext X00.2) P5 xl2 (by decide) (by decide)) (fun _ _ L q => by rw [q.2.1]; exact Fr.nil _) xE [] [] rfl own_pd4 rfl rfl rfl (Nat.le_of_ble_eq_true rfl) (by decide) (by decide) (by decide +kernel) ?_
  rintro T108 h109 v110 L111 S112 ⟨rfl, -, e107⟩
  replace S112 : own_S p l e ({ frames := 3, cells := 0, slots := 0, locals := 47 } : Room) s m #[(.ref a), (.ref x)] below meth c n0 T108 h109 0 0 := S112
  rw [e107] at S112; clear e107
  rw [(own_cod xcd).1]
  show own_Go p e below _ T108 (mkF m 13 #[.val (.ref a), .val (.ref x), .unset] [(.int xN)])
  refine own_seg C S112 [(13, .istore_n 2, 1), (14, .aload_n 0, 1), (15, .aload_n 0, 1)] (by decide +kernel) 16 #[.val (.ref a), .val (.ref x), .val (.int xN)] [(.ref a), (.ref a)] rfl ?_
  refine own_getF C S112 (host := "") (Or.inl (own_wd hw 171 rfl)) Via.refl aN (by decide +kernel) ?_
  intro T113 S114
  refine own_seg C S114 [(19, .iload_n 2, 1), (20, .iadd, 1)] (by decide +kernel) 21 #[.val (.ref a), .val (.ref x), .val (.int xN)] [(.int (cnt + xN)), (.ref a)] rfl ?_
  refine own_callP C S114 (own_wd hw 173 rfl) (own_wd hw 174 rfl) (own_selfP (own_wd hw 174 rfl) (own_wd hw 175 rfl) (own_wd hw 176 rfl) (by decide)) (own_wd hw 175 rfl) (own_wd hw 177 rfl) (by decide) (own_Met.pay (own_ens l Z a0 hw a (cnt + xN) b bk bN bvs h0 n0 z0 aE aV aC bK hle) C 0 (own_wd hw 177 rfl) (own_wd hw 142 rfl) (by decide) (by decide)) (fun _ _ _ q => q.2) aE [(.int (cnt + xN))] [] rfl own_pd0 rfl rfl rfl (Nat.le_of_ble_eq_true rfl) (by decide) (by decide) (by decide +kernel) ?_
  rintro T116 h117 v118 L119 S120 ⟨⟨rfl, e115⟩, -⟩
  replace S120 : own_S p l e ({ frames := 3, cells := 0, slots := 0, locals := 47 } : Room) s m #[(.ref a), (.ref x)] below meth c n0 T116 h117 0 0 := S120
  rw [e115] at S120; clear e115
  show own_Go p e below _ T116 (mkF m 24 #[.val (.ref a), .val (.ref x), .val (.int xN)] [])
  refine own_seg C S120 [(24, .aload_n 0, 1), (25, .aload_n 0, 1)] (by decide +kernel) 26 #[.val (.ref a), .val (.ref x), .val (.int xN)] [(.ref a), (.ref a)] rfl ?_
  refine own_getF C S120 (host := "") (Or.inl (own_wd hw 171 rfl)) Via.refl aN (by decide +kernel) ?_
  intro T121 S122
  refine own_seg C S122 [(29, .aload_n 1, 1)] (by decide +kernel) 30 #[.val (.ref a), .val (.ref x), .val (.int xN)] [(.ref x), (.int cnt), (.ref a)] rfl ?_
  refine own_callP C S122 (own_wd hw 178 rfl) (own_wd hw 179 rfl) (own_selfP (own_wd hw 179 rfl) (own_wd hw 180 rfl) (own_wd hw 181 rfl) (by decide)) (own_wd hw 180 rfl) (own_wd hw 182 rfl) (by decide) (own_Met.pay (own_put l Z a0 hw G1 G3 x xt xk xN xvs xcs a b bk bN bvs cnt us h0 n0 z0 ge_b X00 xE xV xC xK aE aV aC bK O2 O4 P5 rG3 xcd xhp xl2 c3 c2 c5 cl cu) C 0 (own_wd hw 182 rfl) (own_wd hw 142 rfl) (by decide) (by decide)) (fun _ _ _ q => q.2) aE [(.int cnt), (.ref x)] [] rfl own_pd5 rfl rfl rfl (Nat.le_of_ble_eq_true rfl) (by decide) (by decide) (by decide +kernel) ?_
  rintro T125 h126 v127 L128 S129 ⟨⟨rfl, K123, f124⟩, -⟩
  replace S129 : own_S p l e ({ frames := 3, cells := 0, slots := 0, locals := 47 } : Room) s m #[(.ref a), (.ref x)] below meth c n0 T125 h126 0 0 := S129
  show own_Go p e below _ T125 (mkF m 33 #[.val (.ref a), .val (.ref x), .val (.int xN)] [])
  refine own_seg C S129 [(33, .aload_n 0, 1), (34, .dup, 1)] (by decide +kernel) 35 #[.val (.ref a), .val (.ref x), .val (.int xN)] [(.ref a), (.ref a)] rfl ?_
  have f130 : Fld Z h126 a "java/lang/AbstractStringBuilder" "count" "I" (.int cnt) := (aN.keep K123 (ninS (Ne.symm ne_b_a) nin0))
  refine own_getF C S129 (host := "") (Or.inl (own_wd hw 171 rfl)) Via.refl f130 (by decide +kernel) ?_
  intro T131 S132
  refine own_seg C S132 [(38, .iload_n 2, 1), (39, .iadd, 1)] (by decide +kernel) 40 #[.val (.ref a), .val (.ref x), .val (.int xN)] [(.int (cnt + xN)), (.ref a)] rfl ?_
  have f133 : Exa Z h126 a "java/lang/StringBuilder" := (aE.keep K123)
  refine own_putF C S132 (ty := .int) (host := "") (Or.inl (own_wd hw 171 rfl)) Via.refl f130 f133 (Or.inl (own_wd hw 172 rfl)) (own_wd hw 133 rfl) own_fd2 rfl rfl ge_a (by decide +kernel) ?_
  intro T134 h136 S135 W137
  have f138 : Fld Z h136 a "java/lang/AbstractStringBuilder" "count" "I" (.int (cnt + xN)) := Fld.same W137 f130
  refine own_seg C S135 [(43, .aload_n 0, 1)] (by decide +kernel) 44 #[.val (.ref a), .val (.ref x), .val (.int xN)] [(.ref a)] rfl ?_
  refine own_retA C S135 rfl rfl (by decide +kernel) (by decide) (by decide) ?_
  have f139 : Exa Z h136 a "java/lang/StringBuilder" := (Exa.wr W137 f133)
  have f140 : Fld Z h136 a "java/lang/AbstractStringBuilder" "value" "[B" (.ref b) := (Fld.other W137 (aV.keep K123 (ninS (Ne.symm ne_b_a) nin0)) (Or.inr (own_sn4 hw)))
  have f141 : Fld Z h136 a "java/lang/AbstractStringBuilder" "coder" "B" (.int (0 : Int32)) := (Fld.other W137 (aC.keep K123 (ninS (Ne.symm ne_b_a) nin0)) (Or.inr (own_sn5 hw)))
  have f142 : Arv Z h136 b bk .byte bN us (.int (0 : Int32)) := (f124.other W137 ne_b_a)
  exact ⟨rfl, (((Keep.refl _ _).trans K123 (allS (Or.inl (List.mem_of_getElem? (i := 1) rfl)) all0)).wr W137 (Or.inl (List.mem_of_getElem? (i := 0) rfl))), f139, f140, f141, f138, f142⟩
theorem own_pd6 : parseMethodDescriptor "(Ljava/lang/String;)Ljava/lang/AbstractStringBuilder;" = some ⟨[(.object "java/lang/String")], (some (.object "java/lang/AbstractStringBuilder"))⟩ := by decide +kernel
set_option maxRecDepth 65536 in
set_option maxHeartbeats 40000000 in
theorem own_sbA (l : Launch) (Z : State) (a0 : Array Value) (hw : ∀ d ∈ tables_1, d.before a0 Z = true) (G1 : Int32) (G3 : Value) (x : Addr) (xt : Addr) (xk : ClassId) (xN : Int32) (xvs : List Value) (xcs : List Int32) (a : Addr) (b : Addr) (bk : ClassId) (bN : Int32) (bvs : List Value) (cnt : Int32) (us : List Value) (h0 : Heap) (n0 : Nat) (z0 : n0 ≤ h0.size) (ge_a : n0 ≤ a) (ge_b : n0 ≤ b) (X00 : Old Z n0 h0) (xE : Exa Z h0 x "java/lang/String") (xV : Fld Z h0 x "java/lang/String" "value" "[B" (.ref xt)) (xC : Fld Z h0 x "java/lang/String" "coder" "B" (.int 0)) (xK : Arv Z h0 xt xk .byte xN xvs (.int 0)) (aE : Exa Z h0 a "java/lang/StringBuilder") (aV : Fld Z h0 a "java/lang/AbstractStringBuilder" "value" "[B" (.ref b)) (aC : Fld Z h0 a "java/lang/AbstractStringBuilder" "coder" "B" (.int (0 : Int32))) (aN : Fld Z h0 a "java/lang/AbstractStringBuilder" "count" "I" (.int cnt)) (bK : Arv Z h0 b bk .byte bN bvs (.int (0 : Int32))) (ne_xt_b : xt ≠ b) (ne_xt_a : xt ≠ a) (ne_x_a : x ≠ a) (ne_x_b : x ≠ b) (ne_b_a : b ≠ a) (O2 : Sta Z Z.heap "java/lang/String" "COMPACT_STRINGS" "Z" (.int G1)) (O4 : Sta Z Z.heap "jdk/internal/util/Preconditions" "SIOOBE_FORMATTER" "Ljava/util/function/BiFunction;" G3) (P5 : ¬ G1 = (0 : Int32)) (rG3 : G3.isRef = true) (xcd : StrChars.Road.CodA xcs 0 xN xvs) (xhp : ∀ c ∈ xcs, ¬ c < 0 ∧ ¬ (255 : Int32) < c) (xl2 : xcs.length ≤ 4000) (hle : ¬ (0 : Int32) < ((cnt + xN) - bN)) (c3 : ¬ xN < 0) (c2 : ¬ cnt < 0) (c5 : cnt.toNatClampNeg + xN.toNatClampNeg ≤ bN.toNatClampNeg) (cl : cnt.toNatClampNeg + xN.toNatClampNeg ≤ bvs.length) (cu : bvs.take cnt.toNatClampNeg ++ ((List.range xN.toNatClampNeg).map fun i => xvs.getD ((0 : Int32).toNatClampNeg + i) (.int 0)) ++ bvs.drop (cnt.toNatClampNeg + xN.toNatClampNeg) = us) :
    own_Met l Z (⟨"java/lang/StringBuilder", "append", "(Ljava/lang/String;)Ljava/lang/StringBuilder;"⟩ : MethodName) jdk_67_method_7_code 2 (some (.object "java/lang/StringBuilder")) ({ frames := 4, cells := 0, slots := 0, locals := 61 } : Room) n0 #[(.ref a), (.ref x)] h0 (fun v h => v = some (.ref a) ∧ Keep h0 h [a, b] ∧ Exa Z h a "java/lang/StringBuilder" ∧ Fld Z h a "java/lang/AbstractStringBuilder" "value" "[B" (.ref b) ∧ Fld Z h a "java/lang/AbstractStringBuilder" "coder" "B" (.int (0 : Int32)) ∧ Fld Z h a "java/lang/AbstractStringBuilder" "count" "I" (.int (cnt + xN)) ∧ Arv Z h b bk .byte bN us (.int (0 : Int32))) := by
  refine own_met (by decide +kernel) #[.val (.ref a), .val (.ref x)] (fun m => by first | (simp [entryFrame, mkF, argsToLocals, Value.category]; done) | rfl) ?_
  intro p e s m below meth c T0 C S0
  refine own_seg C S0 [(0, .aload_n 0, 1), (1, .aload_n 1, 1)] (by decide +kernel) 2 #[.val (.ref a), .val (.ref x)] [(.ref x), (.ref a)] rfl ?_
  refine own_callX C S0 (own_wd hw 155 rfl) (own_same (y' := ⟨"java/lang/AbstractStringBuilder", "ensureCapacityInternal", "(I)V"⟩) rfl (own_wd hw 156 rfl) (own_wd hw 176 rfl) (by decide)) (own_wd hw 156 rfl) (own_wd hw 157 rfl) (by decide) (own_wd hw 159 rfl) (own_Met.pay (own_asbA l Z a0 hw G1 G3 x xt xk xN xvs xcs a b bk bN bvs cnt us h0 n0 z0 ge_a ge_b X00 xE xV xC xK aE aV aC aN bK ne_xt_b ne_xt_a ne_x_a ne_x_b ne_b_a O2 O4 P5 rG3 xcd xhp xl2 hle c3 c2 c5 cl cu) C 0 (own_wd hw 159 rfl) (own_wd hw 142 rfl) (by decide) (by decide)) (fun _ _ _ q => q.2) (Ins.self aE) [(.ref x)] [] rfl own_pd6 rfl rfl rfl (Nat.le_of_ble_eq_true rfl) (by decide) (by decide) (by decide +kernel) ?_
  rintro T149 h150 v151 L152 S153 ⟨⟨rfl, K143, f144, f145, f146, f147, f148⟩, -⟩
  replace S153 : own_S p l e ({ frames := 4, cells := 0, slots := 0, locals := 61 } : Room) s m #[(.ref a), (.ref x)] below meth c n0 T149 h150 0 0 := S153
  show own_Go p e below _ T149 (mkF m 5 #[.val (.ref a), .val (.ref x)] [(.ref a)])
  refine own_seg C S153 [(5, .pop, 1), (6, .aload_n 0, 1)] (by decide +kernel) 7 #[.val (.ref a), .val (.ref x)] [(.ref a)] rfl ?_
  refine own_retA C S153 rfl rfl (by decide +kernel) (by decide) (by decide) ?_
  exact ⟨rfl, ((Keep.refl _ _).trans K143 (allS (Or.inl (List.mem_of_getElem? (i := 0) rfl)) (allS (Or.inl (List.mem_of_getElem? (i := 1) rfl)) all0))), f144, f145, f146, f147, f148⟩
set_option maxRecDepth 65536 in
set_option maxHeartbeats 40000000 in
theorem own_ckl (l : Launch) (Z : State) (a0 : Array Value) (hw : ∀ d ∈ tables_1, d.before a0 Z = true) (x1 : Int32) (x2 : Int32) (h0 : Heap) (n0 : Nat) (z0 : n0 ≤ h0.size) (hge : ¬ x2 < x1) :
    own_Met l Z (⟨"java/util/Arrays", "checkLength", "(II)V"⟩ : MethodName) jdk_65_method_131_code 2 none ({ frames := 0, cells := 0, slots := 0, locals := 0 } : Room) n0 #[(.int x1), (.int x2)] h0 (fun v h => v = none ∧ h = h0) := by
  refine own_met (by decide +kernel) #[.val (.int x1), .val (.int x2)] (fun m => by first | (simp [entryFrame, mkF, argsToLocals, Value.category]; done) | rfl) ?_
  intro p e s m below meth c T0 C S0
  refine own_seg C S0 [(0, .iload_n 1, 1), (1, .iload_n 0, 1)] (by decide +kernel) 2 #[.val (.int x1), .val (.int x2)] [(.int x1), (.int x2)] rfl ?_
  refine own_icmp C S0 (q := .ge) (o := 35) (by decide +kernel) 37 (by decide) (by decide) (fun (q154 : ¬ x2 < x1) => ?_) (fun (hq : x2 < x1) => False.elim (hge hq))
  refine own_retV C S0 (by decide +kernel) (by decide) (by decide) ?_
  exact ⟨rfl, rfl⟩
theorem own_pd7 : parseMethodDescriptor "(II)V" = some ⟨[.int, .int], none⟩ := by decide +kernel
theorem own_pd8 : parseMethodDescriptor "(II)I" = some ⟨[.int, .int], (some .int)⟩ := by decide +kernel
set_option maxRecDepth 65536 in
set_option maxHeartbeats 40000000 in
theorem own_corb (l : Launch) (Z : State) (a0 : Array Value) (hw : ∀ d ∈ tables_1, d.before a0 Z = true) (b : Addr) (bk : ClassId) (bN : Int32) (bvs : List Value) (n : Int32) (us : List Value) (h0 : Heap) (n0 : Nat) (z0 : n0 ≤ h0.size) (bK : Arv Z h0 b bk .byte bN bvs (.int (0 : Int32))) (t0 : ¬ n < (0 : Int32)) (t1 : ¬ bN < n) (t2 : ¬ n = bN) (t3 : n.toNatClampNeg ≤ 64) (t4 : ((List.range n.toNatClampNeg).map fun i => bvs.getD ((0 : Int32).toNatClampNeg + i) (.int (0 : Int32))) = us) :
    own_Met l Z (⟨"java/util/Arrays", "copyOfRangeByte", "([BII)[B"⟩ : MethodName) jdk_65_method_133_code 5 (some (.array .byte)) ({ frames := 1, cells := 1, slots := 64, locals := 18 } : Room) n0 #[(.ref b), (.int (0 : Int32)), (.int n)] h0 (fun v h => ∃ r : Addr, ∃ rk : ClassId, v = some (.ref r) ∧ h0.size ≤ r ∧ Keep h0 h [] ∧ Arv Z h r rk .byte n us (.int (0 : Int32))) := by
  refine own_met (by decide +kernel) #[.val (.ref b), .val (.int (0 : Int32)), .val (.int n), .unset, .unset] (fun m => by first | (simp [entryFrame, mkF, argsToLocals, Value.category]; done) | rfl) ?_
  intro p e s m below meth c T0 C S0
  refine own_seg C S0 [(0, .iload_n 1, 1), (1, .iload_n 2, 1)] (by decide +kernel) 2 #[.val (.ref b), .val (.int (0 : Int32)), .val (.int n), .unset, .unset] [(.int n), (.int (0 : Int32))] rfl ?_
  refine own_callS C S0 (own_wd hw 236 rfl) (own_wd hw 237 rfl) (own_wd hw 231 rfl) (own_wd hw 238 rfl) (by decide) (own_Met.pay (own_ckl l Z a0 hw (0 : Int32) n h0 n0 z0 t0) C 0 (own_wd hw 238 rfl) (own_wd hw 231 rfl) (by decide) (by decide)) (fun _ _ _ q => q.2) [(.int (0 : Int32)), (.int n)] [] rfl own_pd7 rfl rfl rfl (Nat.le_of_ble_eq_true rfl) (by decide) (by decide) (by decide +kernel) ?_
  rintro T156 h157 v158 L159 S160 ⟨⟨rfl, e155⟩, -⟩
  replace S160 : own_S p l e ({ frames := 1, cells := 1, slots := 64, locals := 18 } : Room) s m #[(.ref b), (.int (0 : Int32)), (.int n)] below meth c n0 T156 h157 0 0 := S160
  rw [e155] at S160; clear e155
  show own_Go p e below _ T156 (mkF m 5 #[.val (.ref b), .val (.int (0 : Int32)), .val (.int n), .unset, .unset] [])
  refine own_seg C S160 [(5, .iload_n 2, 1), (6, .iload_n 1, 1), (7, .isub, 1), (8, .istore_n 3, 1), (9, .iload_n 3, 1)] (by decide +kernel) 10 #[.val (.ref b), .val (.int (0 : Int32)), .val (.int n), .val (.int (n - (0 : Int32))), .unset] [(.int (n - (0 : Int32)))] rfl ?_
  rw [show (n - (0 : Int32)) = n from Int32.sub_zero n]
  refine own_newP C S160 (aty := .byte) (own_wd hw 19 rfl) (by decide +kernel) t0 64 t3 (by decide) (by decide) (by decide) ?_
  intro T161 h163 a164 k165 S162 g166 E167 f168
  have f169 : Arv Z h163 a164 k165 .byte n (List.replicate n.toNatClampNeg (.int (0 : Int32))) (.int (0 : Int32)) := Arv.pad f168 (pad_rep [] (.int (0 : Int32)) n.toNatClampNeg)
  refine own_seg C S162 [(12, .astore 4, 2), (14, .aload_n 0, 1), (15, .iload_n 1, 1), (16, .aload 4, 2), (18, .iconst 0, 1), (19, .aload_n 0, 1)] (by decide +kernel) 20 #[.val (.ref b), .val (.int (0 : Int32)), .val (.int n), .val (.int n), .val (.ref a164)] [(.ref b), (.int (0 : Int32)), (.ref a164), (.int (0 : Int32)), (.ref b)] rfl ?_
  have f170 : Arv Z h163 b bk .byte bN bvs (.int (0 : Int32)) := (bK.ext E167)
  refine own_alen C S162 f170 (by decide +kernel) ?_
  refine own_seg C S162 [(21, .iload_n 1, 1), (22, .isub, 1), (23, .iload_n 3, 1)] (by decide +kernel) 24 #[.val (.ref b), .val (.int (0 : Int32)), .val (.int n), .val (.int n), .val (.ref a164)] [(.int n), (.int (bN - (0 : Int32))), (.int (0 : Int32)), (.ref a164), (.int (0 : Int32)), (.ref b)] rfl ?_
  have f171 : n0 ≤ h163.size := (Nat.le_trans z0 E167.1)
  refine own_callS C S162 (own_wd hw 239 rfl) (own_wd hw 240 rfl) (own_wd hw 241 rfl) (own_wd hw 242 rfl) (by decide) (own_Met.pay (own_min l Z a0 hw (bN - (0 : Int32)) n h163 n0 f171) C 4 (own_wd hw 242 rfl) (own_wd hw 241 rfl) (by decide) (by decide)) (fun _ _ _ q => q.2) [(.int (bN - (0 : Int32))), (.int n)] [(.int (0 : Int32)), (.ref a164), (.int (0 : Int32)), (.ref b)] rfl own_pd8 rfl rfl rfl (Nat.le_of_ble_eq_true rfl) (by decide) (by decide) (by decide +kernel) ?_
  rintro T173 h174 v175 L176 S177 ⟨⟨rfl, e172⟩, -⟩
  replace S177 : own_S p l e ({ frames := 1, cells := 1, slots := 64, locals := 18 } : Room) s m #[(.ref b), (.int (0 : Int32)), (.int n)] below meth c n0 T173 h174 1 64 := S177
  rw [e172] at S177; clear e172
  show own_Go p e below _ T173 (mkF m 27 #[.val (.ref b), .val (.int (0 : Int32)), .val (.int n), .val (.int n), .val (.ref a164)] [(.int (if n < (bN - (0 : Int32)) then n else (bN - (0 : Int32)))), (.int (0 : Int32)), (.ref a164), (.int (0 : Int32)), (.ref b)])
  rw [show (bN - (0 : Int32)) = bN from Int32.sub_zero bN, own_min_g t1]
  show own_Go p e below _ T173 (mkF m 27 #[.val (.ref b), .val (.int (0 : Int32)), .val (.int n), .val (.int n), .val (.ref a164)] [(.int n), (.int (0 : Int32)), (.ref a164), (.int (0 : Int32)), (.ref b)])
  have g178 : n0 ≤ a164 := by rw [g166]; exact z0
  refine own_copy C S177 (own_wd hw 243 rfl) (own_wd hw 197 rfl) (own_wd hw 195 rfl) (own_wd hw 196 rfl) f170 f169 rfl (by decide) (by decide) t0 (by rw [show (0 : Int32).toNatClampNeg = 0 from rfl]; exact own_nat_le t0 t1) (Nat.le_of_eq (Nat.zero_add _)) (by rw [List.length_replicate]; exact Nat.le_of_eq (Nat.zero_add _)) g178 us (by rw [← t4]; exact own_take0 _ _ _) rfl (by decide +kernel) (by decide) 0 (Nat.le_of_ble_eq_true rfl) (by decide) ?_
  intro T179 h181 S180 K182 f183
  refine own_seg C S180 [(30, .aload 4, 2)] (by decide +kernel) 32 #[.val (.ref b), .val (.int (0 : Int32)), .val (.int n), .val (.int n), .val (.ref a164)] [(.ref a164)] rfl ?_
  refine own_retA C S180 rfl rfl (by decide +kernel) (by decide) (by decide) ?_
  exact ⟨a164, k165, rfl, (by rw [g166]; exact (Nat.le_refl _)), (((Keep.refl _ _).ext E167).trans K182 (allS (Or.inr (by rw [g166]; exact (Nat.le_refl _))) all0)), f183⟩
theorem own_pd9 : parseMethodDescriptor "([BII)[B" = some ⟨[(.array .byte), .int, .int], (some (.array .byte))⟩ := by decide +kernel
set_option maxRecDepth 65536 in
set_option maxHeartbeats 40000000 in
theorem own_cor (l : Launch) (Z : State) (a0 : Array Value) (hw : ∀ d ∈ tables_1, d.before a0 Z = true) (b : Addr) (bk : ClassId) (bN : Int32) (bvs : List Value) (n : Int32) (us : List Value) (h0 : Heap) (n0 : Nat) (z0 : n0 ≤ h0.size) (bK : Arv Z h0 b bk .byte bN bvs (.int (0 : Int32))) (t0 : ¬ n < (0 : Int32)) (t1 : ¬ bN < n) (t2 : ¬ n = bN) (t3 : n.toNatClampNeg ≤ 64) (t4 : ((List.range n.toNatClampNeg).map fun i => bvs.getD ((0 : Int32).toNatClampNeg + i) (.int (0 : Int32))) = us) :
    own_Met l Z (⟨"java/util/Arrays", "copyOfRange", "([BII)[B"⟩ : MethodName) jdk_65_method_132_code 3 (some (.array .byte)) ({ frames := 2, cells := 1, slots := 64, locals := 34 } : Room) n0 #[(.ref b), (.int (0 : Int32)), (.int n)] h0 (fun v h => ∃ r : Addr, ∃ rk : ClassId, v = some (.ref r) ∧ h0.size ≤ r ∧ Keep h0 h [] ∧ Arv Z h r rk .byte n us (.int (0 : Int32))) := by
  refine own_met (by decide +kernel) #[.val (.ref b), .val (.int (0 : Int32)), .val (.int n)] (fun m => by first | (simp [entryFrame, mkF, argsToLocals, Value.category]; done) | rfl) ?_
  intro p e s m below meth c T0 C S0
  refine own_seg C S0 [(0, .iload_n 1, 1)] (by decide +kernel) 1 #[.val (.ref b), .val (.int (0 : Int32)), .val (.int n)] [(.int (0 : Int32))] rfl ?_
  refine own_if C S0 (q := .ne) (o := 9) (by decide +kernel) 10 (by decide) (by decide) (fun (hq : ¬ (0 : Int32) = (0 : Int32)) => False.elim (hq rfl)) (fun (q184 : (0 : Int32) = (0 : Int32)) => ?_)
  refine own_seg C S0 [(4, .iload_n 2, 1), (5, .aload_n 0, 1)] (by decide +kernel) 6 #[.val (.ref b), .val (.int (0 : Int32)), .val (.int n)] [(.ref b), (.int n)] rfl ?_
  refine own_alen C S0 bK (by decide +kernel) ?_
  refine own_icmp C S0 (q := .eq) (o := 10) (by decide +kernel) 17 (by decide) (by decide) (fun (hq : n = bN) => False.elim (t2 hq)) (fun (q185 : ¬ n = bN) => ?_)
  refine own_seg C S0 [(10, .aload_n 0, 1), (11, .iload_n 1, 1), (12, .iload_n 2, 1)] (by decide +kernel) 13 #[.val (.ref b), .val (.int (0 : Int32)), .val (.int n)] [(.int n), (.int (0 : Int32)), (.ref b)] rfl ?_
  refine own_callS C S0 (own_wd hw 233 rfl) (own_wd hw 234 rfl) (own_wd hw 231 rfl) (own_wd hw 235 rfl) (by decide) (own_Met.pay (own_corb l Z a0 hw b bk bN bvs n us h0 n0 z0 bK t0 t1 t2 t3 t4) C 0 (own_wd hw 235 rfl) (own_wd hw 231 rfl) (by decide) (by decide)) (fun _ _ _ q => q.2) [(.ref b), (.int (0 : Int32)), (.int n)] [] rfl own_pd9 rfl rfl rfl (Nat.le_of_ble_eq_true rfl) (by decide) (by decide) (by decide +kernel) ?_
  rintro T191 h192 v193 L194 S195 ⟨⟨a186, k187, rfl, g188, K189, f190⟩, -⟩
  replace S195 : own_S p l e ({ frames := 2, cells := 1, slots := 64, locals := 34 } : Room) s m #[(.ref b), (.int (0 : Int32)), (.int n)] below meth c n0 T191 h192 1 64 := S195
  show own_Go p e below _ T191 (mkF m 16 #[.val (.ref b), .val (.int (0 : Int32)), .val (.int n)] [(.ref a186)])
  refine own_retA C S195 rfl rfl (by decide +kernel) (by decide) (by decide) ?_
  exact ⟨a186, k187, rfl, (Nat.le_trans (Nat.le_refl _) g188), ((Keep.refl _ _).trans K189 all0), f190⟩
set_option maxRecDepth 65536 in
set_option maxHeartbeats 40000000 in
theorem own_gv (l : Launch) (Z : State) (a0 : Array Value) (hw : ∀ d ∈ tables_1, d.before a0 Z = true) (a : Addr) (y : Addr) (h0 : Heap) (n0 : Nat) (z0 : n0 ≤ h0.size) (pF : Fld Z h0 a "java/lang/AbstractStringBuilder" "value" "[B" (.ref y)) :
    own_Met l Z (⟨"java/lang/AbstractStringBuilder", "getValue", "()[B"⟩ : MethodName) jdk_68_method_64_code 1 (some (.array .byte)) ({ frames := 0, cells := 0, slots := 0, locals := 0 } : Room) n0 #[(.ref a)] h0 (fun v h => v = some (.ref y) ∧ h = h0) := by
  refine own_met (by decide +kernel) #[.val (.ref a)] (fun m => by first | (simp [entryFrame, mkF, argsToLocals, Value.category]; done) | rfl) ?_
  intro p e s m below meth c T0 C S0
  refine own_seg C S0 [(0, .aload_n 0, 1)] (by decide +kernel) 1 #[.val (.ref a)] [(.ref a)] rfl ?_
  refine own_getF C S0 (host := "") (Or.inl (own_wd hw 146 rfl)) Via.refl pF (by decide +kernel) ?_
  intro T196 S197
  refine own_retA C S197 rfl rfl (by decide +kernel) (by decide) (by decide) ?_
  exact ⟨rfl, rfl⟩
set_option maxRecDepth 65536 in
set_option maxHeartbeats 40000000 in
theorem own_asbL (l : Launch) (Z : State) (a0 : Array Value) (hw : ∀ d ∈ tables_1, d.before a0 Z = true) (a : Addr) (y : Int32) (h0 : Heap) (n0 : Nat) (z0 : n0 ≤ h0.size) (pF : Fld Z h0 a "java/lang/AbstractStringBuilder" "count" "I" (.int y)) :
    own_Met l Z (⟨"java/lang/AbstractStringBuilder", "length", "()I"⟩ : MethodName) jdk_68_method_6_code 1 (some .int) ({ frames := 0, cells := 0, slots := 0, locals := 0 } : Room) n0 #[(.ref a)] h0 (fun v h => v = some (.int y) ∧ h = h0) := by
  refine own_met (by decide +kernel) #[.val (.ref a)] (fun m => by first | (simp [entryFrame, mkF, argsToLocals, Value.category]; done) | rfl) ?_
  intro p e s m below meth c T0 C S0
  refine own_seg C S0 [(0, .aload_n 0, 1)] (by decide +kernel) 1 #[.val (.ref a)] [(.ref a)] rfl ?_
  refine own_getF C S0 (host := "") (Or.inl (own_wd hw 171 rfl)) Via.refl pF (by decide +kernel) ?_
  intro T198 S199
  refine own_retI C S199 (by decide +kernel) (by decide) (by decide) ?_
  exact ⟨rfl, rfl⟩
set_option maxRecDepth 65536 in
set_option maxHeartbeats 40000000 in
theorem own_sbL (l : Launch) (Z : State) (a0 : Array Value) (hw : ∀ d ∈ tables_1, d.before a0 Z = true) (a : Addr) (y : Int32) (h0 : Heap) (n0 : Nat) (z0 : n0 ≤ h0.size) (pF : Fld Z h0 a "java/lang/AbstractStringBuilder" "count" "I" (.int y)) (aE : Exa Z h0 a "java/lang/StringBuilder") :
    own_Met l Z (⟨"java/lang/StringBuilder", "length", "()I"⟩ : MethodName) jdk_67_method_93_code 1 (some .int) ({ frames := 1, cells := 0, slots := 0, locals := 12 } : Room) n0 #[(.ref a)] h0 (fun v h => v = some (.int y) ∧ h = h0) := by
  refine own_met (by decide +kernel) #[.val (.ref a)] (fun m => by first | (simp [entryFrame, mkF, argsToLocals, Value.category]; done) | rfl) ?_
  intro p e s m below meth c T0 C S0
  refine own_seg C S0 [(0, .aload_n 0, 1)] (by decide +kernel) 1 #[.val (.ref a)] [(.ref a)] rfl ?_
  refine own_callX C S0 (own_wd hw 222 rfl) (own_same (y' := ⟨"java/lang/AbstractStringBuilder", "ensureCapacityInternal", "(I)V"⟩) rfl (own_wd hw 218 rfl) (own_wd hw 176 rfl) (by decide)) (own_wd hw 218 rfl) (own_wd hw 157 rfl) (by decide) (own_wd hw 223 rfl) (own_Met.pay (own_asbL l Z a0 hw a y h0 n0 z0 pF) C 0 (own_wd hw 223 rfl) (own_wd hw 142 rfl) (by decide) (by decide)) (fun _ _ _ q => q.2) (Ins.self aE) [] [] rfl own_pd4 rfl rfl rfl (Nat.le_of_ble_eq_true rfl) (by decide) (by decide) (by decide +kernel) ?_
  rintro T201 h202 v203 L204 S205 ⟨⟨rfl, e200⟩, -⟩
  replace S205 : own_S p l e ({ frames := 1, cells := 0, slots := 0, locals := 12 } : Room) s m #[(.ref a)] below meth c n0 T201 h202 0 0 := S205
  rw [e200] at S205; clear e200
  show own_Go p e below _ T201 (mkF m 4 #[.val (.ref a)] [(.int y)])
  refine own_retI C S205 (by decide +kernel) (by decide) (by decide) ?_
  exact ⟨rfl, rfl⟩
set_option maxRecDepth 65536 in
set_option maxHeartbeats 40000000 in
theorem own_asbisL (l : Launch) (Z : State) (a0 : Array Value) (hw : ∀ d ∈ tables_1, d.before a0 Z = true) (G1 : Int32) (G3 : Value) (x : Addr) (h0 : Heap) (n0 : Nat) (z0 : n0 ≤ h0.size) (X00 : Old Z n0 h0) (pC : Fld Z h0 x "java/lang/AbstractStringBuilder" "coder" "B" (.int 0)) (O2 : Sta Z Z.heap "java/lang/String" "COMPACT_STRINGS" "Z" (.int G1)) (O4 : Sta Z Z.heap "jdk/internal/util/Preconditions" "SIOOBE_FORMATTER" "Ljava/util/function/BiFunction;" G3) (P5 : ¬ G1 = (0 : Int32)) (rG3 : G3.isRef = true) :
    own_Met l Z (⟨"java/lang/AbstractStringBuilder", "isLatin1", "()Z"⟩ : MethodName) jdk_68_method_68_code 1 (some .boolean) ({ frames := 0, cells := 0, slots := 0, locals := 0 } : Room) n0 #[(.ref x)] h0 (fun v h => v = some (.int (1 : Int32)) ∧ h = h0) := by
  refine own_met (by decide +kernel) #[.val (.ref x)] (fun m => by first | (simp [entryFrame, mkF, argsToLocals, Value.category]; done) | rfl) ?_
  intro p e s m below meth c T0 C S0
  refine own_getS C S0 (own_wd hw 145 rfl) Via.refl (O2.ext X00.2) (by decide +kernel) ?_
  intro T206 S207
  refine own_if C S207 (q := .eq) (o := 14) (by decide +kernel) 17 (by decide) (by decide) (fun (hq : G1 = (0 : Int32)) => False.elim (P5 hq)) (fun (q208 : ¬ G1 = (0 : Int32)) => ?_)
  refine own_seg C S207 [(6, .aload_n 0, 1)] (by decide +kernel) 7 #[.val (.ref x)] [(.ref x)] rfl ?_
  refine own_getF C S207 (host := "") (Or.inl (own_wd hw 148 rfl)) Via.refl pC (by decide +kernel) ?_
  intro T209 S210
  refine own_if C S210 (q := .ne) (o := 7) (by decide +kernel) 17 (by decide) (by decide) (fun (hq : ¬ 0 = (0 : Int32)) => False.elim (hq rfl)) (fun (q211 : 0 = (0 : Int32)) => ?_)
  refine own_seg C S210 [(13, .iconst 1, 1), (14, .goto 4, 3)] (by decide +kernel) 18 #[.val (.ref x)] [(.int (1 : Int32))] rfl ?_
  refine own_retZ C S210 (by decide +kernel) (by decide) (by decide) (by decide) ?_
  exact ⟨rfl, rfl⟩
theorem own_pd10 : parseMethodDescriptor "()[B" = some ⟨[], (some (.array .byte))⟩ := by decide +kernel
theorem own_pd11 : parseMethodDescriptor "()Z" = some ⟨[], (some .boolean)⟩ := by decide +kernel
theorem own_sn6 {Z : State} {a0 : Array Value} (hw : ∀ d ∈ tables_1, d.before a0 Z = true) : Jvm.RoadKit.slotOf Z "java/lang/String" "value" "[B" ≠ Jvm.RoadKit.slotOf Z "java/lang/String" "coder" "B" := slot_ne (Or.inr (own_wd hw 20 rfl)) (Or.inr (own_wd hw 21 rfl)) (by decide) own_fd0 own_fd1
theorem own_sn7 {Z : State} {a0 : Array Value} (hw : ∀ d ∈ tables_1, d.before a0 Z = true) : Jvm.RoadKit.slotOf Z "java/lang/String" "coder" "B" ≠ Jvm.RoadKit.slotOf Z "java/lang/String" "value" "[B" := slot_ne (Or.inr (own_wd hw 21 rfl)) (Or.inr (own_wd hw 20 rfl)) (by decide) own_fd1 own_fd0
set_option maxRecDepth 65536 in
set_option maxHeartbeats 40000000 in
theorem own_sib (l : Launch) (Z : State) (a0 : Array Value) (hw : ∀ d ∈ tables_1, d.before a0 Z = true) (G1 : Int32) (G3 : Value) (x : Addr) (a : Addr) (b : Addr) (bk : ClassId) (bN : Int32) (bvs : List Value) (cnt : Int32) (us : List Value) (h0 : Heap) (n0 : Nat) (z0 : n0 ≤ h0.size) (ge_x : n0 ≤ x) (X00 : Old Z n0 h0) (xE : Exa Z h0 x "java/lang/String") (xV : Fld Z h0 x "java/lang/String" "value" "[B" .null) (xC : Fld Z h0 x "java/lang/String" "coder" "B" (.int (0 : Int32))) (aE : Exa Z h0 a "java/lang/StringBuilder") (aV : Fld Z h0 a "java/lang/AbstractStringBuilder" "value" "[B" (.ref b)) (aC : Fld Z h0 a "java/lang/AbstractStringBuilder" "coder" "B" (.int (0 : Int32))) (aN : Fld Z h0 a "java/lang/AbstractStringBuilder" "count" "I" (.int cnt)) (bK : Arv Z h0 b bk .byte bN bvs (.int (0 : Int32))) (ne_a_x : a ≠ x) (ne_b_x : b ≠ x) (O2 : Sta Z Z.heap "java/lang/String" "COMPACT_STRINGS" "Z" (.int G1)) (O4 : Sta Z Z.heap "jdk/internal/util/Preconditions" "SIOOBE_FORMATTER" "Ljava/util/function/BiFunction;" G3) (P5 : ¬ G1 = (0 : Int32)) (rG3 : G3.isRef = true) (t0 : ¬ cnt < (0 : Int32)) (t1 : ¬ bN < cnt) (t2 : ¬ cnt = bN) (t3 : cnt.toNatClampNeg ≤ 64) (t4 : ((List.range cnt.toNatClampNeg).map fun i => bvs.getD ((0 : Int32).toNatClampNeg + i) (.int (0 : Int32))) = us) :
    own_Met l Z (⟨"java/lang/String", "<init>", "(Ljava/lang/AbstractStringBuilder;Ljava/lang/Void;)V"⟩ : MethodName) jdk_42_method_150_code 5 none ({ frames := 3, cells := 1, slots := 64, locals := 49 } : Room) n0 #[(.ref x), (.ref a), .null] h0 (fun v h => ∃ r : Addr, ∃ rk : ClassId, v = none ∧ h0.size ≤ r ∧ Keep h0 h [x] ∧ Exa Z h x "java/lang/String" ∧ Fld Z h x "java/lang/String" "coder" "B" (.int 0) ∧ Fld Z h x "java/lang/String" "value" "[B" (.ref r) ∧ Arv Z h r rk .byte cnt us (.int 0)) := by
  refine own_met (by decide +kernel) #[.val (.ref x), .val (.ref a), .val .null, .unset, .unset] (fun m => by first | (simp [entryFrame, mkF, argsToLocals, Value.category]; done) | rfl) ?_
  intro p e s m below meth c T0 C S0
  refine own_seg C S0 [(0, .aload_n 0, 1)] (by decide +kernel) 1 #[.val (.ref x), .val (.ref a), .val .null, .unset, .unset] [(.ref x)] rfl ?_
  refine own_initO C S0 (own_wd hw 15 rfl) (own_wd hw 16 rfl) (own_wd hw 17 rfl) rfl (by decide +kernel) (by decide) 0 (Nat.le_of_ble_eq_true rfl) (by decide) ?_
  intro T212 S213
  refine own_seg C S213 [(4, .aload_n 1, 1)] (by decide +kernel) 5 #[.val (.ref x), .val (.ref a), .val .null, .unset, .unset] [(.ref a)] rfl ?_
  refine own_callV C S213 (own_wd hw 211 rfl) (own_wd hw 212 rfl) (own_wd hw 214 rfl) (y' := ⟨"java/lang/AbstractStringBuilder", "getValue", "()[B"⟩) rfl (own_wd hw 214 rfl) (own_wd hw 213 rfl) (by decide) (own_Met.pay (own_gv l Z a0 hw a b h0 n0 z0 aV) C 0 (own_wd hw 215 rfl) (own_wd hw 142 rfl) (by decide) (by decide)) (fun _ _ _ q => q.2) aE [] [] rfl own_pd10 rfl rfl rfl (Nat.le_of_ble_eq_true rfl) (by decide) (by decide) (by decide +kernel) ?_
  rintro T215 h216 v217 L218 S219 ⟨⟨rfl, e214⟩, -⟩
  replace S219 : own_S p l e ({ frames := 3, cells := 1, slots := 64, locals := 49 } : Room) s m #[(.ref x), (.ref a), .null] below meth c n0 T215 h216 0 0 := S219
  rw [e214] at S219; clear e214
  show own_Go p e below _ T215 (mkF m 8 #[.val (.ref x), .val (.ref a), .val .null, .unset, .unset] [(.ref b)])
  refine own_seg C S219 [(8, .astore_n 3, 1), (9, .aload_n 1, 1)] (by decide +kernel) 10 #[.val (.ref x), .val (.ref a), .val .null, .val (.ref b), .unset] [(.ref a)] rfl ?_
  refine own_callV C S219 (own_wd hw 216 rfl) (own_wd hw 217 rfl) (own_wd hw 219 rfl) (y' := ⟨"java/lang/AbstractStringBuilder", "ensureCapacityInternal", "(I)V"⟩) rfl (own_wd hw 176 rfl) (own_wd hw 220 rfl) (by decide) (own_Met.pay (own_sbL l Z a0 hw a cnt h0 n0 z0 aN aE) C 0 (own_wd hw 221 rfl) (own_wd hw 134 rfl) (by decide) (by decide)) (fun _ _ _ q => q.2) aE [] [] rfl own_pd4 rfl rfl rfl (Nat.le_of_ble_eq_true rfl) (by decide) (by decide) (by decide +kernel) ?_
  rintro T221 h222 v223 L224 S225 ⟨⟨rfl, e220⟩, -⟩
  replace S225 : own_S p l e ({ frames := 3, cells := 1, slots := 64, locals := 49 } : Room) s m #[(.ref x), (.ref a), .null] below meth c n0 T221 h222 0 0 := S225
  rw [e220] at S225; clear e220
  show own_Go p e below _ T221 (mkF m 13 #[.val (.ref x), .val (.ref a), .val .null, .val (.ref b), .unset] [(.int cnt)])
  refine own_seg C S225 [(13, .istore 4, 2), (15, .aload_n 1, 1)] (by decide +kernel) 16 #[.val (.ref x), .val (.ref a), .val .null, .val (.ref b), .val (.int cnt)] [(.ref a)] rfl ?_
  refine own_callV C S225 (own_wd hw 224 rfl) (own_wd hw 225 rfl) (own_wd hw 227 rfl) (y' := ⟨"java/lang/AbstractStringBuilder", "isLatin1", "()Z"⟩) rfl (own_wd hw 227 rfl) (own_wd hw 226 rfl) (by decide) (own_Met.pay (own_asbisL l Z a0 hw G1 G3 a h0 n0 z0 X00 aC O2 O4 P5 rG3) C 0 (own_wd hw 228 rfl) (own_wd hw 142 rfl) (by decide) (by decide)) (fun _ _ _ q => q.2) aE [] [] rfl own_pd11 rfl rfl rfl (Nat.le_of_ble_eq_true rfl) (by decide) (by decide) (by decide +kernel) ?_
  rintro T227 h228 v229 L230 S231 ⟨⟨rfl, e226⟩, -⟩
  replace S231 : own_S p l e ({ frames := 3, cells := 1, slots := 64, locals := 49 } : Room) s m #[(.ref x), (.ref a), .null] below meth c n0 T227 h228 0 0 := S231
  rw [e226] at S231; clear e226
  show own_Go p e below _ T227 (mkF m 19 #[.val (.ref x), .val (.ref a), .val .null, .val (.ref b), .val (.int cnt)] [(.int (1 : Int32))])
  refine own_if C S231 (q := .eq) (o := 22) (by decide +kernel) 41 (by decide) (by decide) (fun (hq : (1 : Int32) = (0 : Int32)) => False.elim (absurd hq (by decide))) (fun (q232 : ¬ (1 : Int32) = (0 : Int32)) => ?_)
  refine own_seg C S231 [(22, .aload_n 0, 1), (23, .iconst 0, 1)] (by decide +kernel) 24 #[.val (.ref x), .val (.ref a), .val .null, .val (.ref b), .val (.int cnt)] [(.int (0 : Int32)), (.ref x)] rfl ?_
  refine own_putF C S231 (ty := .byte) (host := "") (Or.inl (own_wd hw 25 rfl)) Via.refl xC xE (Or.inr ⟨(own_wd hw 21 rfl), rfl, rfl⟩) (own_wd hw 5 rfl) own_fd1 rfl rfl ge_x (by decide +kernel) ?_
  intro T233 h235 S234 W236
  have f237 : Fld Z h235 x "java/lang/String" "coder" "B" (.int (0 : Int32)) := Fld.same W236 xC
  refine own_seg C S234 [(27, .aload_n 0, 1), (28, .aload_n 3, 1), (29, .iconst 0, 1), (30, .iload 4, 2)] (by decide +kernel) 32 #[.val (.ref x), .val (.ref a), .val .null, .val (.ref b), .val (.int cnt)] [(.int cnt), (.int (0 : Int32)), (.ref b), (.ref x)] rfl ?_
  have f238 : Arv Z h235 b bk .byte bN bvs (.int (0 : Int32)) := (bK.other W236 ne_b_x)
  have f239 : n0 ≤ h235.size := (by rw [W236.size]; exact z0)
  refine own_callS C S234 (own_wd hw 229 rfl) (own_wd hw 230 rfl) (own_wd hw 231 rfl) (own_wd hw 232 rfl) (by decide) (own_Met.pay (own_cor l Z a0 hw b bk bN bvs cnt us h235 n0 f239 f238 t0 t1 t2 t3 t4) C 1 (own_wd hw 232 rfl) (own_wd hw 231 rfl) (by decide) (by decide)) (fun _ _ _ q => q.2) [(.ref b), (.int (0 : Int32)), (.int cnt)] [(.ref x)] rfl own_pd9 rfl rfl rfl (Nat.le_of_ble_eq_true rfl) (by decide) (by decide) (by decide +kernel) ?_
  rintro T245 h246 v247 L248 S249 ⟨⟨a240, k241, rfl, g242, K243, f244⟩, -⟩
  replace S249 : own_S p l e ({ frames := 3, cells := 1, slots := 64, locals := 49 } : Room) s m #[(.ref x), (.ref a), .null] below meth c n0 T245 h246 1 64 := S249
  show own_Go p e below _ T245 (mkF m 35 #[.val (.ref x), .val (.ref a), .val .null, .val (.ref b), .val (.int cnt)] [(.ref a240), (.ref x)])
  have f250 : Fld Z h246 x "java/lang/String" "value" "[B" .null := ((Fld.other W236 xV (Or.inr (own_sn6 hw))).keep K243 nin0)
  have f251 : Exa Z h246 x "java/lang/String" := ((Exa.wr W236 xE).keep K243)
  refine own_putF C S249 (ty := (.array .byte)) (host := "") (Or.inl (own_wd hw 24 rfl)) Via.refl f250 f251 (Or.inr ⟨(own_wd hw 20 rfl), rfl, rfl⟩) (own_wd hw 5 rfl) own_fd0 rfl rfl ge_x (by decide +kernel) ?_
  intro T252 h254 S253 W255
  have f256 : Fld Z h254 x "java/lang/String" "value" "[B" (.ref a240) := Fld.same W255 f250
  refine own_seg C S253 [(38, .goto 59, 3)] (by decide +kernel) 97 #[.val (.ref x), .val (.ref a), .val .null, .val (.ref b), .val (.int cnt)] [] rfl ?_
  refine own_retV C S253 (by decide +kernel) (by decide) (by decide) ?_
  have f257 : Exa Z h254 x "java/lang/String" := (Exa.wr W255 f251)
  have f258 : Fld Z h254 x "java/lang/String" "coder" "B" (.int (0 : Int32)) := (Fld.other W255 (f237.keep K243 nin0) (Or.inr (own_sn7 hw)))
  have f259 : x < h235.size := (by rw [W236.size]; exact xC.lt)
  have n260 : x ≠ a240 := Nat.ne_of_lt (Nat.lt_of_lt_of_le f259 g242)
  have f261 : Arv Z h254 a240 k241 .byte cnt us (.int (0 : Int32)) := (f244.other W255 (Ne.symm n260))
  exact ⟨a240, k241, rfl, (Nat.le_trans (by rw [W236.size]; exact (Nat.le_refl _)) g242), ((((Keep.refl _ _).wr W236 (Or.inl (List.mem_of_getElem? (i := 0) rfl))).trans K243 all0).wr W255 (Or.inl (List.mem_of_getElem? (i := 0) rfl))), f257, f258, f256, f261⟩
theorem own_pd12 : parseMethodDescriptor "(Ljava/lang/AbstractStringBuilder;Ljava/lang/Void;)V" = some ⟨[(.object "java/lang/AbstractStringBuilder"), (.object "java/lang/Void")], none⟩ := by decide +kernel
set_option maxRecDepth 65536 in
set_option maxHeartbeats 40000000 in
theorem own_sib2 (l : Launch) (Z : State) (a0 : Array Value) (hw : ∀ d ∈ tables_1, d.before a0 Z = true) (G1 : Int32) (G3 : Value) (x : Addr) (a : Addr) (b : Addr) (bk : ClassId) (bN : Int32) (bvs : List Value) (cnt : Int32) (us : List Value) (h0 : Heap) (n0 : Nat) (z0 : n0 ≤ h0.size) (ge_x : n0 ≤ x) (X00 : Old Z n0 h0) (xE : Exa Z h0 x "java/lang/String") (xV : Fld Z h0 x "java/lang/String" "value" "[B" .null) (xC : Fld Z h0 x "java/lang/String" "coder" "B" (.int (0 : Int32))) (aE : Exa Z h0 a "java/lang/StringBuilder") (aV : Fld Z h0 a "java/lang/AbstractStringBuilder" "value" "[B" (.ref b)) (aC : Fld Z h0 a "java/lang/AbstractStringBuilder" "coder" "B" (.int (0 : Int32))) (aN : Fld Z h0 a "java/lang/AbstractStringBuilder" "count" "I" (.int cnt)) (bK : Arv Z h0 b bk .byte bN bvs (.int (0 : Int32))) (ne_a_x : a ≠ x) (ne_b_x : b ≠ x) (O2 : Sta Z Z.heap "java/lang/String" "COMPACT_STRINGS" "Z" (.int G1)) (O4 : Sta Z Z.heap "jdk/internal/util/Preconditions" "SIOOBE_FORMATTER" "Ljava/util/function/BiFunction;" G3) (P5 : ¬ G1 = (0 : Int32)) (rG3 : G3.isRef = true) (t0 : ¬ cnt < (0 : Int32)) (t1 : ¬ bN < cnt) (t2 : ¬ cnt = bN) (t3 : cnt.toNatClampNeg ≤ 64) (t4 : ((List.range cnt.toNatClampNeg).map fun i => bvs.getD ((0 : Int32).toNatClampNeg + i) (.int (0 : Int32))) = us) :
    own_Met l Z (⟨"java/lang/String", "<init>", "(Ljava/lang/StringBuilder;)V"⟩ : MethodName) jdk_42_method_53_code 2 none ({ frames := 4, cells := 1, slots := 64, locals := 65 } : Room) n0 #[(.ref x), (.ref a)] h0 (fun v h => ∃ r : Addr, ∃ rk : ClassId, v = none ∧ h0.size ≤ r ∧ Keep h0 h [x] ∧ Exa Z h x "java/lang/String" ∧ Fld Z h x "java/lang/String" "coder" "B" (.int 0) ∧ Fld Z h x "java/lang/String" "value" "[B" (.ref r) ∧ Arv Z h r rk .byte cnt us (.int 0)) := by
  refine own_met (by decide +kernel) #[.val (.ref x), .val (.ref a)] (fun m => by first | (simp [entryFrame, mkF, argsToLocals, Value.category]; done) | rfl) ?_
  intro p e s m below meth c T0 C S0
  refine own_seg C S0 [(0, .aload_n 0, 1), (1, .aload_n 1, 1), (2, .aconst_null, 1)] (by decide +kernel) 3 #[.val (.ref x), .val (.ref a)] [.null, (.ref a), (.ref x)] rfl ?_
  refine own_callI C S0 rfl (own_wd hw 208 rfl) (own_wd hw 209 rfl) (own_wd hw 210 rfl) (by decide) (own_Met.pay (own_sib l Z a0 hw G1 G3 x a b bk bN bvs cnt us h0 n0 z0 ge_x X00 xE xV xC aE aV aC aN bK ne_a_x ne_b_x O2 O4 P5 rG3 t0 t1 t2 t3 t4) C 0 (own_wd hw 210 rfl) (own_wd hw 6 rfl) (by decide) (by decide)) (fun _ _ _ q => q.2) [(.ref a), .null] [] rfl own_pd12 rfl rfl rfl (Nat.le_of_ble_eq_true rfl) (by decide) (by decide) (by decide +kernel) ?_
  rintro T270 h271 v272 L273 S274 ⟨⟨a262, k263, rfl, g264, K265, f266, f267, f268, f269⟩, -⟩
  replace S274 : own_S p l e ({ frames := 4, cells := 1, slots := 64, locals := 65 } : Room) s m #[(.ref x), (.ref a)] below meth c n0 T270 h271 1 64 := S274
  show own_Go p e below _ T270 (mkF m 6 #[.val (.ref x), .val (.ref a)] [])
  refine own_retV C S274 (by decide +kernel) (by decide) (by decide) ?_
  exact ⟨a262, k263, rfl, (Nat.le_trans (Nat.le_refl _) g264), ((Keep.refl _ _).trans K265 (allS (Or.inl (List.mem_of_getElem? (i := 0) rfl)) all0)), f266, f267, f268, f269⟩
theorem own_pd13 : parseMethodDescriptor "(Ljava/lang/StringBuilder;)V" = some ⟨[(.object "java/lang/StringBuilder")], none⟩ := by decide +kernel
set_option maxRecDepth 65536 in
set_option maxHeartbeats 40000000 in
theorem own_ts (l : Launch) (Z : State) (a0 : Array Value) (hw : ∀ d ∈ tables_1, d.before a0 Z = true) (G1 : Int32) (G3 : Value) (a : Addr) (b : Addr) (bk : ClassId) (bN : Int32) (bvs : List Value) (cnt : Int32) (us : List Value) (h0 : Heap) (n0 : Nat) (z0 : n0 ≤ h0.size) (X00 : Old Z n0 h0) (aE : Exa Z h0 a "java/lang/StringBuilder") (aV : Fld Z h0 a "java/lang/AbstractStringBuilder" "value" "[B" (.ref b)) (aC : Fld Z h0 a "java/lang/AbstractStringBuilder" "coder" "B" (.int (0 : Int32))) (aN : Fld Z h0 a "java/lang/AbstractStringBuilder" "count" "I" (.int cnt)) (bK : Arv Z h0 b bk .byte bN bvs (.int (0 : Int32))) (O2 : Sta Z Z.heap "java/lang/String" "COMPACT_STRINGS" "Z" (.int G1)) (O4 : Sta Z Z.heap "jdk/internal/util/Preconditions" "SIOOBE_FORMATTER" "Ljava/util/function/BiFunction;" G3) (P5 : ¬ G1 = (0 : Int32)) (rG3 : G3.isRef = true) (t0 : ¬ cnt < (0 : Int32)) (t1 : ¬ bN < cnt) (t2 : ¬ cnt = bN) (t3 : cnt.toNatClampNeg ≤ 64) (t4 : ((List.range cnt.toNatClampNeg).map fun i => bvs.getD ((0 : Int32).toNatClampNeg + i) (.int (0 : Int32))) = us) :
    own_Met l Z (⟨"java/lang/StringBuilder", "toString", "()Ljava/lang/String;"⟩ : MethodName) jdk_67_method_42_code 1 (some (.object "java/lang/String")) ({ frames := 5, cells := 2, slots := 68, locals := 79 } : Room) n0 #[(.ref a)] h0 (fun v h => ∃ x : Addr, ∃ r : Addr, ∃ rk : ClassId, v = some (.ref x) ∧ h0.size ≤ x ∧ h0.size ≤ r ∧ Keep h0 h [] ∧ Exa Z h x "java/lang/String" ∧ Fld Z h x "java/lang/String" "coder" "B" (.int 0) ∧ Fld Z h x "java/lang/String" "value" "[B" (.ref r) ∧ Arv Z h r rk .byte cnt us (.int 0)) := by
  refine own_met (by decide +kernel) #[.val (.ref a)] (fun m => by first | (simp [entryFrame, mkF, argsToLocals, Value.category]; done) | rfl) ?_
  intro p e s m below meth c T0 C S0
  refine own_new C S0 (own_wd hw 204 rfl) (own_wd hw 5 rfl) (own_wd hw 6 rfl) (by decide +kernel) (by decide) (by decide) ?_
  intro T275 h277 a278 S276 g279 E280 x281 D282
  have f283 : Fld Z h277 a278 "java/lang/String" "value" "[B" .null := D282 (ty := (.array .byte)) (Or.inr (own_wd hw 20 rfl)) own_fd0
  have f284 : Fld Z h277 a278 "java/lang/String" "coder" "B" (.int (0 : Int32)) := D282 (ty := .byte) (Or.inr (own_wd hw 21 rfl)) own_fd1
  refine own_seg C S276 [(3, .dup, 1), (4, .aload_n 0, 1)] (by decide +kernel) 5 #[.val (.ref a)] [(.ref a), (.ref a278), (.ref a278)] rfl ?_
  have f285 : Old Z n0 h277 := (X00.ext E280)
  have f286 : Exa Z h277 a "java/lang/StringBuilder" := (Exa.ext E280 aE)
  have f287 : Fld Z h277 a "java/lang/AbstractStringBuilder" "value" "[B" (.ref b) := (Fld.ext E280 aV)
  have f288 : Fld Z h277 a "java/lang/AbstractStringBuilder" "coder" "B" (.int (0 : Int32)) := (Fld.ext E280 aC)
  have f289 : Fld Z h277 a "java/lang/AbstractStringBuilder" "count" "I" (.int cnt) := (Fld.ext E280 aN)
  have f290 : Arv Z h277 b bk .byte bN bvs (.int (0 : Int32)) := (bK.ext E280)
  have f291 : n0 ≤ h277.size := (Nat.le_trans z0 E280.1)
  have g292 : n0 ≤ a278 := by rw [g279]; exact z0
  have n293 : a ≠ a278 := by rw [g279]; exact Nat.ne_of_lt aE.lt
  have n294 : b ≠ a278 := by rw [g279]; exact Nat.ne_of_lt bK.lt
  refine own_callI C S276 rfl (own_wd hw 205 rfl) (own_wd hw 206 rfl) (own_wd hw 207 rfl) (by decide) (own_Met.pay (own_sib2 l Z a0 hw G1 G3 a278 a b bk bN bvs cnt us h277 n0 f291 g292 f285 x281 f283 f284 f286 f287 f288 f289 f290 n293 n294 O2 O4 P5 rG3 t0 t1 t2 t3 t4) C 1 (own_wd hw 207 rfl) (own_wd hw 6 rfl) (by decide) (by decide)) (fun _ _ _ q => q.2) [(.ref a)] [(.ref a278)] rfl own_pd13 rfl rfl rfl (Nat.le_of_ble_eq_true rfl) (by decide) (by decide) (by decide +kernel) ?_
  rintro T303 h304 v305 L306 S307 ⟨⟨a295, k296, rfl, g297, K298, f299, f300, f301, f302⟩, -⟩
  replace S307 : own_S p l e ({ frames := 5, cells := 2, slots := 68, locals := 79 } : Room) s m #[(.ref a)] below meth c n0 T303 h304 2 68 := S307
  show own_Go p e below _ T303 (mkF m 8 #[.val (.ref a)] [(.ref a278)])
  refine own_retA C S307 rfl rfl (by decide +kernel) (by decide) (by decide) ?_
  exact ⟨a278, a295, k296, rfl, (by rw [g279]; exact (Nat.le_refl _)), (Nat.le_trans (Nat.le_trans (Nat.le_refl _) E280.1) g297), (((Keep.refl _ _).ext E280).trans K298 (allS (Or.inr (by rw [g279]; exact (Nat.le_refl _))) all0)), f299, f300, f301, f302⟩
set_option maxRecDepth 65536 in
set_option maxHeartbeats 40000000 in
theorem own_isL (l : Launch) (Z : State) (a0 : Array Value) (hw : ∀ d ∈ tables_1, d.before a0 Z = true) (G1 : Int32) (G3 : Value) (x : Addr) (h0 : Heap) (n0 : Nat) (z0 : n0 ≤ h0.size) (X00 : Old Z n0 h0) (pC : Fld Z h0 x "java/lang/String" "coder" "B" (.int 0)) (O2 : Sta Z Z.heap "java/lang/String" "COMPACT_STRINGS" "Z" (.int G1)) (O4 : Sta Z Z.heap "jdk/internal/util/Preconditions" "SIOOBE_FORMATTER" "Ljava/util/function/BiFunction;" G3) (P5 : ¬ G1 = (0 : Int32)) (rG3 : G3.isRef = true) :
    own_Met l Z (⟨"java/lang/String", "isLatin1", "()Z"⟩ : MethodName) jdk_42_method_154_code 1 (some .boolean) ({ frames := 0, cells := 0, slots := 0, locals := 0 } : Room) n0 #[(.ref x)] h0 (fun v h => v = some (.int (1 : Int32)) ∧ h = h0) := by
  refine own_met (by decide +kernel) #[.val (.ref x)] (fun m => by first | (simp [entryFrame, mkF, argsToLocals, Value.category]; done) | rfl) ?_
  intro p e s m below meth c T0 C S0
  refine own_getS C S0 (own_wd hw 170 rfl) Via.refl (O2.ext X00.2) (by decide +kernel) ?_
  intro T308 S309
  refine own_if C S309 (q := .eq) (o := 14) (by decide +kernel) 17 (by decide) (by decide) (fun (hq : G1 = (0 : Int32)) => False.elim (P5 hq)) (fun (q310 : ¬ G1 = (0 : Int32)) => ?_)
  refine own_seg C S309 [(6, .aload_n 0, 1)] (by decide +kernel) 7 #[.val (.ref x)] [(.ref x)] rfl ?_
  refine own_getF C S309 (host := "") (Or.inl (own_wd hw 25 rfl)) Via.refl pC (by decide +kernel) ?_
  intro T311 S312
  refine own_if C S312 (q := .ne) (o := 7) (by decide +kernel) 17 (by decide) (by decide) (fun (hq : ¬ 0 = (0 : Int32)) => False.elim (hq rfl)) (fun (q313 : 0 = (0 : Int32)) => ?_)
  refine own_seg C S312 [(13, .iconst 1, 1), (14, .goto 4, 3)] (by decide +kernel) 18 #[.val (.ref x)] [(.int (1 : Int32))] rfl ?_
  refine own_retZ C S312 (by decide +kernel) (by decide) (by decide) (by decide) ?_
  exact ⟨rfl, rfl⟩
set_option maxRecDepth 65536 in
set_option maxHeartbeats 40000000 in
theorem own_se4 (l : Launch) (Z : State) (a0 : Array Value) (hw : ∀ d ∈ tables_1, d.before a0 Z = true) (hEL : EW Z a0 own_EL) (wS : ∀ a ∈ Bundle.stringAtoms, a.before a0 Z = true) (x : Addr) (y : Addr) (h0 : Heap) (n0 : Nat) (z0 : n0 ≤ h0.size) (ge_x : n0 ≤ x) (xE : Exa Z h0 x "java/lang/String") (xV : Fld Z h0 x "java/lang/String" "value" "[B" .null) (xC : Fld Z h0 x "java/lang/String" "coder" "B" (.int (0 : Int32))) :
    own_MetW l Z own_EL (⟨"java/lang/String", "<init>", "([CIILjava/lang/Void;)V"⟩ : MethodName) jdk_42_method_149_code 6 none ({ frames := 1, cells := 4, slots := 8, locals := 12 } : Room) n0 #[(.ref x), (.ref y), (.int (0 : Int32)), (.int (0 : Int32)), .null] h0 [x] (fun v h => ∃ t : Addr, ∃ tk : ClassId, v = none ∧ Keep h0 h [x] ∧ Exa Z h x "java/lang/String" ∧ Fld Z h x "java/lang/String" "coder" "B" (.int (0 : Int32)) ∧ Fld Z h x "java/lang/String" "value" "[B" (.ref t) ∧ Arv Z h t tk .byte (0 : Int32) ([]) (.int 0)) := by
  refine own_metW hEL wS (by decide +kernel) #[.val (.ref x), .val (.ref y), .val (.int (0 : Int32)), .val (.int (0 : Int32)), .val .null, .unset] (fun m => by first | (simp [entryFrame, mkF, argsToLocals, Value.category]; done) | rfl) ?_
  intro p e s m below meth c T0 CW SW0
  refine own_lift CW SW0 ?_
  intro vm314 C S315 rb316
  refine own_seg C S315 [(0, .aload_n 0, 1)] (by decide +kernel) 1 #[.val (.ref x), .val (.ref y), .val (.int (0 : Int32)), .val (.int (0 : Int32)), .val .null, .unset] [(.ref x)] rfl ?_
  refine own_initO C S315 (own_wd hw 15 rfl) (own_wd hw 16 rfl) (own_wd hw 17 rfl) rfl (by decide +kernel) (by decide) 0 (Nat.le_of_ble_eq_true rfl) (by decide) ?_
  intro T317 S318
  refine own_seg C S318 [(4, .iload_n 3, 1)] (by decide +kernel) 5 #[.val (.ref x), .val (.ref y), .val (.int (0 : Int32)), .val (.int (0 : Int32)), .val .null, .unset] [(.int (0 : Int32))] rfl ?_
  refine own_if C S318 (q := .ne) (o := 22) (by decide +kernel) 27 (by decide) (by decide) (fun (hq : ¬ (0 : Int32) = (0 : Int32)) => False.elim (hq rfl)) (fun (q319 : (0 : Int32) = (0 : Int32)) => ?_)
  refine own_seg C S318 [(8, .aload_n 0, 1)] (by decide +kernel) 9 #[.val (.ref x), .val (.ref y), .val (.int (0 : Int32)), .val (.int (0 : Int32)), .val .null, .unset] [(.ref x)] rfl ?_
  have SW320 : own_SW p l e ({ frames := 1, cells := 4, slots := 8, locals := 12 } : Room) s m #[(.ref x), (.ref y), (.int (0 : Int32)), (.int (0 : Int32)), .null] below meth c n0 Z own_EL "java/lang/String" T317 h0 [x] 0 0 := rb316 _ _ _ _ [] [] S318 (Keep.refl _ _) all0 all0
  refine own_ldcW CW SW320 (own_wd hw 18 rfl) (List.mem_of_getElem? (i := 1) rfl) (z := (0 : Int32)) (vs := []) ⟨by decide, by decide⟩ (by decide) rfl (by decide +kernel) 0 (by decide) (by decide) (by decide) (by decide) ?_
  intro T321 h322 a323 b324 k325 SW326 E327 x328 f329 f330 f331 ne332
  have hp333 : ∀ c ∈ ([] : List Int32), ¬ c < 0 ∧ ¬ (255 : Int32) < c := by decide
  have hcd334 : StrChars.Road.CodA ([] : List Int32) 0 (0 : Int32) [] := StrChars.Road.codOf (cs := ([] : List Int32)) (n := 0) rfl (fun c hc => (hp333 c hc).2)
  refine own_lift CW SW326 ?_
  intro vm335 C S336 rb337
  refine own_getF C S336 (host := "") (Or.inl (own_wd hw 24 rfl)) Via.refl f330 (by decide +kernel) ?_
  intro T338 S339
  have f340 : Fld Z h322 x "java/lang/String" "value" "[B" .null := (Fld.ext E327 xV)
  have f341 : Exa Z h322 x "java/lang/String" := (Exa.ext E327 xE)
  refine own_putF C S339 (ty := (.array .byte)) (host := "") (Or.inl (own_wd hw 24 rfl)) Via.refl f340 f341 (Or.inr ⟨(own_wd hw 20 rfl), rfl, rfl⟩) (own_wd hw 5 rfl) own_fd0 rfl rfl ge_x (by decide +kernel) ?_
  intro T342 h344 S343 W345
  have f346 : Fld Z h344 x "java/lang/String" "value" "[B" (.ref b324) := Fld.same W345 f340
  refine own_seg C S343 [(17, .aload_n 0, 1)] (by decide +kernel) 18 #[.val (.ref x), .val (.ref y), .val (.int (0 : Int32)), .val (.int (0 : Int32)), .val .null, .unset] [(.ref x)] rfl ?_
  have SW347 : own_SW p l e ({ frames := 1, cells := 4, slots := 8, locals := 12 } : Room) s m #[(.ref x), (.ref y), (.int (0 : Int32)), (.int (0 : Int32)), .null] below meth c n0 Z own_EL "java/lang/String" T342 h344 [x] 2 4 := rb337 _ _ _ _ [x] [] S343 ((Keep.refl _ _).wr W345 (Or.inl (List.mem_of_getElem? (i := 0) rfl))) (allS (List.mem_of_getElem? (i := 0) rfl) all0) all0
  refine own_ldcW CW SW347 (own_wd hw 18 rfl) (List.mem_of_getElem? (i := 1) rfl) (z := (0 : Int32)) (vs := []) ⟨by decide, by decide⟩ (by decide) rfl (by decide +kernel) 0 (by decide) (by decide) (by decide) (by decide) ?_
  intro T348 h349 a350 b351 k352 SW353 E354 x355 f356 f357 f358 ne359
  have hp360 : ∀ c ∈ ([] : List Int32), ¬ c < 0 ∧ ¬ (255 : Int32) < c := by decide
  have hcd361 : StrChars.Road.CodA ([] : List Int32) 0 (0 : Int32) [] := StrChars.Road.codOf (cs := ([] : List Int32)) (n := 0) rfl (fun c hc => (hp360 c hc).2)
  refine own_lift CW SW353 ?_
  intro vm362 C S363 rb364
  refine own_getF C S363 (host := "") (Or.inl (own_wd hw 25 rfl)) Via.refl f356 (by decide +kernel) ?_
  intro T365 S366
  have f367 : Fld Z h349 x "java/lang/String" "coder" "B" (.int (0 : Int32)) := (Fld.ext E354 (Fld.other W345 (Fld.ext E327 xC) (Or.inr (own_sn7 hw))))
  have f368 : Exa Z h349 x "java/lang/String" := (Exa.ext E354 (Exa.wr W345 f341))
  refine own_putF C S366 (ty := .byte) (host := "") (Or.inl (own_wd hw 25 rfl)) Via.refl f367 f368 (Or.inr ⟨(own_wd hw 21 rfl), rfl, rfl⟩) (own_wd hw 5 rfl) own_fd1 rfl rfl ge_x (by decide +kernel) ?_
  intro T369 h371 S370 W372
  have f373 : Fld Z h371 x "java/lang/String" "coder" "B" (.int 0) := Fld.same W372 f367
  have SW374 : own_SW p l e ({ frames := 1, cells := 4, slots := 8, locals := 12 } : Room) s m #[(.ref x), (.ref y), (.int (0 : Int32)), (.int (0 : Int32)), .null] below meth c n0 Z own_EL "java/lang/String" T369 h371 [x] 4 8 := rb364 _ _ _ _ [x] [] S370 ((Keep.refl _ _).wr W372 (Or.inl (List.mem_of_getElem? (i := 0) rfl))) (allS (List.mem_of_getElem? (i := 0) rfl) all0) all0
  refine own_retVW CW SW374 (by decide +kernel) (by decide) (by decide) ?_
  have f375 : Exa Z h371 x "java/lang/String" := (Exa.wr W372 f368)
  have f376 : Fld Z h371 x "java/lang/String" "value" "[B" (.ref b324) := (Fld.other W372 (Fld.ext E354 f346) (Or.inr (own_sn6 hw)))
  have f377 : Arv Z h371 b324 k325 .byte (0 : Int32) ([]) (.int 0) := (((f331.other W345 (Ne.symm (ne332 x (List.mem_of_getElem? (i := 0) rfl)).2)).ext E354).other W372 (Ne.symm (ne332 x (List.mem_of_getElem? (i := 0) rfl)).2))
  exact ⟨b324, k325, rfl, (((((Keep.refl _ _).ext E327).wr W345 (Or.inl (List.mem_of_getElem? (i := 0) rfl))).ext E354).wr W372 (Or.inl (List.mem_of_getElem? (i := 0) rfl))), f375, f373, f376, f377⟩
theorem own_pd14 : parseMethodDescriptor "([CIILjava/lang/Void;)V" = some ⟨[(.array .char), .int, .int, (.object "java/lang/Void")], none⟩ := by decide +kernel
set_option maxRecDepth 65536 in
set_option maxHeartbeats 40000000 in
theorem own_se1 (l : Launch) (Z : State) (a0 : Array Value) (hw : ∀ d ∈ tables_1, d.before a0 Z = true) (hEL : EW Z a0 own_EL) (wS : ∀ a ∈ Bundle.stringAtoms, a.before a0 Z = true) (x : Addr) (y : Addr) (yk : ClassId) (yvs : List Value) (yd : Value) (h0 : Heap) (n0 : Nat) (z0 : n0 ≤ h0.size) (ge_x : n0 ≤ x) (xE : Exa Z h0 x "java/lang/String") (xV : Fld Z h0 x "java/lang/String" "value" "[B" .null) (xC : Fld Z h0 x "java/lang/String" "coder" "B" (.int (0 : Int32))) (yK : Arv Z h0 y yk .char (0 : Int32) yvs yd) :
    own_MetW l Z own_EL (⟨"java/lang/String", "<init>", "([C)V"⟩ : MethodName) jdk_42_method_3_code 2 none ({ frames := 2, cells := 4, slots := 8, locals := 29 } : Room) n0 #[(.ref x), (.ref y)] h0 [x] (fun v h => ∃ t : Addr, ∃ tk : ClassId, v = none ∧ Keep h0 h [x] ∧ Exa Z h x "java/lang/String" ∧ Fld Z h x "java/lang/String" "coder" "B" (.int (0 : Int32)) ∧ Fld Z h x "java/lang/String" "value" "[B" (.ref t) ∧ Arv Z h t tk .byte (0 : Int32) ([]) (.int 0)) := by
  refine own_metW hEL wS (by decide +kernel) #[.val (.ref x), .val (.ref y)] (fun m => by first | (simp [entryFrame, mkF, argsToLocals, Value.category]; done) | rfl) ?_
  intro p e s m below meth c T0 CW SW0
  refine own_lift CW SW0 ?_
  intro vm378 C S379 rb380
  refine own_seg C S379 [(0, .aload_n 0, 1), (1, .aload_n 1, 1), (2, .iconst 0, 1), (3, .aload_n 1, 1)] (by decide +kernel) 4 #[.val (.ref x), .val (.ref y)] [(.ref y), (.int (0 : Int32)), (.ref y), (.ref x)] rfl ?_
  refine own_alen C S379 yK (by decide +kernel) ?_
  refine own_seg C S379 [(5, .aconst_null, 1)] (by decide +kernel) 6 #[.val (.ref x), .val (.ref y)] [.null, (.int (0 : Int32)), (.int (0 : Int32)), (.ref y), (.ref x)] rfl ?_
  have SW381 : own_SW p l e ({ frames := 2, cells := 4, slots := 8, locals := 29 } : Room) s m #[(.ref x), (.ref y)] below meth c n0 Z own_EL "java/lang/String" T0 h0 [x] 0 0 := rb380 _ _ _ _ [] [] S379 (Keep.refl _ _) all0 all0
  refine own_callIW CW SW381 rfl (own_wd hw 11 rfl) (own_wd hw 12 rfl) (own_wd hw 6 rfl) (own_wd hw 14 rfl) (by decide) (own_se4 l Z a0 hw hEL wS x y h0 n0 z0 ge_x xE xV xC) (allS (List.mem_of_getElem? (i := 0) rfl) all0) 0 (by decide) (by decide) [(.ref y), (.int (0 : Int32)), (.int (0 : Int32)), .null] [] rfl own_pd14 rfl rfl rfl (Nat.le_of_ble_eq_true rfl) (by decide) (by decide) (by decide +kernel) ?_
  rintro T394 h395 v396 SW397 hg398 ⟨a382, k383, rfl, K384, f385, f386, f387, f388⟩
  replace SW397 : own_SW p l e ({ frames := 2, cells := 4, slots := 8, locals := 29 } : Room) s m #[(.ref x), (.ref y)] below meth c n0 Z own_EL "java/lang/String" T394 h395 [x] 4 8 := SW397
  show own_Go p e below _ T394 (mkF m 9 #[.val (.ref x), .val (.ref y)] [])
  refine own_retVW CW SW397 (by decide +kernel) (by decide) (by decide) ?_
  exact ⟨a382, k383, rfl, ((Keep.refl _ _).trans K384 (allS (Or.inl (List.mem_of_getElem? (i := 0) rfl)) all0)), f385, f386, f387, f388⟩
set_option maxRecDepth 65536 in
set_option maxHeartbeats 40000000 in
theorem own_ac (l : Launch) (Z : State) (a0 : Array Value) (hw : ∀ d ∈ tables_1, d.before a0 Z = true) (a : Addr) (h0 : Heap) (n0 : Nat) (z0 : n0 ≤ h0.size) :
    own_Met l Z (⟨"java/util/AbstractCollection", "<init>", "()V"⟩ : MethodName) jdk_22_method_1_code 1 none ({ frames := 1, cells := 0, slots := 0, locals := 12 } : Room) n0 #[(.ref a)] h0 (fun v h => v = none ∧ h = h0) := by
  refine own_met (by decide +kernel) #[.val (.ref a)] (fun m => by first | (simp [entryFrame, mkF, argsToLocals, Value.category]; done) | rfl) ?_
  intro p e s m below meth c T0 C S0
  refine own_seg C S0 [(0, .aload_n 0, 1)] (by decide +kernel) 1 #[.val (.ref a)] [(.ref a)] rfl ?_
  refine own_initO C S0 (own_wd hw 51 rfl) (own_wd hw 16 rfl) (own_wd hw 17 rfl) rfl (by decide +kernel) (by decide) 0 (Nat.le_of_ble_eq_true rfl) (by decide) ?_
  intro T399 S400
  refine own_retV C S400 (by decide +kernel) (by decide) (by decide) ?_
  exact ⟨rfl, rfl⟩
theorem own_pd15 : parseMethodDescriptor "()V" = some ⟨[], none⟩ := by decide +kernel
theorem own_fd3 : parseFieldDescriptor "[Ljava/lang/Object;" = some (.array (.object "java/lang/Object")) := by decide +kernel
theorem own_sn8 {Z : State} {a0 : Array Value} (hw : ∀ d ∈ tables_1, d.before a0 Z = true) : Jvm.RoadKit.slotOf Z "java/util/ArrayList" "elementData" "[Ljava/lang/Object;" ≠ Jvm.RoadKit.slotOf Z "java/util/AbstractList" "modCount" "I" := slot_ne (Or.inl (own_wd hw 56 rfl)) (Or.inl (own_wd hw 53 rfl)) (by decide) own_fd3 own_fd2
theorem own_sn9 {Z : State} {a0 : Array Value} (hw : ∀ d ∈ tables_1, d.before a0 Z = true) : Jvm.RoadKit.slotOf Z "java/util/ArrayList" "size" "I" ≠ Jvm.RoadKit.slotOf Z "java/util/AbstractList" "modCount" "I" := slot_ne (Or.inl (own_wd hw 126 rfl)) (Or.inl (own_wd hw 53 rfl)) (by decide) own_fd2 own_fd2
set_option maxRecDepth 65536 in
set_option maxHeartbeats 40000000 in
theorem own_abl (l : Launch) (Z : State) (a0 : Array Value) (hw : ∀ d ∈ tables_1, d.before a0 Z = true) (a : Addr) (h0 : Heap) (n0 : Nat) (z0 : n0 ≤ h0.size) (ge_a : n0 ≤ a) (p0 : Exa Z h0 a "java/util/ArrayList") (p1 : Fld Z h0 a "java/util/ArrayList" "elementData" "[Ljava/lang/Object;" .null) (p2 : Fld Z h0 a "java/util/ArrayList" "size" "I" (.int (0 : Int32))) (p3 : Fld Z h0 a "java/util/AbstractList" "modCount" "I" (.int (0 : Int32))) :
    own_Met l Z (⟨"java/util/AbstractList", "<init>", "()V"⟩ : MethodName) jdk_39_method_1_code 1 none ({ frames := 2, cells := 0, slots := 0, locals := 24 } : Room) n0 #[(.ref a)] h0 (fun v h => v = none ∧ Keep h0 h [a] ∧ Exa Z h a "java/util/ArrayList" ∧ Fld Z h a "java/util/ArrayList" "elementData" "[Ljava/lang/Object;" .null ∧ Fld Z h a "java/util/ArrayList" "size" "I" (.int (0 : Int32)) ∧ Fld Z h a "java/util/AbstractList" "modCount" "I" (.int (0 : Int32))) := by
  refine own_met (by decide +kernel) #[.val (.ref a)] (fun m => by first | (simp [entryFrame, mkF, argsToLocals, Value.category]; done) | rfl) ?_
  intro p e s m below meth c T0 C S0
  refine own_seg C S0 [(0, .aload_n 0, 1)] (by decide +kernel) 1 #[.val (.ref a)] [(.ref a)] rfl ?_
  refine own_callI C S0 rfl (own_wd hw 45 rfl) (own_wd hw 46 rfl) (own_wd hw 50 rfl) (by decide) (own_Met.pay (own_ac l Z a0 hw a h0 n0 z0) C 0 (own_wd hw 50 rfl) (own_wd hw 49 rfl) (by decide) (by decide)) (fun _ _ _ q => q.2) [] [] rfl own_pd15 rfl rfl rfl (Nat.le_of_ble_eq_true rfl) (by decide) (by decide) (by decide +kernel) ?_
  rintro T402 h403 v404 L405 S406 ⟨⟨rfl, e401⟩, -⟩
  replace S406 : own_S p l e ({ frames := 2, cells := 0, slots := 0, locals := 24 } : Room) s m #[(.ref a)] below meth c n0 T402 h403 0 0 := S406
  rw [e401] at S406; clear e401
  show own_Go p e below _ T402 (mkF m 4 #[.val (.ref a)] [])
  refine own_seg C S406 [(4, .aload_n 0, 1), (5, .iconst 0, 1)] (by decide +kernel) 6 #[.val (.ref a)] [(.int (0 : Int32)), (.ref a)] rfl ?_
  refine own_putF C S406 (ty := .int) (host := "") (Or.inl (own_wd hw 52 rfl)) Via.refl p3 p0 (Or.inl (own_wd hw 53 rfl)) (own_wd hw 34 rfl) own_fd2 rfl rfl ge_a (by decide +kernel) ?_
  intro T407 h409 S408 W410
  have f411 : Fld Z h409 a "java/util/AbstractList" "modCount" "I" (.int (0 : Int32)) := Fld.same W410 p3
  refine own_retV C S408 (by decide +kernel) (by decide) (by decide) ?_
  have f412 : Exa Z h409 a "java/util/ArrayList" := (Exa.wr W410 p0)
  have f413 : Fld Z h409 a "java/util/ArrayList" "elementData" "[Ljava/lang/Object;" .null := (Fld.other W410 p1 (Or.inr (own_sn8 hw)))
  have f414 : Fld Z h409 a "java/util/ArrayList" "size" "I" (.int (0 : Int32)) := (Fld.other W410 p2 (Or.inr (own_sn9 hw)))
  exact ⟨rfl, ((Keep.refl _ _).wr W410 (Or.inl (List.mem_of_getElem? (i := 0) rfl))), f412, f413, f414, f411⟩
theorem own_sn10 {Z : State} {a0 : Array Value} (hw : ∀ d ∈ tables_1, d.before a0 Z = true) : Jvm.RoadKit.slotOf Z "java/util/ArrayList" "size" "I" ≠ Jvm.RoadKit.slotOf Z "java/util/ArrayList" "elementData" "[Ljava/lang/Object;" := slot_ne (Or.inl (own_wd hw 126 rfl)) (Or.inl (own_wd hw 56 rfl)) (by decide) own_fd2 own_fd3
theorem own_sn11 {Z : State} {a0 : Array Value} (hw : ∀ d ∈ tables_1, d.before a0 Z = true) : Jvm.RoadKit.slotOf Z "java/util/AbstractList" "modCount" "I" ≠ Jvm.RoadKit.slotOf Z "java/util/ArrayList" "elementData" "[Ljava/lang/Object;" := slot_ne (Or.inl (own_wd hw 53 rfl)) (Or.inl (own_wd hw 56 rfl)) (by decide) own_fd2 own_fd3
set_option maxRecDepth 65536 in
set_option maxHeartbeats 40000000 in
theorem own_ali (l : Launch) (Z : State) (a0 : Array Value) (hw : ∀ d ∈ tables_1, d.before a0 Z = true) (a : Addr) (D0 : Addr) (h0 : Heap) (n0 : Nat) (z0 : n0 ≤ h0.size) (ge_a : n0 ≤ a) (X00 : Old Z n0 h0) (p0 : Exa Z h0 a "java/util/ArrayList") (p1 : Fld Z h0 a "java/util/ArrayList" "elementData" "[Ljava/lang/Object;" .null) (p2 : Fld Z h0 a "java/util/ArrayList" "size" "I" (.int (0 : Int32))) (p3 : Fld Z h0 a "java/util/AbstractList" "modCount" "I" (.int (0 : Int32))) (OD : Sta Z Z.heap "java/util/ArrayList" "DEFAULTCAPACITY_EMPTY_ELEMENTDATA" "[Ljava/lang/Object;" (.ref D0)) (D0lt : D0 < n0) :
    own_Met l Z (⟨"java/util/ArrayList", "<init>", "()V"⟩ : MethodName) jdk_38_method_2_code 1 none ({ frames := 3, cells := 0, slots := 0, locals := 36 } : Room) n0 #[(.ref a)] h0 (fun v h => v = none ∧ Keep h0 h [a] ∧ Exa Z h a "java/util/ArrayList" ∧ Fld Z h a "java/util/ArrayList" "elementData" "[Ljava/lang/Object;" (.ref D0) ∧ Fld Z h a "java/util/ArrayList" "size" "I" (.int (0 : Int32)) ∧ Fld Z h a "java/util/AbstractList" "modCount" "I" (.int (0 : Int32))) := by
  refine own_met (by decide +kernel) #[.val (.ref a)] (fun m => by first | (simp [entryFrame, mkF, argsToLocals, Value.category]; done) | rfl) ?_
  intro p e s m below meth c T0 C S0
  refine own_seg C S0 [(0, .aload_n 0, 1)] (by decide +kernel) 1 #[.val (.ref a)] [(.ref a)] rfl ?_
  refine own_callI C S0 rfl (own_wd hw 39 rfl) (own_wd hw 40 rfl) (own_wd hw 44 rfl) (by decide) (own_Met.pay (own_abl l Z a0 hw a h0 n0 z0 ge_a p0 p1 p2 p3) C 0 (own_wd hw 44 rfl) (own_wd hw 43 rfl) (by decide) (by decide)) (fun _ _ _ q => q.2) [] [] rfl own_pd15 rfl rfl rfl (Nat.le_of_ble_eq_true rfl) (by decide) (by decide) (by decide +kernel) ?_
  rintro T420 h421 v422 L423 S424 ⟨⟨rfl, K415, f416, f417, f418, f419⟩, -⟩
  replace S424 : own_S p l e ({ frames := 3, cells := 0, slots := 0, locals := 36 } : Room) s m #[(.ref a)] below meth c n0 T420 h421 0 0 := S424
  show own_Go p e below _ T420 (mkF m 4 #[.val (.ref a)] [])
  refine own_seg C S424 [(4, .aload_n 0, 1)] (by decide +kernel) 5 #[.val (.ref a)] [(.ref a)] rfl ?_
  have f425 : Old Z n0 h421 := (X00.keep K415 (allS ge_a all0))
  refine own_getS C S424 (own_wd hw 54 rfl) Via.refl (OD.ext f425.2) (by decide +kernel) ?_
  intro T426 S427
  refine own_putF C S427 (ty := (.array (.object "java/lang/Object"))) (host := "") (Or.inl (own_wd hw 55 rfl)) Via.refl f417 f416 (Or.inl (own_wd hw 56 rfl)) (own_wd hw 34 rfl) own_fd3 rfl rfl ge_a (by decide +kernel) ?_
  intro T428 h430 S429 W431
  have f432 : Fld Z h430 a "java/util/ArrayList" "elementData" "[Ljava/lang/Object;" (.ref D0) := Fld.same W431 f417
  refine own_retV C S429 (by decide +kernel) (by decide) (by decide) ?_
  have f433 : Exa Z h430 a "java/util/ArrayList" := (Exa.wr W431 f416)
  have f434 : Fld Z h430 a "java/util/ArrayList" "size" "I" (.int (0 : Int32)) := (Fld.other W431 f418 (Or.inr (own_sn10 hw)))
  have f435 : Fld Z h430 a "java/util/AbstractList" "modCount" "I" (.int (0 : Int32)) := (Fld.other W431 f419 (Or.inr (own_sn11 hw)))
  exact ⟨rfl, (((Keep.refl _ _).trans K415 (allS (Or.inl (List.mem_of_getElem? (i := 0) rfl)) all0)).wr W431 (Or.inl (List.mem_of_getElem? (i := 0) rfl))), f433, f432, f434, f435⟩
theorem own_fd4 : parseFieldDescriptor "Ljava/util/List;" = some (.object "java/util/List") := by decide +kernel
set_option maxRecDepth 65536 in
set_option maxHeartbeats 40000000 in
theorem own_rpi (l : Launch) (Z : State) (a0 : Array Value) (hw : ∀ d ∈ tables_1, d.before a0 Z = true) (rp : Addr) (D0 : Addr) (h0 : Heap) (n0 : Nat) (z0 : n0 ≤ h0.size) (ge_rp : n0 ≤ rp) (X00 : Old Z n0 h0) (p0 : Exa Z h0 rp "com/example/reckoner/reckoner/cli/Report") (p1 : Fld Z h0 rp "com/example/reckoner/reckoner/cli/Report" "lines" "Ljava/util/List;" .null) (OD : Sta Z Z.heap "java/util/ArrayList" "DEFAULTCAPACITY_EMPTY_ELEMENTDATA" "[Ljava/lang/Object;" (.ref D0)) (D0lt : D0 < n0) :
    own_Met l Z (⟨"com/example/reckoner/reckoner/cli/Report", "<init>", "()V"⟩ : MethodName) prog_2_method_1_code 1 none ({ frames := 4, cells := 1, slots := 3, locals := 50 } : Room) n0 #[(.ref rp)] h0 (fun v h => ∃ L : Addr, v = none ∧ h0.size ≤ L ∧ Keep h0 h [rp] ∧ Exa Z h rp "com/example/reckoner/reckoner/cli/Report" ∧ Fld Z h rp "com/example/reckoner/reckoner/cli/Report" "lines" "Ljava/util/List;" (.ref L) ∧ Exa Z h L "java/util/ArrayList" ∧ Fld Z h L "java/util/ArrayList" "elementData" "[Ljava/lang/Object;" (.ref D0) ∧ Fld Z h L "java/util/ArrayList" "size" "I" (.int (0 : Int32)) ∧ Fld Z h L "java/util/AbstractList" "modCount" "I" (.int (0 : Int32))) := by
  refine own_met (by decide +kernel) #[.val (.ref rp)] (fun m => by first | (simp [entryFrame, mkF, argsToLocals, Value.category]; done) | rfl) ?_
  intro p e s m below meth c T0 C S0
  refine own_seg C S0 [(0, .aload_n 0, 1)] (by decide +kernel) 1 #[.val (.ref rp)] [(.ref rp)] rfl ?_
  refine own_initO C S0 (own_wd hw 32 rfl) (own_wd hw 16 rfl) (own_wd hw 17 rfl) rfl (by decide +kernel) (by decide) 0 (Nat.le_of_ble_eq_true rfl) (by decide) ?_
  intro T436 S437
  refine own_seg C S437 [(4, .aload_n 0, 1)] (by decide +kernel) 5 #[.val (.ref rp)] [(.ref rp)] rfl ?_
  refine own_new C S437 (own_wd hw 33 rfl) (own_wd hw 34 rfl) (own_wd hw 35 rfl) (by decide +kernel) (by decide) (by decide) ?_
  intro T438 h440 a441 S439 g442 E443 x444 D445
  have f446 : Fld Z h440 a441 "java/util/AbstractList" "modCount" "I" (.int (0 : Int32)) := D445 (ty := .int) (Or.inl (own_wd hw 53 rfl)) own_fd2
  have f447 : Fld Z h440 a441 "java/util/ArrayList" "elementData" "[Ljava/lang/Object;" .null := D445 (ty := (.array (.object "java/lang/Object"))) (Or.inl (own_wd hw 56 rfl)) own_fd3
  have f448 : Fld Z h440 a441 "java/util/ArrayList" "size" "I" (.int (0 : Int32)) := D445 (ty := .int) (Or.inl (own_wd hw 126 rfl)) own_fd2
  refine own_seg C S439 [(8, .dup, 1)] (by decide +kernel) 9 #[.val (.ref rp)] [(.ref a441), (.ref a441), (.ref rp)] rfl ?_
  have f449 : Old Z n0 h440 := (X00.ext E443)
  have f450 : n0 ≤ h440.size := (Nat.le_trans z0 E443.1)
  have g451 : n0 ≤ a441 := by rw [g442]; exact z0
  refine own_callI C S439 rfl (own_wd hw 36 rfl) (own_wd hw 37 rfl) (own_wd hw 38 rfl) (by decide) (own_Met.pay (own_ali l Z a0 hw a441 D0 h440 n0 f450 g451 f449 x444 f447 f448 f446 OD D0lt) C 2 (own_wd hw 38 rfl) (own_wd hw 35 rfl) (by decide) (by decide)) (fun _ _ _ q => q.2) [] [(.ref a441), (.ref rp)] rfl own_pd15 rfl rfl rfl (Nat.le_of_ble_eq_true rfl) (by decide) (by decide) (by decide +kernel) ?_
  rintro T457 h458 v459 L460 S461 ⟨⟨rfl, K452, f453, f454, f455, f456⟩, -⟩
  replace S461 : own_S p l e ({ frames := 4, cells := 1, slots := 3, locals := 50 } : Room) s m #[(.ref rp)] below meth c n0 T457 h458 1 3 := S461
  show own_Go p e below _ T457 (mkF m 12 #[.val (.ref rp)] [(.ref a441), (.ref rp)])
  have n462 : rp ≠ a441 := by rw [g442]; exact Nat.ne_of_lt p0.lt
  have f463 : Fld Z h458 rp "com/example/reckoner/reckoner/cli/Report" "lines" "Ljava/util/List;" .null := ((Fld.ext E443 p1).keep K452 (ninS n462 nin0))
  have f464 : Exa Z h458 rp "com/example/reckoner/reckoner/cli/Report" := ((Exa.ext E443 p0).keep K452)
  refine own_putF C S461 (ty := (.object "java/util/List")) (host := "") (Or.inl (own_wd hw 57 rfl)) Via.refl f463 f464 (Or.inr ⟨(own_wd hw 58 rfl), rfl, rfl⟩) (own_wd hw 27 rfl) own_fd4 rfl rfl ge_rp (by decide +kernel) ?_
  intro T465 h467 S466 W468
  have f469 : Fld Z h467 rp "com/example/reckoner/reckoner/cli/Report" "lines" "Ljava/util/List;" (.ref a441) := Fld.same W468 f463
  refine own_retV C S466 (by decide +kernel) (by decide) (by decide) ?_
  have f470 : Exa Z h467 rp "com/example/reckoner/reckoner/cli/Report" := (Exa.wr W468 f464)
  have f471 : Exa Z h467 a441 "java/util/ArrayList" := (Exa.wr W468 f453)
  have f472 : Fld Z h467 a441 "java/util/ArrayList" "elementData" "[Ljava/lang/Object;" (.ref D0) := (Fld.other W468 f454 (Or.inl (Ne.symm n462)))
  have f473 : Fld Z h467 a441 "java/util/ArrayList" "size" "I" (.int (0 : Int32)) := (Fld.other W468 f455 (Or.inl (Ne.symm n462)))
  have f474 : Fld Z h467 a441 "java/util/AbstractList" "modCount" "I" (.int (0 : Int32)) := (Fld.other W468 f456 (Or.inl (Ne.symm n462)))
  exact ⟨a441, rfl, (by rw [g442]; exact (Nat.le_refl _)), ((((Keep.refl _ _).ext E443).trans K452 (allS (Or.inr (by rw [g442]; exact (Nat.le_refl _))) all0)).wr W468 (Or.inl (List.mem_of_getElem? (i := 0) rfl))), f470, f469, f471, f472, f473, f474⟩
theorem own_fd5 : parseFieldDescriptor "Ljava/util/Collection;" = some (.object "java/util/Collection") := by decide +kernel
theorem own_sn12 {Z : State} {a0 : Array Value} (hw : ∀ d ∈ tables_1, d.before a0 Z = true) : Jvm.RoadKit.slotOf Z "java/util/Collections$UnmodifiableList" "list" "Ljava/util/List;" ≠ Jvm.RoadKit.slotOf Z "java/util/Collections$UnmodifiableCollection" "c" "Ljava/util/Collection;" := slot_ne (Or.inr (own_wd hw 106 rfl)) (Or.inr (own_wd hw 104 rfl)) (by decide) own_fd4 own_fd5
set_option maxRecDepth 65536 in
set_option maxHeartbeats 40000000 in
theorem own_uci (l : Launch) (Z : State) (a0 : Array Value) (hw : ∀ d ∈ tables_1, d.before a0 Z = true) (u : Addr) (L : Addr) (h0 : Heap) (n0 : Nat) (z0 : n0 ≤ h0.size) (ge_u : n0 ≤ u) (p0 : Exa Z h0 u "java/util/Collections$UnmodifiableRandomAccessList") (p1 : Fld Z h0 u "java/util/Collections$UnmodifiableCollection" "c" "Ljava/util/Collection;" .null) (p2 : Fld Z h0 u "java/util/Collections$UnmodifiableList" "list" "Ljava/util/List;" .null) :
    own_Met l Z (⟨"java/util/Collections$UnmodifiableCollection", "<init>", "(Ljava/util/Collection;)V"⟩ : MethodName) jdk_119_method_1_code 2 none ({ frames := 1, cells := 0, slots := 0, locals := 12 } : Room) n0 #[(.ref u), (.ref L)] h0 (fun v h => v = none ∧ Keep h0 h [u] ∧ Exa Z h u "java/util/Collections$UnmodifiableRandomAccessList" ∧ Fld Z h u "java/util/Collections$UnmodifiableCollection" "c" "Ljava/util/Collection;" (.ref L) ∧ Fld Z h u "java/util/Collections$UnmodifiableList" "list" "Ljava/util/List;" .null) := by
  refine own_met (by decide +kernel) #[.val (.ref u), .val (.ref L)] (fun m => by first | (simp [entryFrame, mkF, argsToLocals, Value.category]; done) | rfl) ?_
  intro p e s m below meth c T0 C S0
  refine own_seg C S0 [(0, .aload_n 0, 1)] (by decide +kernel) 1 #[.val (.ref u), .val (.ref L)] [(.ref u)] rfl ?_
  refine own_initO C S0 (own_wd hw 102 rfl) (own_wd hw 16 rfl) (own_wd hw 17 rfl) rfl (by decide +kernel) (by decide) 0 (Nat.le_of_ble_eq_true rfl) (by decide) ?_
  intro T475 S476
  refine own_seg C S476 [(4, .aload_n 1, 1), (5, .ifnonnull 11, 3), (16, .aload_n 0, 1), (17, .aload_n 1, 1)] (by decide +kernel) 18 #[.val (.ref u), .val (.ref L)] [(.ref L), (.ref u)] rfl ?_
  refine own_putF C S476 (ty := (.object "java/util/Collection")) (host := "") (Or.inl (own_wd hw 103 rfl)) Via.refl p1 p0 (Or.inr ⟨(own_wd hw 104 rfl), rfl, rfl⟩) (own_wd hw 85 rfl) own_fd5 rfl rfl ge_u (by decide +kernel) ?_
  intro T477 h479 S478 W480
  have f481 : Fld Z h479 u "java/util/Collections$UnmodifiableCollection" "c" "Ljava/util/Collection;" (.ref L) := Fld.same W480 p1
  refine own_retV C S478 (by decide +kernel) (by decide) (by decide) ?_
  have f482 : Exa Z h479 u "java/util/Collections$UnmodifiableRandomAccessList" := (Exa.wr W480 p0)
  have f483 : Fld Z h479 u "java/util/Collections$UnmodifiableList" "list" "Ljava/util/List;" .null := (Fld.other W480 p2 (Or.inr (own_sn12 hw)))
  exact ⟨rfl, ((Keep.refl _ _).wr W480 (Or.inl (List.mem_of_getElem? (i := 0) rfl))), f482, f481, f483⟩
theorem own_pd16 : parseMethodDescriptor "(Ljava/util/Collection;)V" = some ⟨[(.object "java/util/Collection")], none⟩ := by decide +kernel
theorem own_sn13 {Z : State} {a0 : Array Value} (hw : ∀ d ∈ tables_1, d.before a0 Z = true) : Jvm.RoadKit.slotOf Z "java/util/Collections$UnmodifiableCollection" "c" "Ljava/util/Collection;" ≠ Jvm.RoadKit.slotOf Z "java/util/Collections$UnmodifiableList" "list" "Ljava/util/List;" := slot_ne (Or.inr (own_wd hw 104 rfl)) (Or.inr (own_wd hw 106 rfl)) (by decide) own_fd5 own_fd4
set_option maxRecDepth 65536 in
set_option maxHeartbeats 40000000 in
theorem own_uli (l : Launch) (Z : State) (a0 : Array Value) (hw : ∀ d ∈ tables_1, d.before a0 Z = true) (u : Addr) (L : Addr) (h0 : Heap) (n0 : Nat) (z0 : n0 ≤ h0.size) (ge_u : n0 ≤ u) (p0 : Exa Z h0 u "java/util/Collections$UnmodifiableRandomAccessList") (p1 : Fld Z h0 u "java/util/Collections$UnmodifiableCollection" "c" "Ljava/util/Collection;" .null) (p2 : Fld Z h0 u "java/util/Collections$UnmodifiableList" "list" "Ljava/util/List;" .null) :
    own_Met l Z (⟨"java/util/Collections$UnmodifiableList", "<init>", "(Ljava/util/List;)V"⟩ : MethodName) jdk_120_method_1_code 2 none ({ frames := 2, cells := 0, slots := 0, locals := 25 } : Room) n0 #[(.ref u), (.ref L)] h0 (fun v h => v = none ∧ Keep h0 h [u] ∧ Exa Z h u "java/util/Collections$UnmodifiableRandomAccessList" ∧ Fld Z h u "java/util/Collections$UnmodifiableCollection" "c" "Ljava/util/Collection;" (.ref L) ∧ Fld Z h u "java/util/Collections$UnmodifiableList" "list" "Ljava/util/List;" (.ref L)) := by
  refine own_met (by decide +kernel) #[.val (.ref u), .val (.ref L)] (fun m => by first | (simp [entryFrame, mkF, argsToLocals, Value.category]; done) | rfl) ?_
  intro p e s m below meth c T0 C S0
  refine own_seg C S0 [(0, .aload_n 0, 1), (1, .aload_n 1, 1)] (by decide +kernel) 2 #[.val (.ref u), .val (.ref L)] [(.ref L), (.ref u)] rfl ?_
  refine own_callI C S0 rfl (own_wd hw 96 rfl) (own_wd hw 97 rfl) (own_wd hw 101 rfl) (by decide) (own_Met.pay (own_uci l Z a0 hw u L h0 n0 z0 ge_u p0 p1 p2) C 0 (own_wd hw 101 rfl) (own_wd hw 100 rfl) (by decide) (by decide)) (fun _ _ _ q => q.2) [(.ref L)] [] rfl own_pd16 rfl rfl rfl (Nat.le_of_ble_eq_true rfl) (by decide) (by decide) (by decide +kernel) ?_
  rintro T488 h489 v490 L491 S492 ⟨⟨rfl, K484, f485, f486, f487⟩, -⟩
  replace S492 : own_S p l e ({ frames := 2, cells := 0, slots := 0, locals := 25 } : Room) s m #[(.ref u), (.ref L)] below meth c n0 T488 h489 0 0 := S492
  show own_Go p e below _ T488 (mkF m 5 #[.val (.ref u), .val (.ref L)] [])
  refine own_seg C S492 [(5, .aload_n 0, 1), (6, .aload_n 1, 1)] (by decide +kernel) 7 #[.val (.ref u), .val (.ref L)] [(.ref L), (.ref u)] rfl ?_
  refine own_putF C S492 (ty := (.object "java/util/List")) (host := "") (Or.inl (own_wd hw 105 rfl)) Via.refl f487 f485 (Or.inr ⟨(own_wd hw 106 rfl), rfl, rfl⟩) (own_wd hw 85 rfl) own_fd4 rfl rfl ge_u (by decide +kernel) ?_
  intro T493 h495 S494 W496
  have f497 : Fld Z h495 u "java/util/Collections$UnmodifiableList" "list" "Ljava/util/List;" (.ref L) := Fld.same W496 f487
  refine own_retV C S494 (by decide +kernel) (by decide) (by decide) ?_
  have f498 : Exa Z h495 u "java/util/Collections$UnmodifiableRandomAccessList" := (Exa.wr W496 f485)
  have f499 : Fld Z h495 u "java/util/Collections$UnmodifiableCollection" "c" "Ljava/util/Collection;" (.ref L) := (Fld.other W496 f486 (Or.inr (own_sn13 hw)))
  exact ⟨rfl, (((Keep.refl _ _).trans K484 (allS (Or.inl (List.mem_of_getElem? (i := 0) rfl)) all0)).wr W496 (Or.inl (List.mem_of_getElem? (i := 0) rfl))), f498, f499, f497⟩
theorem own_pd17 : parseMethodDescriptor "(Ljava/util/List;)V" = some ⟨[(.object "java/util/List")], none⟩ := by decide +kernel
set_option maxRecDepth 65536 in
set_option maxHeartbeats 40000000 in
theorem own_uri (l : Launch) (Z : State) (a0 : Array Value) (hw : ∀ d ∈ tables_1, d.before a0 Z = true) (u : Addr) (L : Addr) (h0 : Heap) (n0 : Nat) (z0 : n0 ≤ h0.size) (ge_u : n0 ≤ u) (p0 : Exa Z h0 u "java/util/Collections$UnmodifiableRandomAccessList") (p1 : Fld Z h0 u "java/util/Collections$UnmodifiableCollection" "c" "Ljava/util/Collection;" .null) (p2 : Fld Z h0 u "java/util/Collections$UnmodifiableList" "list" "Ljava/util/List;" .null) :
    own_Met l Z (⟨"java/util/Collections$UnmodifiableRandomAccessList", "<init>", "(Ljava/util/List;)V"⟩ : MethodName) jdk_121_method_1_code 2 none ({ frames := 3, cells := 0, slots := 0, locals := 38 } : Room) n0 #[(.ref u), (.ref L)] h0 (fun v h => v = none ∧ Keep h0 h [u] ∧ Exa Z h u "java/util/Collections$UnmodifiableRandomAccessList" ∧ Fld Z h u "java/util/Collections$UnmodifiableCollection" "c" "Ljava/util/Collection;" (.ref L) ∧ Fld Z h u "java/util/Collections$UnmodifiableList" "list" "Ljava/util/List;" (.ref L)) := by
  refine own_met (by decide +kernel) #[.val (.ref u), .val (.ref L)] (fun m => by first | (simp [entryFrame, mkF, argsToLocals, Value.category]; done) | rfl) ?_
  intro p e s m below meth c T0 C S0
  refine own_seg C S0 [(0, .aload_n 0, 1), (1, .aload_n 1, 1)] (by decide +kernel) 2 #[.val (.ref u), .val (.ref L)] [(.ref L), (.ref u)] rfl ?_
  refine own_callI C S0 rfl (own_wd hw 90 rfl) (own_wd hw 91 rfl) (own_wd hw 95 rfl) (by decide) (own_Met.pay (own_uli l Z a0 hw u L h0 n0 z0 ge_u p0 p1 p2) C 0 (own_wd hw 95 rfl) (own_wd hw 94 rfl) (by decide) (by decide)) (fun _ _ _ q => q.2) [(.ref L)] [] rfl own_pd17 rfl rfl rfl (Nat.le_of_ble_eq_true rfl) (by decide) (by decide) (by decide +kernel) ?_
  rintro T504 h505 v506 L507 S508 ⟨⟨rfl, K500, f501, f502, f503⟩, -⟩
  replace S508 : own_S p l e ({ frames := 3, cells := 0, slots := 0, locals := 38 } : Room) s m #[(.ref u), (.ref L)] below meth c n0 T504 h505 0 0 := S508
  show own_Go p e below _ T504 (mkF m 5 #[.val (.ref u), .val (.ref L)] [])
  refine own_retV C S508 (by decide +kernel) (by decide) (by decide) ?_
  exact ⟨rfl, ((Keep.refl _ _).trans K500 (allS (Or.inl (List.mem_of_getElem? (i := 0) rfl)) all0)), f501, f502, f503⟩
set_option maxRecDepth 65536 in
set_option maxHeartbeats 40000000 in
theorem own_cu (l : Launch) (Z : State) (a0 : Array Value) (hw : ∀ d ∈ tables_1, d.before a0 Z = true) (L : Addr) (m1 : Addr) (m2 : Addr) (m3 : Addr) (h0 : Heap) (n0 : Nat) (z0 : n0 ≤ h0.size) (LE : Exa Z h0 L "java/util/ArrayList") (M1 : Mir Z "java/util/ArrayList" m1) (M2 : Mir Z "java/util/Collections$UnmodifiableList" m2) (M3 : Mir Z "java/util/Collections$UnmodifiableRandomAccessList" m3) :
    own_Met l Z (⟨"java/util/Collections", "unmodifiableList", "(Ljava/util/List;)Ljava/util/List;"⟩ : MethodName) jdk_79_method_35_code 1 (some (.object "java/util/List")) ({ frames := 4, cells := 1, slots := 2, locals := 52 } : Room) n0 #[(.ref L)] h0 (fun v h => ∃ u : Addr, v = some (.ref u) ∧ h0.size ≤ u ∧ Keep h0 h [] ∧ Exa Z h u "java/util/Collections$UnmodifiableRandomAccessList" ∧ Fld Z h u "java/util/Collections$UnmodifiableCollection" "c" "Ljava/util/Collection;" (.ref L) ∧ Fld Z h u "java/util/Collections$UnmodifiableList" "list" "Ljava/util/List;" (.ref L)) := by
  refine own_met (by decide +kernel) #[.val (.ref L)] (fun m => by first | (simp [entryFrame, mkF, argsToLocals, Value.category]; done) | rfl) ?_
  intro p e s m below meth c T0 C S0
  refine own_seg C S0 [(0, .aload_n 0, 1)] (by decide +kernel) 1 #[.val (.ref L)] [(.ref L)] rfl ?_
  refine own_gcI C S0 (count := 1) (own_wd hw 68 rfl) (own_wd hw 69 rfl) (own_wd hw 70 rfl) (own_wd hw 71 rfl) (own_wd hw 72 rfl) (own_wd hw 73 rfl) (own_wd hw 74 rfl) (own_wd hw 75 rfl) (own_wd hw 76 rfl) (by decide) (by decide) rfl rfl LE M1 rfl (by decide +kernel) (by decide) 0 (Nat.le_of_ble_eq_true rfl) (by decide) ?_
  intro T509 S510
  refine own_ldcK C S510 (own_wd hw 78 rfl) M2 (by decide +kernel) ?_
  intro T511 S512
  refine own_acmp C S512 (q := .eq) (o := 14) rfl rfl (by decide +kernel) 22 (by decide) (by decide) (fun (hq : ((.ref m1) : Value) = (.ref m2)) => False.elim (own_refne (Mir.ne M1 M2 (by decide)) hq)) (fun (q513 : ¬ ((.ref m1) : Value) = (.ref m2)) => ?_)
  refine own_seg C S512 [(11, .aload_n 0, 1)] (by decide +kernel) 12 #[.val (.ref L)] [(.ref L)] rfl ?_
  refine own_gcI C S512 (count := 1) (own_wd hw 80 rfl) (own_wd hw 69 rfl) (own_wd hw 70 rfl) (own_wd hw 71 rfl) (own_wd hw 72 rfl) (own_wd hw 73 rfl) (own_wd hw 74 rfl) (own_wd hw 75 rfl) (own_wd hw 76 rfl) (by decide) (by decide) rfl rfl LE M1 rfl (by decide +kernel) (by decide) 0 (Nat.le_of_ble_eq_true rfl) (by decide) ?_
  intro T514 S515
  refine own_ldcK C S515 (own_wd hw 81 rfl) M3 (by decide +kernel) ?_
  intro T516 S517
  refine own_acmp C S517 (q := .ne) (o := 5) rfl rfl (by decide +kernel) 24 (by decide) (by decide) (fun (q518 : ¬ ((.ref m1) : Value) = (.ref m3)) => ?_) (fun (hq : ((.ref m1) : Value) = (.ref m3)) => False.elim (own_refne (Mir.ne M1 M3 (by decide)) hq))
  refine own_seg C S517 [(24, .aload_n 0, 1)] (by decide +kernel) 25 #[.val (.ref L)] [(.ref L)] rfl ?_
  refine own_inst C S517 (own_wd hw 83 rfl) (Ins.of_exa LE (own_wd hw 84 rfl)) (by decide +kernel) ?_
  intro T519 S520
  refine own_if C S520 (q := .eq) (o := 14) (by decide +kernel) 42 (by decide) (by decide) (fun (hq : (1 : Int32) = (0 : Int32)) => False.elim (absurd hq (by decide))) (fun (q521 : ¬ (1 : Int32) = (0 : Int32)) => ?_)
  refine own_new C S520 (own_wd hw 81 rfl) (own_wd hw 85 rfl) (own_wd hw 86 rfl) (by decide +kernel) (by decide) (by decide) ?_
  intro T522 h524 a525 S523 g526 E527 x528 D529
  have f530 : Fld Z h524 a525 "java/util/Collections$UnmodifiableCollection" "c" "Ljava/util/Collection;" .null := D529 (ty := (.object "java/util/Collection")) (Or.inr (own_wd hw 104 rfl)) own_fd5
  have f531 : Fld Z h524 a525 "java/util/Collections$UnmodifiableList" "list" "Ljava/util/List;" .null := D529 (ty := (.object "java/util/List")) (Or.inr (own_wd hw 106 rfl)) own_fd4
  refine own_seg C S523 [(34, .dup, 1), (35, .aload_n 0, 1)] (by decide +kernel) 36 #[.val (.ref L)] [(.ref L), (.ref a525), (.ref a525)] rfl ?_
  have f532 : n0 ≤ h524.size := (Nat.le_trans z0 E527.1)
  have g533 : n0 ≤ a525 := by rw [g526]; exact z0
  refine own_callI C S523 rfl (own_wd hw 87 rfl) (own_wd hw 88 rfl) (own_wd hw 89 rfl) (by decide) (own_Met.pay (own_uri l Z a0 hw a525 L h524 n0 f532 g533 x528 f530 f531) C 1 (own_wd hw 89 rfl) (own_wd hw 86 rfl) (by decide) (by decide)) (fun _ _ _ q => q.2) [(.ref L)] [(.ref a525)] rfl own_pd17 rfl rfl rfl (Nat.le_of_ble_eq_true rfl) (by decide) (by decide) (by decide +kernel) ?_
  rintro T538 h539 v540 L541 S542 ⟨⟨rfl, K534, f535, f536, f537⟩, -⟩
  replace S542 : own_S p l e ({ frames := 4, cells := 1, slots := 2, locals := 52 } : Room) s m #[(.ref L)] below meth c n0 T538 h539 1 2 := S542
  show own_Go p e below _ T538 (mkF m 39 #[.val (.ref L)] [(.ref a525)])
  refine own_seg C S542 [(39, .goto 11, 3)] (by decide +kernel) 50 #[.val (.ref L)] [(.ref a525)] rfl ?_
  refine own_retA C S542 rfl rfl (by decide +kernel) (by decide) (by decide) ?_
  exact ⟨a525, rfl, (by rw [g526]; exact (Nat.le_refl _)), (((Keep.refl _ _).ext E527).trans K534 (allS (Or.inr (by rw [g526]; exact (Nat.le_refl _))) all0)), f535, f536, f537⟩
theorem own_pd18 : parseMethodDescriptor "(Ljava/util/List;)Ljava/util/List;" = some ⟨[(.object "java/util/List")], (some (.object "java/util/List"))⟩ := by decide +kernel
set_option maxRecDepth 65536 in
set_option maxHeartbeats 40000000 in
theorem own_rl (l : Launch) (Z : State) (a0 : Array Value) (hw : ∀ d ∈ tables_1, d.before a0 Z = true) (rp : Addr) (L : Addr) (m1 : Addr) (m2 : Addr) (m3 : Addr) (h0 : Heap) (n0 : Nat) (z0 : n0 ≤ h0.size) (pL : Fld Z h0 rp "com/example/reckoner/reckoner/cli/Report" "lines" "Ljava/util/List;" (.ref L)) (LE : Exa Z h0 L "java/util/ArrayList") (M1 : Mir Z "java/util/ArrayList" m1) (M2 : Mir Z "java/util/Collections$UnmodifiableList" m2) (M3 : Mir Z "java/util/Collections$UnmodifiableRandomAccessList" m3) :
    own_Met l Z (⟨"com/example/reckoner/reckoner/cli/Report", "lines", "()Ljava/util/List;"⟩ : MethodName) prog_2_method_16_code 1 (some (.object "java/util/List")) ({ frames := 5, cells := 1, slots := 2, locals := 64 } : Room) n0 #[(.ref rp)] h0 (fun v h => ∃ u : Addr, v = some (.ref u) ∧ h0.size ≤ u ∧ Keep h0 h [] ∧ Exa Z h u "java/util/Collections$UnmodifiableRandomAccessList" ∧ Fld Z h u "java/util/Collections$UnmodifiableCollection" "c" "Ljava/util/Collection;" (.ref L) ∧ Fld Z h u "java/util/Collections$UnmodifiableList" "list" "Ljava/util/List;" (.ref L)) := by
  refine own_met (by decide +kernel) #[.val (.ref rp)] (fun m => by first | (simp [entryFrame, mkF, argsToLocals, Value.category]; done) | rfl) ?_
  intro p e s m below meth c T0 C S0
  refine own_seg C S0 [(0, .aload_n 0, 1)] (by decide +kernel) 1 #[.val (.ref rp)] [(.ref rp)] rfl ?_
  refine own_getF C S0 (host := "") (Or.inl (own_wd hw 57 rfl)) Via.refl pL (by decide +kernel) ?_
  intro T543 S544
  refine own_callS C S544 (own_wd hw 64 rfl) (own_wd hw 65 rfl) (own_wd hw 66 rfl) (own_wd hw 67 rfl) (by decide) (own_Met.pay (own_cu l Z a0 hw L m1 m2 m3 h0 n0 z0 LE M1 M2 M3) C 0 (own_wd hw 67 rfl) (own_wd hw 66 rfl) (by decide) (by decide)) (fun _ _ _ q => q.2) [(.ref L)] [] rfl own_pd18 rfl rfl rfl (Nat.le_of_ble_eq_true rfl) (by decide) (by decide) (by decide +kernel) ?_
  rintro T551 h552 v553 L554 S555 ⟨⟨a545, rfl, g546, K547, f548, f549, f550⟩, -⟩
  replace S555 : own_S p l e ({ frames := 5, cells := 1, slots := 2, locals := 64 } : Room) s m #[(.ref rp)] below meth c n0 T551 h552 1 2 := S555
  show own_Go p e below _ T551 (mkF m 7 #[.val (.ref rp)] [(.ref a545)])
  refine own_retA C S555 rfl rfl (by decide +kernel) (by decide) (by decide) ?_
  exact ⟨a545, rfl, (Nat.le_trans (Nat.le_refl _) g546), ((Keep.refl _ _).trans K547 all0), f548, f549, f550⟩
set_option maxRecDepth 65536 in
set_option maxHeartbeats 40000000 in
theorem own_als (l : Launch) (Z : State) (a0 : Array Value) (hw : ∀ d ∈ tables_1, d.before a0 Z = true) (a : Addr) (y : Int32) (h0 : Heap) (n0 : Nat) (z0 : n0 ≤ h0.size) (pF : Fld Z h0 a "java/util/ArrayList" "size" "I" (.int y)) :
    own_Met l Z (⟨"java/util/ArrayList", "size", "()I"⟩ : MethodName) jdk_38_method_8_code 1 (some .int) ({ frames := 0, cells := 0, slots := 0, locals := 0 } : Room) n0 #[(.ref a)] h0 (fun v h => v = some (.int y) ∧ h = h0) := by
  refine own_met (by decide +kernel) #[.val (.ref a)] (fun m => by first | (simp [entryFrame, mkF, argsToLocals, Value.category]; done) | rfl) ?_
  intro p e s m below meth c T0 C S0
  refine own_seg C S0 [(0, .aload_n 0, 1)] (by decide +kernel) 1 #[.val (.ref a)] [(.ref a)] rfl ?_
  refine own_getF C S0 (host := "") (Or.inl (own_wd hw 125 rfl)) Via.refl pF (by decide +kernel) ?_
  intro T556 S557
  refine own_retI C S557 (by decide +kernel) (by decide) (by decide) ?_
  exact ⟨rfl, rfl⟩
set_option maxRecDepth 65536 in
set_option maxHeartbeats 40000000 in
theorem own_us (l : Launch) (Z : State) (a0 : Array Value) (hw : ∀ d ∈ tables_1, d.before a0 Z = true) (u : Addr) (L : Addr) (n : Int32) (h0 : Heap) (n0 : Nat) (z0 : n0 ≤ h0.size) (uc : Fld Z h0 u "java/util/Collections$UnmodifiableCollection" "c" "Ljava/util/Collection;" (.ref L)) (LE : Exa Z h0 L "java/util/ArrayList") (Ln : Fld Z h0 L "java/util/ArrayList" "size" "I" (.int n)) :
    own_Met l Z (⟨"java/util/Collections$UnmodifiableCollection", "size", "()I"⟩ : MethodName) jdk_119_method_2_code 1 (some .int) ({ frames := 1, cells := 0, slots := 0, locals := 12 } : Room) n0 #[(.ref u)] h0 (fun v h => v = some (.int n) ∧ h = h0) := by
  refine own_met (by decide +kernel) #[.val (.ref u)] (fun m => by first | (simp [entryFrame, mkF, argsToLocals, Value.category]; done) | rfl) ?_
  intro p e s m below meth c T0 C S0
  refine own_seg C S0 [(0, .aload_n 0, 1)] (by decide +kernel) 1 #[.val (.ref u)] [(.ref u)] rfl ?_
  refine own_getF C S0 (host := "") (Or.inl (own_wd hw 103 rfl)) Via.refl uc (by decide +kernel) ?_
  intro T558 S559
  refine own_callF C S559 (count := 1) (own_wd hw 116 rfl) (own_wd hw 117 rfl) (own_wd hw 118 rfl) rfl (own_wd hw 119 rfl) (own_wd hw 120 rfl) (own_wd hw 121 rfl) (own_wd hw 122 rfl) (own_wd hw 123 rfl) (by decide) (own_Met.pay (own_als l Z a0 hw L n h0 n0 z0 Ln) C 0 (own_wd hw 124 rfl) (own_wd hw 35 rfl) (by decide) (by decide)) (fun _ _ _ q => q.2) LE [] [] rfl own_pd4 rfl rfl rfl (Nat.le_of_ble_eq_true rfl) (by decide) (by decide) (by decide +kernel) ?_
  rintro T561 h562 v563 L564 S565 ⟨⟨rfl, e560⟩, -⟩
  replace S565 : own_S p l e ({ frames := 1, cells := 0, slots := 0, locals := 12 } : Room) s m #[(.ref u)] below meth c n0 T561 h562 0 0 := S565
  rw [e560] at S565; clear e560
  show own_Go p e below _ T561 (mkF m 9 #[.val (.ref u)] [(.int n)])
  refine own_retI C S565 (by decide +kernel) (by decide) (by decide) ?_
  exact ⟨rfl, rfl⟩
set_option maxRecDepth 65536 in
set_option maxHeartbeats 40000000 in
theorem own_pci (l : Launch) (Z : State) (a0 : Array Value) (hw : ∀ d ∈ tables_1, d.before a0 Z = true) (i : Int32) (n : Int32) (h0 : Heap) (n0 : Nat) (z0 : n0 ≤ h0.size) (hi : ¬ i < 0 ∧ i < n) :
    own_Met l Z (⟨"jdk/internal/util/Preconditions", "checkIndex", "(IILjava/util/function/BiFunction;)I"⟩ : MethodName) jdk_41_method_11_code 3 (some .int) ({ frames := 0, cells := 0, slots := 0, locals := 0 } : Room) n0 #[(.int i), (.int n), .null] h0 (fun v h => v = some (.int i) ∧ h = h0) := by
  refine own_met (by decide +kernel) #[.val (.int i), .val (.int n), .val .null] (fun m => by first | (simp [entryFrame, mkF, argsToLocals, Value.category]; done) | rfl) ?_
  intro p e s m below meth c T0 C S0
  refine own_seg C S0 [(0, .iload_n 0, 1)] (by decide +kernel) 1 #[.val (.int i), .val (.int n), .val .null] [(.int i)] rfl ?_
  refine own_if C S0 (q := .lt) (o := 8) (by decide +kernel) 9 (by decide) (by decide) (fun (hq : i < (0 : Int32)) => False.elim (hi.1 hq)) (fun (q566 : ¬ i < (0 : Int32)) => ?_)
  refine own_seg C S0 [(4, .iload_n 0, 1), (5, .iload_n 1, 1)] (by decide +kernel) 6 #[.val (.int i), .val (.int n), .val .null] [(.int n), (.int i)] rfl ?_
  refine own_icmp C S0 (q := .lt) (o := 10) (by decide +kernel) 16 (by decide) (by decide) (fun (q567 : i < n) => ?_) (fun (hq : ¬ i < n) => False.elim (hq hi.2))
  refine own_seg C S0 [(16, .iload_n 0, 1)] (by decide +kernel) 17 #[.val (.int i), .val (.int n), .val .null] [(.int i)] rfl ?_
  refine own_retI C S0 (by decide +kernel) (by decide) (by decide) ?_
  exact ⟨rfl, rfl⟩
theorem own_pd19 : parseMethodDescriptor "(IILjava/util/function/BiFunction;)I" = some ⟨[.int, .int, (.object "java/util/function/BiFunction")], (some .int)⟩ := by decide +kernel
set_option maxRecDepth 65536 in
set_option maxHeartbeats 40000000 in
theorem own_oci (l : Launch) (Z : State) (a0 : Array Value) (hw : ∀ d ∈ tables_1, d.before a0 Z = true) (i : Int32) (n : Int32) (h0 : Heap) (n0 : Nat) (z0 : n0 ≤ h0.size) (hi : ¬ i < 0 ∧ i < n) :
    own_Met l Z (⟨"java/util/Objects", "checkIndex", "(II)I"⟩ : MethodName) jdk_31_method_17_code 2 (some .int) ({ frames := 1, cells := 0, slots := 0, locals := 14 } : Room) n0 #[(.int i), (.int n)] h0 (fun v h => v = some (.int i) ∧ h = h0) := by
  refine own_met (by decide +kernel) #[.val (.int i), .val (.int n)] (fun m => by first | (simp [entryFrame, mkF, argsToLocals, Value.category]; done) | rfl) ?_
  intro p e s m below meth c T0 C S0
  refine own_seg C S0 [(0, .iload_n 0, 1), (1, .iload_n 1, 1), (2, .aconst_null, 1)] (by decide +kernel) 3 #[.val (.int i), .val (.int n)] [.null, (.int n), (.int i)] rfl ?_
  refine own_callS C S0 (own_wd hw 293 rfl) (own_wd hw 294 rfl) (own_wd hw 295 rfl) (own_wd hw 296 rfl) (by decide) (own_Met.pay (own_pci l Z a0 hw i n h0 n0 z0 hi) C 0 (own_wd hw 296 rfl) (own_wd hw 295 rfl) (by decide) (by decide)) (fun _ _ _ q => q.2) [(.int i), (.int n), .null] [] rfl own_pd19 rfl rfl rfl (Nat.le_of_ble_eq_true rfl) (by decide) (by decide) (by decide +kernel) ?_
  rintro T569 h570 v571 L572 S573 ⟨⟨rfl, e568⟩, -⟩
  replace S573 : own_S p l e ({ frames := 1, cells := 0, slots := 0, locals := 14 } : Room) s m #[(.int i), (.int n)] below meth c n0 T569 h570 0 0 := S573
  rw [e568] at S573; clear e568
  show own_Go p e below _ T569 (mkF m 6 #[.val (.int i), .val (.int n)] [(.int i)])
  refine own_retI C S573 (by decide +kernel) (by decide) (by decide) ?_
  exact ⟨rfl, rfl⟩
set_option maxRecDepth 65536 in
set_option maxHeartbeats 40000000 in
theorem own_ed (l : Launch) (Z : State) (a0 : Array Value) (hw : ∀ d ∈ tables_1, d.before a0 Z = true) (L : Addr) (i : Int32) (n : Int32) (d : Addr) (dk : ClassId) (vs : List Value) (y : Addr) (h0 : Heap) (n0 : Nat) (z0 : n0 ≤ h0.size) (LE : Exa Z h0 L "java/util/ArrayList") (Ln : Fld Z h0 L "java/util/ArrayList" "size" "I" (.int n)) (Ld : Fld Z h0 L "java/util/ArrayList" "elementData" "[Ljava/lang/Object;" (.ref d)) (dK : Arv Z h0 d dk (.object "java/lang/Object") (10 : Int32) vs .null) (hi : ¬ i < 0 ∧ i < n) (hin : ¬ i < 0 ∧ i < (10 : Int32)) (hv : vs.getD i.toNatClampNeg .null = .ref y) :
    own_Met l Z (⟨"java/util/ArrayList", "elementData", "(I)Ljava/lang/Object;"⟩ : MethodName) jdk_38_method_18_code 2 (some (.object "java/lang/Object")) ({ frames := 0, cells := 0, slots := 0, locals := 0 } : Room) n0 #[(.ref L), (.int i)] h0 (fun v h => v = some (.ref y) ∧ h = h0) := by
  refine own_met (by decide +kernel) #[.val (.ref L), .val (.int i)] (fun m => by first | (simp [entryFrame, mkF, argsToLocals, Value.category]; done) | rfl) ?_
  intro p e s m below meth c T0 C S0
  refine own_seg C S0 [(0, .aload_n 0, 1)] (by decide +kernel) 1 #[.val (.ref L), .val (.int i)] [(.ref L)] rfl ?_
  refine own_getF C S0 (host := "") (Or.inl (own_wd hw 55 rfl)) Via.refl Ld (by decide +kernel) ?_
  intro T574 S575
  refine own_seg C S575 [(4, .iload_n 1, 1)] (by decide +kernel) 5 #[.val (.ref L), .val (.int i)] [(.int i), (.ref d)] rfl ?_
  refine own_aaload C S575 dK rfl hin (.ref y) hv (by decide +kernel) ?_
  refine own_retA C S575 rfl rfl (by decide +kernel) (by decide) (by decide) ?_
  exact ⟨rfl, rfl⟩
theorem own_pd20 : parseMethodDescriptor "(I)Ljava/lang/Object;" = some ⟨[.int], (some (.object "java/lang/Object"))⟩ := by decide +kernel
set_option maxRecDepth 65536 in
set_option maxHeartbeats 40000000 in
theorem own_alg (l : Launch) (Z : State) (a0 : Array Value) (hw : ∀ d ∈ tables_1, d.before a0 Z = true) (L : Addr) (i : Int32) (n : Int32) (d : Addr) (dk : ClassId) (vs : List Value) (y : Addr) (h0 : Heap) (n0 : Nat) (z0 : n0 ≤ h0.size) (LE : Exa Z h0 L "java/util/ArrayList") (Ln : Fld Z h0 L "java/util/ArrayList" "size" "I" (.int n)) (Ld : Fld Z h0 L "java/util/ArrayList" "elementData" "[Ljava/lang/Object;" (.ref d)) (dK : Arv Z h0 d dk (.object "java/lang/Object") (10 : Int32) vs .null) (hi : ¬ i < 0 ∧ i < n) (hin : ¬ i < 0 ∧ i < (10 : Int32)) (hv : vs.getD i.toNatClampNeg .null = .ref y) :
    own_Met l Z (⟨"java/util/ArrayList", "get", "(I)Ljava/lang/Object;"⟩ : MethodName) jdk_38_method_20_code 2 (some (.object "java/lang/Object")) ({ frames := 2, cells := 0, slots := 0, locals := 27 } : Room) n0 #[(.ref L), (.int i)] h0 (fun v h => v = some (.ref y) ∧ h = h0) := by
  refine own_met (by decide +kernel) #[.val (.ref L), .val (.int i)] (fun m => by first | (simp [entryFrame, mkF, argsToLocals, Value.category]; done) | rfl) ?_
  intro p e s m below meth c T0 C S0
  refine own_seg C S0 [(0, .iload_n 1, 1), (1, .aload_n 0, 1)] (by decide +kernel) 2 #[.val (.ref L), .val (.int i)] [(.ref L), (.int i)] rfl ?_
  refine own_getF C S0 (host := "") (Or.inl (own_wd hw 125 rfl)) Via.refl Ln (by decide +kernel) ?_
  intro T576 S577
  refine own_callS C S577 (own_wd hw 289 rfl) (own_wd hw 290 rfl) (own_wd hw 291 rfl) (own_wd hw 292 rfl) (by decide) (own_Met.pay (own_oci l Z a0 hw i n h0 n0 z0 hi) C 0 (own_wd hw 292 rfl) (own_wd hw 291 rfl) (by decide) (by decide)) (fun _ _ _ q => q.2) [(.int i), (.int n)] [] rfl own_pd8 rfl rfl rfl (Nat.le_of_ble_eq_true rfl) (by decide) (by decide) (by decide +kernel) ?_
  rintro T579 h580 v581 L582 S583 ⟨⟨rfl, e578⟩, -⟩
  replace S583 : own_S p l e ({ frames := 2, cells := 0, slots := 0, locals := 27 } : Room) s m #[(.ref L), (.int i)] below meth c n0 T579 h580 0 0 := S583
  rw [e578] at S583; clear e578
  show own_Go p e below _ T579 (mkF m 8 #[.val (.ref L), .val (.int i)] [(.int i)])
  refine own_seg C S583 [(8, .pop, 1), (9, .aload_n 0, 1), (10, .iload_n 1, 1)] (by decide +kernel) 11 #[.val (.ref L), .val (.int i)] [(.int i), (.ref L)] rfl ?_
  refine own_callV C S583 (own_wd hw 297 rfl) (own_wd hw 298 rfl) (own_wd hw 300 rfl) (y' := ⟨"java/util/ArrayList", "elementData", "(I)Ljava/lang/Object;"⟩) rfl (own_wd hw 300 rfl) (own_wd hw 299 rfl) (by decide) (own_Met.pay (own_ed l Z a0 hw L i n d dk vs y h0 n0 z0 LE Ln Ld dK hi hin hv) C 0 (own_wd hw 301 rfl) (own_wd hw 35 rfl) (by decide) (by decide)) (fun _ _ _ q => q.2) LE [(.int i)] [] rfl own_pd20 rfl rfl rfl (Nat.le_of_ble_eq_true rfl) (by decide) (by decide) (by decide +kernel) ?_
  rintro T585 h586 v587 L588 S589 ⟨⟨rfl, e584⟩, -⟩
  replace S589 : own_S p l e ({ frames := 2, cells := 0, slots := 0, locals := 27 } : Room) s m #[(.ref L), (.int i)] below meth c n0 T585 h586 0 0 := S589
  rw [e584] at S589; clear e584
  show own_Go p e below _ T585 (mkF m 14 #[.val (.ref L), .val (.int i)] [(.ref y)])
  refine own_retA C S589 rfl rfl (by decide +kernel) (by decide) (by decide) ?_
  exact ⟨rfl, rfl⟩
set_option maxRecDepth 65536 in
set_option maxHeartbeats 40000000 in
theorem own_ug (l : Launch) (Z : State) (a0 : Array Value) (hw : ∀ d ∈ tables_1, d.before a0 Z = true) (u : Addr) (L : Addr) (i : Int32) (n : Int32) (d : Addr) (dk : ClassId) (vs : List Value) (y : Addr) (h0 : Heap) (n0 : Nat) (z0 : n0 ≤ h0.size) (uL : Fld Z h0 u "java/util/Collections$UnmodifiableList" "list" "Ljava/util/List;" (.ref L)) (LE : Exa Z h0 L "java/util/ArrayList") (Ln : Fld Z h0 L "java/util/ArrayList" "size" "I" (.int n)) (Ld : Fld Z h0 L "java/util/ArrayList" "elementData" "[Ljava/lang/Object;" (.ref d)) (dK : Arv Z h0 d dk (.object "java/lang/Object") (10 : Int32) vs .null) (hi : ¬ i < 0 ∧ i < n) (hin : ¬ i < 0 ∧ i < (10 : Int32)) (hv : vs.getD i.toNatClampNeg .null = .ref y) :
    own_Met l Z (⟨"java/util/Collections$UnmodifiableList", "get", "(I)Ljava/lang/Object;"⟩ : MethodName) jdk_120_method_4_code 2 (some (.object "java/lang/Object")) ({ frames := 3, cells := 0, slots := 0, locals := 40 } : Room) n0 #[(.ref u), (.int i)] h0 (fun v h => v = some (.ref y) ∧ h = h0) := by
  refine own_met (by decide +kernel) #[.val (.ref u), .val (.int i)] (fun m => by first | (simp [entryFrame, mkF, argsToLocals, Value.category]; done) | rfl) ?_
  intro p e s m below meth c T0 C S0
  refine own_seg C S0 [(0, .aload_n 0, 1)] (by decide +kernel) 1 #[.val (.ref u), .val (.int i)] [(.ref u)] rfl ?_
  refine own_getF C S0 (host := "") (Or.inl (own_wd hw 105 rfl)) Via.refl uL (by decide +kernel) ?_
  intro T590 S591
  refine own_seg C S591 [(4, .iload_n 1, 1)] (by decide +kernel) 5 #[.val (.ref u), .val (.int i)] [(.int i), (.ref L)] rfl ?_
  refine own_callF C S591 (count := 2) (own_wd hw 283 rfl) (own_wd hw 276 rfl) (own_wd hw 277 rfl) rfl (own_wd hw 284 rfl) (own_wd hw 285 rfl) (own_wd hw 286 rfl) (own_wd hw 287 rfl) (own_wd hw 75 rfl) (by decide) (own_Met.pay (own_alg l Z a0 hw L i n d dk vs y h0 n0 z0 LE Ln Ld dK hi hin hv) C 0 (own_wd hw 288 rfl) (own_wd hw 35 rfl) (by decide) (by decide)) (fun _ _ _ q => q.2) LE [(.int i)] [] rfl own_pd20 rfl rfl rfl (Nat.le_of_ble_eq_true rfl) (by decide) (by decide) (by decide +kernel) ?_
  rintro T593 h594 v595 L596 S597 ⟨⟨rfl, e592⟩, -⟩
  replace S597 : own_S p l e ({ frames := 3, cells := 0, slots := 0, locals := 40 } : Room) s m #[(.ref u), (.int i)] below meth c n0 T593 h594 0 0 := S597
  rw [e592] at S597; clear e592
  show own_Go p e below _ T593 (mkF m 10 #[.val (.ref u), .val (.int i)] [(.ref y)])
  refine own_retA C S597 rfl rfl (by decide +kernel) (by decide) (by decide) ?_
  exact ⟨rfl, rfl⟩
set_option maxRecDepth 65536 in
set_option maxHeartbeats 40000000 in
theorem own_gr (l : Launch) (Z : State) (a0 : Array Value) (hw : ∀ d ∈ tables_1, d.before a0 Z = true) (L : Addr) (mc : Int32) (D0 : Addr) (D0k : ClassId) (h0 : Heap) (n0 : Nat) (z0 : n0 ≤ h0.size) (ge_L : n0 ≤ L) (X00 : Old Z n0 h0) (p0 : Exa Z h0 L "java/util/ArrayList") (p1 : Fld Z h0 L "java/util/ArrayList" "elementData" "[Ljava/lang/Object;" (.ref D0)) (p2 : Fld Z h0 L "java/util/ArrayList" "size" "I" (.int (0 : Int32))) (p3 : Fld Z h0 L "java/util/AbstractList" "modCount" "I" (.int mc)) (D0K : Arv Z h0 D0 D0k (.object "java/lang/Object") (0 : Int32) ([]) .null) (OD : Sta Z Z.heap "java/util/ArrayList" "DEFAULTCAPACITY_EMPTY_ELEMENTDATA" "[Ljava/lang/Object;" (.ref D0)) (D0lt : D0 < n0) :
    own_Met l Z (⟨"java/util/ArrayList", "grow", "(I)[Ljava/lang/Object;"⟩ : MethodName) jdk_38_method_6_code 4 (some (.array (.object "java/lang/Object"))) ({ frames := 1, cells := 1, slots := 10, locals := 14 } : Room) n0 #[(.ref L), (.int (1 : Int32))] h0 (fun v h => ∃ d : Addr, ∃ dk : ClassId, v = some (.ref d) ∧ h0.size ≤ d ∧ Keep h0 h [L] ∧ Exa Z h L "java/util/ArrayList" ∧ Fld Z h L "java/util/ArrayList" "elementData" "[Ljava/lang/Object;" (.ref d) ∧ Fld Z h L "java/util/ArrayList" "size" "I" (.int (0 : Int32)) ∧ Fld Z h L "java/util/AbstractList" "modCount" "I" (.int mc) ∧ Arv Z h d dk (.object "java/lang/Object") (10 : Int32) ([.null, .null, .null, .null, .null, .null, .null, .null, .null, .null]) .null ∧ (Ovr Z dk "java/lang/Object")) := by
  refine own_met (by decide +kernel) #[.val (.ref L), .val (.int (1 : Int32)), .unset, .unset] (fun m => by first | (simp [entryFrame, mkF, argsToLocals, Value.category]; done) | rfl) ?_
  intro p e s m below meth c T0 C S0
  refine own_seg C S0 [(0, .aload_n 0, 1)] (by decide +kernel) 1 #[.val (.ref L), .val (.int (1 : Int32)), .unset, .unset] [(.ref L)] rfl ?_
  refine own_getF C S0 (host := "") (Or.inl (own_wd hw 55 rfl)) Via.refl p1 (by decide +kernel) ?_
  intro T598 S599
  refine own_alen C S599 D0K (by decide +kernel) ?_
  refine own_seg C S599 [(5, .istore_n 2, 1), (6, .iload_n 2, 1)] (by decide +kernel) 7 #[.val (.ref L), .val (.int (1 : Int32)), .val (.int (0 : Int32)), .unset] [(.int (0 : Int32))] rfl ?_
  refine own_if C S599 (q := .gt) (o := 13) (by decide +kernel) 20 (by decide) (by decide) (fun (hq : (0 : Int32) < (0 : Int32)) => False.elim (absurd hq (by decide))) (fun (q600 : ¬ (0 : Int32) < (0 : Int32)) => ?_)
  refine own_seg C S599 [(10, .aload_n 0, 1)] (by decide +kernel) 11 #[.val (.ref L), .val (.int (1 : Int32)), .val (.int (0 : Int32)), .unset] [(.ref L)] rfl ?_
  refine own_getF C S599 (host := "") (Or.inl (own_wd hw 55 rfl)) Via.refl p1 (by decide +kernel) ?_
  intro T601 S602
  refine own_getS C S602 (own_wd hw 54 rfl) Via.refl (OD.ext X00.2) (by decide +kernel) ?_
  intro T603 S604
  refine own_acmp C S604 (q := .eq) (o := 28) rfl rfl (by decide +kernel) 45 (by decide) (by decide) (fun (q605 : ((.ref D0) : Value) = (.ref D0)) => ?_) (fun (hq : ¬ ((.ref D0) : Value) = (.ref D0)) => False.elim (hq rfl))
  refine own_seg C S604 [(45, .aload_n 0, 1), (46, .bipush 10, 2), (48, .iload_n 1, 1)] (by decide +kernel) 49 #[.val (.ref L), .val (.int (1 : Int32)), .val (.int (0 : Int32)), .unset] [(.int (1 : Int32)), (.int (10 : Int32)), (.ref L)] rfl ?_
  refine own_callS C S604 (own_wd hw 269 rfl) (own_wd hw 270 rfl) (own_wd hw 241 rfl) (own_wd hw 271 rfl) (by decide) (own_Met.pay (own_max l Z a0 hw (10 : Int32) (1 : Int32) h0 n0 z0) C 1 (own_wd hw 271 rfl) (own_wd hw 241 rfl) (by decide) (by decide)) (fun _ _ _ q => q.2) [(.int (10 : Int32)), (.int (1 : Int32))] [(.ref L)] rfl own_pd8 rfl rfl rfl (Nat.le_of_ble_eq_true rfl) (by decide) (by decide) (by decide +kernel) ?_
  rintro T607 h608 v609 L610 S611 ⟨⟨rfl, e606⟩, -⟩
  replace S611 : own_S p l e ({ frames := 1, cells := 1, slots := 10, locals := 14 } : Room) s m #[(.ref L), (.int (1 : Int32))] below meth c n0 T607 h608 0 0 := S611
  rw [e606] at S611; clear e606
  show own_Go p e below _ T607 (mkF m 52 #[.val (.ref L), .val (.int (1 : Int32)), .val (.int (0 : Int32)), .unset] [(.int (if (10 : Int32) < (1 : Int32) then (1 : Int32) else (10 : Int32))), (.ref L)])
  show own_Go p e below _ T607 (mkF m 52 #[.val (.ref L), .val (.int (1 : Int32)), .val (.int (0 : Int32)), .unset] [(.int (10 : Int32)), (.ref L)])
  refine own_newR C S611 (own_wd hw 272 rfl) (own_wd hw 273 rfl) (by decide +kernel) (by decide) 10 (by decide) (by decide) (by decide) (by decide) ?_
  intro T612 h614 a615 k616 S613 g617 E618 f619 O620
  have f621 : Arv Z h614 a615 k616 (.object "java/lang/Object") (10 : Int32) ([.null, .null, .null, .null, .null, .null, .null, .null, .null, .null]) .null := Arv.pad f619 (pad_rep [] .null 10)
  refine own_seg C S613 [(55, .dup_x1, 1)] (by decide +kernel) 56 #[.val (.ref L), .val (.int (1 : Int32)), .val (.int (0 : Int32)), .unset] [(.ref a615), (.ref L), (.ref a615)] rfl ?_
  have f622 : Fld Z h614 L "java/util/ArrayList" "elementData" "[Ljava/lang/Object;" (.ref D0) := (Fld.ext E618 p1)
  have f623 : Exa Z h614 L "java/util/ArrayList" := (Exa.ext E618 p0)
  refine own_putF C S613 (ty := (.array (.object "java/lang/Object"))) (host := "") (Or.inl (own_wd hw 55 rfl)) Via.refl f622 f623 (Or.inl (own_wd hw 56 rfl)) (own_wd hw 34 rfl) own_fd3 rfl rfl ge_L (by decide +kernel) ?_
  intro T624 h626 S625 W627
  have f628 : Fld Z h626 L "java/util/ArrayList" "elementData" "[Ljava/lang/Object;" (.ref a615) := Fld.same W627 f622
  refine own_retA C S625 rfl rfl (by decide +kernel) (by decide) (by decide) ?_
  have f629 : Exa Z h626 L "java/util/ArrayList" := (Exa.wr W627 f623)
  have f630 : Fld Z h626 L "java/util/ArrayList" "size" "I" (.int (0 : Int32)) := (Fld.other W627 (Fld.ext E618 p2) (Or.inr (own_sn10 hw)))
  have f631 : Fld Z h626 L "java/util/AbstractList" "modCount" "I" (.int mc) := (Fld.other W627 (Fld.ext E618 p3) (Or.inr (own_sn11 hw)))
  have n632 : L ≠ a615 := by rw [g617]; exact Nat.ne_of_lt p0.lt
  have f633 : Arv Z h626 a615 k616 (.object "java/lang/Object") (10 : Int32) ([.null, .null, .null, .null, .null, .null, .null, .null, .null, .null]) .null := (f621.other W627 (Ne.symm n632))
  exact ⟨a615, k616, rfl, (by rw [g617]; exact (Nat.le_refl _)), (((Keep.refl _ _).ext E618).wr W627 (Or.inl (List.mem_of_getElem? (i := 0) rfl))), f629, f628, f630, f631, f633, O620⟩
theorem own_pd21 : parseMethodDescriptor "(I)[Ljava/lang/Object;" = some ⟨[.int], (some (.array (.object "java/lang/Object")))⟩ := by decide +kernel
set_option maxRecDepth 65536 in
set_option maxHeartbeats 40000000 in
theorem own_gr0 (l : Launch) (Z : State) (a0 : Array Value) (hw : ∀ d ∈ tables_1, d.before a0 Z = true) (L : Addr) (mc : Int32) (D0 : Addr) (D0k : ClassId) (h0 : Heap) (n0 : Nat) (z0 : n0 ≤ h0.size) (ge_L : n0 ≤ L) (X00 : Old Z n0 h0) (p0 : Exa Z h0 L "java/util/ArrayList") (p1 : Fld Z h0 L "java/util/ArrayList" "elementData" "[Ljava/lang/Object;" (.ref D0)) (p2 : Fld Z h0 L "java/util/ArrayList" "size" "I" (.int (0 : Int32))) (p3 : Fld Z h0 L "java/util/AbstractList" "modCount" "I" (.int mc)) (D0K : Arv Z h0 D0 D0k (.object "java/lang/Object") (0 : Int32) ([]) .null) (OD : Sta Z Z.heap "java/util/ArrayList" "DEFAULTCAPACITY_EMPTY_ELEMENTDATA" "[Ljava/lang/Object;" (.ref D0)) (D0lt : D0 < n0) :
    own_Met l Z (⟨"java/util/ArrayList", "grow", "()[Ljava/lang/Object;"⟩ : MethodName) jdk_38_method_7_code 1 (some (.array (.object "java/lang/Object"))) ({ frames := 2, cells := 1, slots := 10, locals := 29 } : Room) n0 #[(.ref L)] h0 (fun v h => ∃ d : Addr, ∃ dk : ClassId, v = some (.ref d) ∧ h0.size ≤ d ∧ Keep h0 h [L] ∧ Exa Z h L "java/util/ArrayList" ∧ Fld Z h L "java/util/ArrayList" "elementData" "[Ljava/lang/Object;" (.ref d) ∧ Fld Z h L "java/util/ArrayList" "size" "I" (.int (0 : Int32)) ∧ Fld Z h L "java/util/AbstractList" "modCount" "I" (.int mc) ∧ Arv Z h d dk (.object "java/lang/Object") (10 : Int32) ([.null, .null, .null, .null, .null, .null, .null, .null, .null, .null]) .null ∧ (Ovr Z dk "java/lang/Object")) := by
  refine own_met (by decide +kernel) #[.val (.ref L)] (fun m => by first | (simp [entryFrame, mkF, argsToLocals, Value.category]; done) | rfl) ?_
  intro p e s m below meth c T0 C S0
  refine own_seg C S0 [(0, .aload_n 0, 1), (1, .aload_n 0, 1)] (by decide +kernel) 2 #[.val (.ref L)] [(.ref L), (.ref L)] rfl ?_
  refine own_getF C S0 (host := "") (Or.inl (own_wd hw 125 rfl)) Via.refl p2 (by decide +kernel) ?_
  intro T634 S635
  refine own_seg C S635 [(5, .iconst 1, 1), (6, .iadd, 1)] (by decide +kernel) 7 #[.val (.ref L)] [(.int ((0 : Int32) + (1 : Int32))), (.ref L)] rfl ?_
  show own_Go p e below _ T634 (mkF m 7 #[.val (.ref L)] [(.int (1 : Int32)), (.ref L)])
  refine own_callP C S635 (own_wd hw 264 rfl) (own_wd hw 265 rfl) (own_wd hw 267 rfl) (own_wd hw 266 rfl) (own_wd hw 268 rfl) (by decide) (own_Met.pay (own_gr l Z a0 hw L mc D0 D0k h0 n0 z0 ge_L X00 p0 p1 p2 p3 D0K OD D0lt) C 0 (own_wd hw 268 rfl) (own_wd hw 35 rfl) (by decide) (by decide)) (fun _ _ _ q => q.2) p0 [(.int (1 : Int32))] [] rfl own_pd21 rfl rfl rfl (Nat.le_of_ble_eq_true rfl) (by decide) (by decide) (by decide +kernel) ?_
  rintro T646 h647 v648 L649 S650 ⟨⟨a636, k637, rfl, g638, K639, f640, f641, f642, f643, f644, p645⟩, -⟩
  replace S650 : own_S p l e ({ frames := 2, cells := 1, slots := 10, locals := 29 } : Room) s m #[(.ref L)] below meth c n0 T646 h647 1 10 := S650
  show own_Go p e below _ T646 (mkF m 10 #[.val (.ref L)] [(.ref a636)])
  refine own_retA C S650 rfl rfl (by decide +kernel) (by decide) (by decide) ?_
  exact ⟨a636, k637, rfl, (Nat.le_trans (Nat.le_refl _) g638), ((Keep.refl _ _).trans K639 (allS (Or.inl (List.mem_of_getElem? (i := 0) rfl)) all0)), f640, f641, f642, f643, f644, p645⟩
theorem own_pd22 : parseMethodDescriptor "()[Ljava/lang/Object;" = some ⟨[], (some (.array (.object "java/lang/Object")))⟩ := by decide +kernel
theorem own_sn14 {Z : State} {a0 : Array Value} (hw : ∀ d ∈ tables_1, d.before a0 Z = true) : Jvm.RoadKit.slotOf Z "java/util/ArrayList" "elementData" "[Ljava/lang/Object;" ≠ Jvm.RoadKit.slotOf Z "java/util/ArrayList" "size" "I" := slot_ne (Or.inl (own_wd hw 56 rfl)) (Or.inl (own_wd hw 126 rfl)) (by decide) own_fd3 own_fd2
theorem own_sn15 {Z : State} {a0 : Array Value} (hw : ∀ d ∈ tables_1, d.before a0 Z = true) : Jvm.RoadKit.slotOf Z "java/util/AbstractList" "modCount" "I" ≠ Jvm.RoadKit.slotOf Z "java/util/ArrayList" "size" "I" := slot_ne (Or.inl (own_wd hw 53 rfl)) (Or.inl (own_wd hw 126 rfl)) (by decide) own_fd2 own_fd2
set_option maxRecDepth 65536 in
set_option maxHeartbeats 40000000 in
theorem own_a31 (l : Launch) (Z : State) (a0 : Array Value) (hw : ∀ d ∈ tables_1, d.before a0 Z = true) (L : Addr) (mc : Int32) (D0 : Addr) (D0k : ClassId) (y : Addr) (h0 : Heap) (n0 : Nat) (z0 : n0 ≤ h0.size) (ge_L : n0 ≤ L) (X00 : Old Z n0 h0) (p0 : Exa Z h0 L "java/util/ArrayList") (p1 : Fld Z h0 L "java/util/ArrayList" "elementData" "[Ljava/lang/Object;" (.ref D0)) (p2 : Fld Z h0 L "java/util/ArrayList" "size" "I" (.int (0 : Int32))) (p3 : Fld Z h0 L "java/util/AbstractList" "modCount" "I" (.int mc)) (D0K : Arv Z h0 D0 D0k (.object "java/lang/Object") (0 : Int32) ([]) .null) (yE : Exa Z h0 y "java/lang/String") (OD : Sta Z Z.heap "java/util/ArrayList" "DEFAULTCAPACITY_EMPTY_ELEMENTDATA" "[Ljava/lang/Object;" (.ref D0)) (D0lt : D0 < n0) :
    own_Met l Z (⟨"java/util/ArrayList", "add", "(Ljava/lang/Object;[Ljava/lang/Object;I)V"⟩ : MethodName) jdk_38_method_24_code 4 none ({ frames := 3, cells := 1, slots := 10, locals := 41 } : Room) n0 #[(.ref L), (.ref y), (.ref D0), (.int (0 : Int32))] h0 (fun v h => ∃ d : Addr, ∃ dk : ClassId, v = none ∧ h0.size ≤ d ∧ Keep h0 h [L] ∧ Exa Z h L "java/util/ArrayList" ∧ Fld Z h L "java/util/ArrayList" "elementData" "[Ljava/lang/Object;" (.ref d) ∧ Fld Z h L "java/util/ArrayList" "size" "I" (.int ((0 : Int32) + (1 : Int32))) ∧ Fld Z h L "java/util/AbstractList" "modCount" "I" (.int mc) ∧ Arv Z h d dk (.object "java/lang/Object") (10 : Int32) ([(.ref y), .null, .null, .null, .null, .null, .null, .null, .null, .null]) .null ∧ (Ovr Z dk "java/lang/Object")) := by
  refine own_met (by decide +kernel) #[.val (.ref L), .val (.ref y), .val (.ref D0), .val (.int (0 : Int32))] (fun m => by first | (simp [entryFrame, mkF, argsToLocals, Value.category]; done) | rfl) ?_
  intro p e s m below meth c T0 C S0
  refine own_seg C S0 [(0, .iload_n 3, 1), (1, .aload_n 2, 1)] (by decide +kernel) 2 #[.val (.ref L), .val (.ref y), .val (.ref D0), .val (.int (0 : Int32))] [(.ref D0), (.int (0 : Int32))] rfl ?_
  refine own_alen C S0 D0K (by decide +kernel) ?_
  refine own_icmp C S0 (q := .ne) (o := 8) (by decide +kernel) 11 (by decide) (by decide) (fun (hq : ¬ (0 : Int32) = (0 : Int32)) => False.elim (absurd rfl hq)) (fun (q651 : (0 : Int32) = (0 : Int32)) => ?_)
  refine own_seg C S0 [(6, .aload_n 0, 1)] (by decide +kernel) 7 #[.val (.ref L), .val (.ref y), .val (.ref D0), .val (.int (0 : Int32))] [(.ref L)] rfl ?_
  refine own_callP C S0 (own_wd hw 259 rfl) (own_wd hw 260 rfl) (own_wd hw 262 rfl) (own_wd hw 261 rfl) (own_wd hw 263 rfl) (by decide) (own_Met.pay (own_gr0 l Z a0 hw L mc D0 D0k h0 n0 z0 ge_L X00 p0 p1 p2 p3 D0K OD D0lt) C 0 (own_wd hw 263 rfl) (own_wd hw 35 rfl) (by decide) (by decide)) (fun _ _ _ q => q.2) p0 [] [] rfl own_pd22 rfl rfl rfl (Nat.le_of_ble_eq_true rfl) (by decide) (by decide) (by decide +kernel) ?_
  rintro T662 h663 v664 L665 S666 ⟨⟨a652, k653, rfl, g654, K655, f656, f657, f658, f659, f660, p661⟩, -⟩
  replace S666 : own_S p l e ({ frames := 3, cells := 1, slots := 10, locals := 41 } : Room) s m #[(.ref L), (.ref y), (.ref D0), (.int (0 : Int32))] below meth c n0 T662 h663 1 10 := S666
  show own_Go p e below _ T662 (mkF m 10 #[.val (.ref L), .val (.ref y), .val (.ref D0), .val (.int (0 : Int32))] [(.ref a652)])
  refine own_seg C S666 [(10, .astore_n 2, 1), (11, .aload_n 2, 1), (12, .iload_n 3, 1), (13, .aload_n 1, 1)] (by decide +kernel) 14 #[.val (.ref L), .val (.ref y), .val (.ref a652), .val (.int (0 : Int32))] [(.ref y), (.int (0 : Int32)), (.ref a652)] rfl ?_
  have g667 : n0 ≤ a652 := Nat.le_trans z0 g654
  have f668 : Exa Z h663 y "java/lang/String" := (yE.keep K655)
  refine own_aastore C S666 f660 p661 (Ins.of_exa f668 (own_wd hw 274 rfl)) ⟨(by decide), (by decide)⟩ 0 rfl (Nat.le_of_ble_eq_true rfl) g667 (by decide +kernel) ?_
  intro T669 h671 S670 W672 f673
  have f674 : Arv Z h671 a652 k653 (.object "java/lang/Object") (10 : Int32) ([(.ref y), .null, .null, .null, .null, .null, .null, .null, .null, .null]) .null := f673
  refine own_seg C S670 [(15, .aload_n 0, 1), (16, .iload_n 3, 1), (17, .iconst 1, 1), (18, .iadd, 1)] (by decide +kernel) 19 #[.val (.ref L), .val (.ref y), .val (.ref a652), .val (.int (0 : Int32))] [(.int ((0 : Int32) + (1 : Int32))), (.ref L)] rfl ?_
  have n675 : L ≠ a652 := Nat.ne_of_lt (Nat.lt_of_lt_of_le p1.lt g654)
  have f676 : Fld Z h671 L "java/util/ArrayList" "size" "I" (.int (0 : Int32)) := (Fld.other W672 f658 (Or.inl n675))
  have f677 : Exa Z h671 L "java/util/ArrayList" := (Exa.wr W672 f656)
  refine own_putF C S670 (ty := .int) (host := "") (Or.inl (own_wd hw 125 rfl)) Via.refl f676 f677 (Or.inl (own_wd hw 126 rfl)) (own_wd hw 34 rfl) own_fd2 rfl rfl ge_L (by decide +kernel) ?_
  intro T678 h680 S679 W681
  have f682 : Fld Z h680 L "java/util/ArrayList" "size" "I" (.int ((0 : Int32) + (1 : Int32))) := Fld.same W681 f676
  refine own_retV C S679 (by decide +kernel) (by decide) (by decide) ?_
  have f683 : Exa Z h680 L "java/util/ArrayList" := (Exa.wr W681 f677)
  have f684 : Fld Z h680 L "java/util/ArrayList" "elementData" "[Ljava/lang/Object;" (.ref a652) := (Fld.other W681 (Fld.other W672 f657 (Or.inl n675)) (Or.inr (own_sn14 hw)))
  have f685 : Fld Z h680 L "java/util/AbstractList" "modCount" "I" (.int mc) := (Fld.other W681 (Fld.other W672 f659 (Or.inl n675)) (Or.inr (own_sn15 hw)))
  have f686 : Arv Z h680 a652 k653 (.object "java/lang/Object") (10 : Int32) ([(.ref y), .null, .null, .null, .null, .null, .null, .null, .null, .null]) .null := (f674.other W681 (Ne.symm n675))
  exact ⟨a652, k653, rfl, (Nat.le_trans (Nat.le_refl _) g654), ((((Keep.refl _ _).trans K655 (allS (Or.inl (List.mem_of_getElem? (i := 0) rfl)) all0)).wr W672 (Or.inr (Nat.le_trans (Nat.le_refl _) g654))).wr W681 (Or.inl (List.mem_of_getElem? (i := 0) rfl))), f683, f684, f682, f685, f686, p661⟩
theorem own_pd23 : parseMethodDescriptor "(Ljava/lang/Object;[Ljava/lang/Object;I)V" = some ⟨[(.object "java/lang/Object"), (.array (.object "java/lang/Object")), .int], none⟩ := by decide +kernel
set_option maxRecDepth 65536 in
set_option maxHeartbeats 40000000 in
theorem own_a11 (l : Launch) (Z : State) (a0 : Array Value) (hw : ∀ d ∈ tables_1, d.before a0 Z = true) (L : Addr) (mc : Int32) (D0 : Addr) (D0k : ClassId) (y : Addr) (h0 : Heap) (n0 : Nat) (z0 : n0 ≤ h0.size) (ge_L : n0 ≤ L) (X00 : Old Z n0 h0) (p0 : Exa Z h0 L "java/util/ArrayList") (p1 : Fld Z h0 L "java/util/ArrayList" "elementData" "[Ljava/lang/Object;" (.ref D0)) (p2 : Fld Z h0 L "java/util/ArrayList" "size" "I" (.int (0 : Int32))) (p3 : Fld Z h0 L "java/util/AbstractList" "modCount" "I" (.int mc)) (D0K : Arv Z h0 D0 D0k (.object "java/lang/Object") (0 : Int32) ([]) .null) (yE : Exa Z h0 y "java/lang/String") (OD : Sta Z Z.heap "java/util/ArrayList" "DEFAULTCAPACITY_EMPTY_ELEMENTDATA" "[Ljava/lang/Object;" (.ref D0)) (D0lt : D0 < n0) :
    own_Met l Z (⟨"java/util/ArrayList", "add", "(Ljava/lang/Object;)Z"⟩ : MethodName) jdk_38_method_25_code 2 (some .boolean) ({ frames := 4, cells := 1, slots := 10, locals := 56 } : Room) n0 #[(.ref L), (.ref y)] h0 (fun v h => ∃ d : Addr, ∃ dk : ClassId, v = some (.int (1 : Int32)) ∧ h0.size ≤ d ∧ Keep h0 h [L] ∧ Exa Z h L "java/util/ArrayList" ∧ Fld Z h L "java/util/ArrayList" "elementData" "[Ljava/lang/Object;" (.ref d) ∧ Fld Z h L "java/util/ArrayList" "size" "I" (.int ((0 : Int32) + (1 : Int32))) ∧ Fld Z h L "java/util/AbstractList" "modCount" "I" (.int (mc + (1 : Int32))) ∧ Arv Z h d dk (.object "java/lang/Object") (10 : Int32) ([(.ref y), .null, .null, .null, .null, .null, .null, .null, .null, .null]) .null ∧ (Ovr Z dk "java/lang/Object")) := by
  refine own_met (by decide +kernel) #[.val (.ref L), .val (.ref y)] (fun m => by first | (simp [entryFrame, mkF, argsToLocals, Value.category]; done) | rfl) ?_
  intro p e s m below meth c T0 C S0
  refine own_seg C S0 [(0, .aload_n 0, 1), (1, .dup, 1)] (by decide +kernel) 2 #[.val (.ref L), .val (.ref y)] [(.ref L), (.ref L)] rfl ?_
  refine own_getF C S0 (host := "") (Or.inl (own_wd hw 252 rfl)) (Via.of (own_wd hw 253 rfl)) p3 (by decide +kernel) ?_
  intro T687 S688
  refine own_seg C S688 [(5, .iconst 1, 1), (6, .iadd, 1)] (by decide +kernel) 7 #[.val (.ref L), .val (.ref y)] [(.int (mc + (1 : Int32))), (.ref L)] rfl ?_
  refine own_putF C S688 (ty := .int) (host := "") (Or.inl (own_wd hw 252 rfl)) (Via.of (own_wd hw 253 rfl)) p3 p0 (Or.inl (own_wd hw 53 rfl)) (own_wd hw 34 rfl) own_fd2 rfl rfl ge_L (by decide +kernel) ?_
  intro T689 h691 S690 W692
  have f693 : Fld Z h691 L "java/util/AbstractList" "modCount" "I" (.int (mc + (1 : Int32))) := Fld.same W692 p3
  refine own_seg C S690 [(10, .aload_n 0, 1), (11, .aload_n 1, 1), (12, .aload_n 0, 1)] (by decide +kernel) 13 #[.val (.ref L), .val (.ref y)] [(.ref L), (.ref y), (.ref L)] rfl ?_
  have f694 : Fld Z h691 L "java/util/ArrayList" "elementData" "[Ljava/lang/Object;" (.ref D0) := (Fld.other W692 p1 (Or.inr (own_sn8 hw)))
  refine own_getF C S690 (host := "") (Or.inl (own_wd hw 55 rfl)) Via.refl f694 (by decide +kernel) ?_
  intro T695 S696
  refine own_seg C S696 [(16, .aload_n 0, 1)] (by decide +kernel) 17 #[.val (.ref L), .val (.ref y)] [(.ref L), (.ref D0), (.ref y), (.ref L)] rfl ?_
  have f697 : Fld Z h691 L "java/util/ArrayList" "size" "I" (.int (0 : Int32)) := (Fld.other W692 p2 (Or.inr (own_sn9 hw)))
  refine own_getF C S696 (host := "") (Or.inl (own_wd hw 125 rfl)) Via.refl f697 (by decide +kernel) ?_
  intro T698 S699
  have f700 : Old Z n0 h691 := (X00.wr W692 ge_L)
  have f701 : Exa Z h691 L "java/util/ArrayList" := (Exa.wr W692 p0)
  have f702 : Arv Z h691 D0 D0k (.object "java/lang/Object") (0 : Int32) ([]) .null := (D0K.other W692 (Nat.ne_of_lt (Nat.lt_of_lt_of_le D0lt ge_L)))
  have f703 : Exa Z h691 y "java/lang/String" := (Exa.wr W692 yE)
  have f704 : n0 ≤ h691.size := (by rw [W692.size]; exact z0)
  refine own_callP C S699 (own_wd hw 254 rfl) (own_wd hw 255 rfl) (own_wd hw 257 rfl) (own_wd hw 256 rfl) (own_wd hw 258 rfl) (by decide) (own_Met.pay (own_a31 l Z a0 hw L (mc + (1 : Int32)) D0 D0k y h691 n0 f704 ge_L f700 f701 f694 f697 f693 f702 f703 OD D0lt) C 0 (own_wd hw 258 rfl) (own_wd hw 35 rfl) (by decide) (by decide)) (fun _ _ _ q => q.2) f701 [(.ref y), (.ref D0), (.int (0 : Int32))] [] rfl own_pd23 rfl rfl rfl (Nat.le_of_ble_eq_true rfl) (by decide) (by decide) (by decide +kernel) ?_
  rintro T715 h716 v717 L718 S719 ⟨⟨a705, k706, rfl, g707, K708, f709, f710, f711, f712, f713, p714⟩, -⟩
  replace S719 : own_S p l e ({ frames := 4, cells := 1, slots := 10, locals := 56 } : Room) s m #[(.ref L), (.ref y)] below meth c n0 T715 h716 1 10 := S719
  show own_Go p e below _ T715 (mkF m 23 #[.val (.ref L), .val (.ref y)] [])
  refine own_seg C S719 [(23, .iconst 1, 1)] (by decide +kernel) 24 #[.val (.ref L), .val (.ref y)] [(.int (1 : Int32))] rfl ?_
  refine own_retZ C S719 (by decide +kernel) (by decide) (by decide) (by decide) ?_
  exact ⟨a705, k706, rfl, (Nat.le_trans (by rw [W692.size]; exact (Nat.le_refl _)) g707), (((Keep.refl _ _).wr W692 (Or.inl (List.mem_of_getElem? (i := 0) rfl))).trans K708 (allS (Or.inl (List.mem_of_getElem? (i := 0) rfl)) all0)), f709, f710, f711, f712, f713, p714⟩
set_option maxRecDepth 65536 in
set_option maxHeartbeats 40000000 in
theorem own_a32 (l : Launch) (Z : State) (a0 : Array Value) (hw : ∀ d ∈ tables_1, d.before a0 Z = true) (L : Addr) (mc : Int32) (d : Addr) (dk : ClassId) (z : Addr) (y : Addr) (h0 : Heap) (n0 : Nat) (z0 : n0 ≤ h0.size) (ge_L : n0 ≤ L) (ge_d : n0 ≤ d) (p0 : Exa Z h0 L "java/util/ArrayList") (p1 : Fld Z h0 L "java/util/ArrayList" "elementData" "[Ljava/lang/Object;" (.ref d)) (p2 : Fld Z h0 L "java/util/ArrayList" "size" "I" (.int ((0 : Int32) + (1 : Int32)))) (p3 : Fld Z h0 L "java/util/AbstractList" "modCount" "I" (.int mc)) (dK : Arv Z h0 d dk (.object "java/lang/Object") (10 : Int32) ([(.ref z), .null, .null, .null, .null, .null, .null, .null, .null, .null]) .null) (yE : Exa Z h0 y "java/lang/String") (ne_d_L : d ≠ L) (ov : Ovr Z dk "java/lang/Object") :
    own_Met l Z (⟨"java/util/ArrayList", "add", "(Ljava/lang/Object;[Ljava/lang/Object;I)V"⟩ : MethodName) jdk_38_method_24_code 4 none ({ frames := 0, cells := 0, slots := 0, locals := 0 } : Room) n0 #[(.ref L), (.ref y), (.ref d), (.int ((0 : Int32) + (1 : Int32)))] h0 (fun v h => v = none ∧ Keep h0 h [L, d] ∧ Exa Z h L "java/util/ArrayList" ∧ Fld Z h L "java/util/ArrayList" "elementData" "[Ljava/lang/Object;" (.ref d) ∧ Fld Z h L "java/util/ArrayList" "size" "I" (.int (((0 : Int32) + (1 : Int32)) + (1 : Int32))) ∧ Fld Z h L "java/util/AbstractList" "modCount" "I" (.int mc) ∧ Arv Z h d dk (.object "java/lang/Object") (10 : Int32) ([(.ref z), (.ref y), .null, .null, .null, .null, .null, .null, .null, .null]) .null) := by
  refine own_met (by decide +kernel) #[.val (.ref L), .val (.ref y), .val (.ref d), .val (.int ((0 : Int32) + (1 : Int32)))] (fun m => by first | (simp [entryFrame, mkF, argsToLocals, Value.category]; done) | rfl) ?_
  intro p e s m below meth c T0 C S0
  refine own_seg C S0 [(0, .iload_n 3, 1), (1, .aload_n 2, 1)] (by decide +kernel) 2 #[.val (.ref L), .val (.ref y), .val (.ref d), .val (.int ((0 : Int32) + (1 : Int32)))] [(.ref d), (.int ((0 : Int32) + (1 : Int32)))] rfl ?_
  refine own_alen C S0 dK (by decide +kernel) ?_
  refine own_icmp C S0 (q := .ne) (o := 8) (by decide +kernel) 11 (by decide) (by decide) (fun (q720 : ¬ ((0 : Int32) + (1 : Int32)) = (10 : Int32)) => ?_) (fun (hq : ((0 : Int32) + (1 : Int32)) = (10 : Int32)) => False.elim (absurd hq (by decide)))
  refine own_seg C S0 [(11, .aload_n 2, 1), (12, .iload_n 3, 1), (13, .aload_n 1, 1)] (by decide +kernel) 14 #[.val (.ref L), .val (.ref y), .val (.ref d), .val (.int ((0 : Int32) + (1 : Int32)))] [(.ref y), (.int ((0 : Int32) + (1 : Int32))), (.ref d)] rfl ?_
  refine own_aastore C S0 dK ov (Ins.of_exa yE (own_wd hw 274 rfl)) ⟨(by decide), (by decide)⟩ 1 rfl (Nat.le_of_ble_eq_true rfl) ge_d (by decide +kernel) ?_
  intro T721 h723 S722 W724 f725
  have f726 : Arv Z h723 d dk (.object "java/lang/Object") (10 : Int32) ([(.ref z), (.ref y), .null, .null, .null, .null, .null, .null, .null, .null]) .null := f725
  refine own_seg C S722 [(15, .aload_n 0, 1), (16, .iload_n 3, 1), (17, .iconst 1, 1), (18, .iadd, 1)] (by decide +kernel) 19 #[.val (.ref L), .val (.ref y), .val (.ref d), .val (.int ((0 : Int32) + (1 : Int32)))] [(.int (((0 : Int32) + (1 : Int32)) + (1 : Int32))), (.ref L)] rfl ?_
  have f727 : Fld Z h723 L "java/util/ArrayList" "size" "I" (.int ((0 : Int32) + (1 : Int32))) := (Fld.other W724 p2 (Or.inl (Ne.symm ne_d_L)))
  have f728 : Exa Z h723 L "java/util/ArrayList" := (Exa.wr W724 p0)
  refine own_putF C S722 (ty := .int) (host := "") (Or.inl (own_wd hw 125 rfl)) Via.refl f727 f728 (Or.inl (own_wd hw 126 rfl)) (own_wd hw 34 rfl) own_fd2 rfl rfl ge_L (by decide +kernel) ?_
  intro T729 h731 S730 W732
  have f733 : Fld Z h731 L "java/util/ArrayList" "size" "I" (.int (((0 : Int32) + (1 : Int32)) + (1 : Int32))) := Fld.same W732 f727
  refine own_retV C S730 (by decide +kernel) (by decide) (by decide) ?_
  have f734 : Exa Z h731 L "java/util/ArrayList" := (Exa.wr W732 f728)
  have f735 : Fld Z h731 L "java/util/ArrayList" "elementData" "[Ljava/lang/Object;" (.ref d) := (Fld.other W732 (Fld.other W724 p1 (Or.inl (Ne.symm ne_d_L))) (Or.inr (own_sn14 hw)))
  have f736 : Fld Z h731 L "java/util/AbstractList" "modCount" "I" (.int mc) := (Fld.other W732 (Fld.other W724 p3 (Or.inl (Ne.symm ne_d_L))) (Or.inr (own_sn15 hw)))
  have f737 : Arv Z h731 d dk (.object "java/lang/Object") (10 : Int32) ([(.ref z), (.ref y), .null, .null, .null, .null, .null, .null, .null, .null]) .null := (f726.other W732 ne_d_L)
  exact ⟨rfl, (((Keep.refl _ _).wr W724 (Or.inl (List.mem_of_getElem? (i := 1) rfl))).wr W732 (Or.inl (List.mem_of_getElem? (i := 0) rfl))), f734, f735, f733, f736, f737⟩
set_option maxRecDepth 65536 in
set_option maxHeartbeats 40000000 in
theorem own_a12 (l : Launch) (Z : State) (a0 : Array Value) (hw : ∀ d ∈ tables_1, d.before a0 Z = true) (L : Addr) (mc : Int32) (d : Addr) (dk : ClassId) (z : Addr) (y : Addr) (h0 : Heap) (n0 : Nat) (z0 : n0 ≤ h0.size) (ge_L : n0 ≤ L) (ge_d : n0 ≤ d) (p0 : Exa Z h0 L "java/util/ArrayList") (p1 : Fld Z h0 L "java/util/ArrayList" "elementData" "[Ljava/lang/Object;" (.ref d)) (p2 : Fld Z h0 L "java/util/ArrayList" "size" "I" (.int ((0 : Int32) + (1 : Int32)))) (p3 : Fld Z h0 L "java/util/AbstractList" "modCount" "I" (.int mc)) (dK : Arv Z h0 d dk (.object "java/lang/Object") (10 : Int32) ([(.ref z), .null, .null, .null, .null, .null, .null, .null, .null, .null]) .null) (yE : Exa Z h0 y "java/lang/String") (ne_d_L : d ≠ L) (ov : Ovr Z dk "java/lang/Object") :
    own_Met l Z (⟨"java/util/ArrayList", "add", "(Ljava/lang/Object;)Z"⟩ : MethodName) jdk_38_method_25_code 2 (some .boolean) ({ frames := 1, cells := 0, slots := 0, locals := 15 } : Room) n0 #[(.ref L), (.ref y)] h0 (fun v h => v = some (.int (1 : Int32)) ∧ Keep h0 h [L, d] ∧ Exa Z h L "java/util/ArrayList" ∧ Fld Z h L "java/util/ArrayList" "elementData" "[Ljava/lang/Object;" (.ref d) ∧ Fld Z h L "java/util/ArrayList" "size" "I" (.int (((0 : Int32) + (1 : Int32)) + (1 : Int32))) ∧ Fld Z h L "java/util/AbstractList" "modCount" "I" (.int (mc + (1 : Int32))) ∧ Arv Z h d dk (.object "java/lang/Object") (10 : Int32) ([(.ref z), (.ref y), .null, .null, .null, .null, .null, .null, .null, .null]) .null) := by
  refine own_met (by decide +kernel) #[.val (.ref L), .val (.ref y)] (fun m => by first | (simp [entryFrame, mkF, argsToLocals, Value.category]; done) | rfl) ?_
  intro p e s m below meth c T0 C S0
  refine own_seg C S0 [(0, .aload_n 0, 1), (1, .dup, 1)] (by decide +kernel) 2 #[.val (.ref L), .val (.ref y)] [(.ref L), (.ref L)] rfl ?_
  refine own_getF C S0 (host := "") (Or.inl (own_wd hw 252 rfl)) (Via.of (own_wd hw 253 rfl)) p3 (by decide +kernel) ?_
  intro T738 S739
  refine own_seg C S739 [(5, .iconst 1, 1), (6, .iadd, 1)] (by decide +kernel) 7 #[.val (.ref L), .val (.ref y)] [(.int (mc + (1 : Int32))), (.ref L)] rfl ?_
  refine own_putF C S739 (ty := .int) (host := "") (Or.inl (own_wd hw 252 rfl)) (Via.of (own_wd hw 253 rfl)) p3 p0 (Or.inl (own_wd hw 53 rfl)) (own_wd hw 34 rfl) own_fd2 rfl rfl ge_L (by decide +kernel) ?_
  intro T740 h742 S741 W743
  have f744 : Fld Z h742 L "java/util/AbstractList" "modCount" "I" (.int (mc + (1 : Int32))) := Fld.same W743 p3
  refine own_seg C S741 [(10, .aload_n 0, 1), (11, .aload_n 1, 1), (12, .aload_n 0, 1)] (by decide +kernel) 13 #[.val (.ref L), .val (.ref y)] [(.ref L), (.ref y), (.ref L)] rfl ?_
  have f745 : Fld Z h742 L "java/util/ArrayList" "elementData" "[Ljava/lang/Object;" (.ref d) := (Fld.other W743 p1 (Or.inr (own_sn8 hw)))
  refine own_getF C S741 (host := "") (Or.inl (own_wd hw 55 rfl)) Via.refl f745 (by decide +kernel) ?_
  intro T746 S747
  refine own_seg C S747 [(16, .aload_n 0, 1)] (by decide +kernel) 17 #[.val (.ref L), .val (.ref y)] [(.ref L), (.ref d), (.ref y), (.ref L)] rfl ?_
  have f748 : Fld Z h742 L "java/util/ArrayList" "size" "I" (.int ((0 : Int32) + (1 : Int32))) := (Fld.other W743 p2 (Or.inr (own_sn9 hw)))
  refine own_getF C S747 (host := "") (Or.inl (own_wd hw 125 rfl)) Via.refl f748 (by decide +kernel) ?_
  intro T749 S750
  have f751 : Exa Z h742 L "java/util/ArrayList" := (Exa.wr W743 p0)
  have f752 : Arv Z h742 d dk (.object "java/lang/Object") (10 : Int32) ([(.ref z), .null, .null, .null, .null, .null, .null, .null, .null, .null]) .null := (dK.other W743 ne_d_L)
  have f753 : Exa Z h742 y "java/lang/String" := (Exa.wr W743 yE)
  have f754 : n0 ≤ h742.size := (by rw [W743.size]; exact z0)
  refine own_callP C S750 (own_wd hw 254 rfl) (own_wd hw 255 rfl) (own_wd hw 257 rfl) (own_wd hw 256 rfl) (own_wd hw 258 rfl) (by decide) (own_Met.pay (own_a32 l Z a0 hw L (mc + (1 : Int32)) d dk z y h742 n0 f754 ge_L ge_d f751 f745 f748 f744 f752 f753 ne_d_L ov) C 0 (own_wd hw 258 rfl) (own_wd hw 35 rfl) (by decide) (by decide)) (fun _ _ _ q => q.2) f751 [(.ref y), (.ref d), (.int ((0 : Int32) + (1 : Int32)))] [] rfl own_pd23 rfl rfl rfl (Nat.le_of_ble_eq_true rfl) (by decide) (by decide) (by decide +kernel) ?_
  rintro T761 h762 v763 L764 S765 ⟨⟨rfl, K755, f756, f757, f758, f759, f760⟩, -⟩
  replace S765 : own_S p l e ({ frames := 1, cells := 0, slots := 0, locals := 15 } : Room) s m #[(.ref L), (.ref y)] below meth c n0 T761 h762 0 0 := S765
  show own_Go p e below _ T761 (mkF m 23 #[.val (.ref L), .val (.ref y)] [])
  refine own_seg C S765 [(23, .iconst 1, 1)] (by decide +kernel) 24 #[.val (.ref L), .val (.ref y)] [(.int (1 : Int32))] rfl ?_
  refine own_retZ C S765 (by decide +kernel) (by decide) (by decide) (by decide) ?_
  exact ⟨rfl, (((Keep.refl _ _).wr W743 (Or.inl (List.mem_of_getElem? (i := 0) rfl))).trans K755 (allS (Or.inl (List.mem_of_getElem? (i := 0) rfl)) (allS (Or.inl (List.mem_of_getElem? (i := 1) rfl)) all0))), f756, f757, f758, f759, f760⟩
theorem own_pd24 : parseMethodDescriptor "(Ljava/lang/String;)Ljava/lang/StringBuilder;" = some ⟨[(.object "java/lang/String")], (some (.object "java/lang/StringBuilder"))⟩ := by decide +kernel
theorem own_pd25 : parseMethodDescriptor "()Ljava/lang/String;" = some ⟨[], (some (.object "java/lang/String"))⟩ := by decide +kernel
theorem own_pd26 : parseMethodDescriptor "(Ljava/lang/Object;)Z" = some ⟨[(.object "java/lang/Object")], (some .boolean)⟩ := by decide +kernel
set_option maxRecDepth 65536 in
set_option maxHeartbeats 40000000 in
theorem own_ra1 (l : Launch) (Z : State) (a0 : Array Value) (hw : ∀ d ∈ tables_1, d.before a0 Z = true) (hEL : EW Z a0 own_EL) (wS : ∀ a ∈ Bundle.stringAtoms, a.before a0 Z = true) (G1 : Int32) (G3 : Value) (rp : Addr) (L : Addr) (mc : Int32) (D0 : Addr) (D0k : ClassId) (x : Addr) (xt : Addr) (xk : ClassId) (xcs : List Int32) (y : Addr) (yt : Addr) (yk : ClassId) (ycs : List Int32) (h0 : Heap) (n0 : Nat) (z0 : n0 ≤ h0.size) (ge_L : n0 ≤ L) (X00 : Old Z n0 h0) (xE : Exa Z h0 x "java/lang/String") (xV : Fld Z h0 x "java/lang/String" "value" "[B" (.ref xt)) (xC : Fld Z h0 x "java/lang/String" "coder" "B" (.int 0)) (xK : Arv Z h0 xt xk .byte (Int32.ofNat (xcs).length) (own_sv xcs) (.int 0)) (yE : Exa Z h0 y "java/lang/String") (yV : Fld Z h0 y "java/lang/String" "value" "[B" (.ref yt)) (yC : Fld Z h0 y "java/lang/String" "coder" "B" (.int 0)) (yK : Arv Z h0 yt yk .byte (Int32.ofNat (ycs).length) (own_sv ycs) (.int 0)) (pL : Fld Z h0 rp "com/example/reckoner/reckoner/cli/Report" "lines" "Ljava/util/List;" (.ref L)) (p0 : Exa Z h0 L "java/util/ArrayList") (p1 : Fld Z h0 L "java/util/ArrayList" "elementData" "[Ljava/lang/Object;" (.ref D0)) (p2 : Fld Z h0 L "java/util/ArrayList" "size" "I" (.int (0 : Int32))) (p3 : Fld Z h0 L "java/util/AbstractList" "modCount" "I" (.int mc)) (D0K : Arv Z h0 D0 D0k (.object "java/lang/Object") (0 : Int32) ([]) .null) (O2 : Sta Z Z.heap "java/lang/String" "COMPACT_STRINGS" "Z" (.int G1)) (O4 : Sta Z Z.heap "jdk/internal/util/Preconditions" "SIOOBE_FORMATTER" "Ljava/util/function/BiFunction;" G3) (P5 : ¬ G1 = (0 : Int32)) (rG3 : G3.isRef = true) (xhp : ∀ c ∈ xcs, ¬ c < 0 ∧ ¬ (255 : Int32) < c) (xhl : xcs.length ≤ 2) (yhp : ∀ c ∈ ycs, ¬ c < 0 ∧ ¬ (255 : Int32) < c) (yhl : ycs.length ≤ 2) (OD : Sta Z Z.heap "java/util/ArrayList" "DEFAULTCAPACITY_EMPTY_ELEMENTDATA" "[Ljava/lang/Object;" (.ref D0)) (D0lt : D0 < n0) :
    own_MetW l Z own_EL (⟨"com/example/reckoner/reckoner/cli/Report", "add", "(Ljava/lang/String;Ljava/lang/String;)Lcom/example/reckoner/reckoner/cli/Report;"⟩ : MethodName) prog_2_method_2_code 3 (some (.object "com/example/reckoner/reckoner/cli/Report")) ({ frames := 6, cells := 7, slots := 110, locals := 92 } : Room) n0 #[(.ref rp), (.ref x), (.ref y)] h0 [] (fun v h => ∃ zs : Addr, ∃ zt : Addr, ∃ zk : ClassId, ∃ d : Addr, ∃ dk : ClassId, v = some (.ref rp) ∧ h0.size ≤ zs ∧ h0.size ≤ zt ∧ h0.size ≤ d ∧ Keep h0 h [L] ∧ Exa Z h zs "java/lang/String" ∧ Fld Z h zs "java/lang/String" "coder" "B" (.int 0) ∧ Fld Z h zs "java/lang/String" "value" "[B" (.ref zt) ∧ Arv Z h zt zk .byte (Int32.ofNat (((([] : List Int32) ++ xcs) ++ ([58, 32] : List Int32)) ++ ycs).length) (own_sv (((([] : List Int32) ++ xcs) ++ ([58, 32] : List Int32)) ++ ycs)) (.int 0) ∧ Exa Z h L "java/util/ArrayList" ∧ Fld Z h L "java/util/ArrayList" "elementData" "[Ljava/lang/Object;" (.ref d) ∧ Fld Z h L "java/util/ArrayList" "size" "I" (.int ((0 : Int32) + (1 : Int32))) ∧ Fld Z h L "java/util/AbstractList" "modCount" "I" (.int (mc + (1 : Int32))) ∧ Arv Z h d dk (.object "java/lang/Object") (10 : Int32) ([(.ref zs), .null, .null, .null, .null, .null, .null, .null, .null, .null]) .null ∧ (Ovr Z dk "java/lang/Object") ∧ (zs ≠ d) ∧ (zt ≠ d)) := by
  refine own_metW hEL wS (by decide +kernel) #[.val (.ref rp), .val (.ref x), .val (.ref y)] (fun m => by first | (simp [entryFrame, mkF, argsToLocals, Value.category]; done) | rfl) ?_
  intro p e s m below meth c T0 CW SW0
  have SW766 : own_SW p l e ({ frames := 6, cells := 7, slots := 110, locals := 92 } : Room) s m #[(.ref rp), (.ref x), (.ref y)] below meth c n0 Z own_EL "com/example/reckoner/reckoner/cli/Report" T0 h0 [L] 0 0 := SW0.addE p0 (by decide) (by decide)
  refine own_lift CW SW766 ?_
  intro vm767 C S768 rb769
  refine own_seg C S768 [(0, .aload_n 0, 1)] (by decide +kernel) 1 #[.val (.ref rp), .val (.ref x), .val (.ref y)] [(.ref rp)] rfl ?_
  refine own_getF C S768 (host := "") (Or.inl (own_wd hw 57 rfl)) Via.refl pL (by decide +kernel) ?_
  intro T770 S771
  refine own_new C S771 (own_wd hw 132 rfl) (own_wd hw 133 rfl) (own_wd hw 134 rfl) (by decide +kernel) (by decide) (by decide) ?_
  intro T772 h774 a775 S773 g776 E777 x778 D779
  have f780 : Fld Z h774 a775 "java/lang/AbstractStringBuilder" "value" "[B" .null := D779 (ty := (.array .byte)) (Or.inl (own_wd hw 147 rfl)) own_fd0
  have f781 : Fld Z h774 a775 "java/lang/AbstractStringBuilder" "coder" "B" (.int (0 : Int32)) := D779 (ty := .byte) (Or.inl (own_wd hw 149 rfl)) own_fd1
  have f782 : Fld Z h774 a775 "java/lang/AbstractStringBuilder" "count" "I" (.int (0 : Int32)) := D779 (ty := .int) (Or.inl (own_wd hw 172 rfl)) own_fd2
  refine own_seg C S773 [(7, .dup, 1)] (by decide +kernel) 8 #[.val (.ref rp), .val (.ref x), .val (.ref y)] [(.ref a775), (.ref a775), (.ref L)] rfl ?_
  have f783 : Old Z n0 h774 := (X00.ext E777)
  have f784 : n0 ≤ h774.size := (Nat.le_trans z0 E777.1)
  have g785 : n0 ≤ a775 := by rw [g776]; exact z0
  refine own_callI C S773 rfl (own_wd hw 135 rfl) (own_wd hw 136 rfl) (own_wd hw 137 rfl) (by decide) (own_Met.pay (own_sbI l Z a0 hw G1 G3 a775 h774 n0 f784 g785 f783 x778 f780 f781 f782 O2 O4 P5 rG3) C 2 (own_wd hw 137 rfl) (own_wd hw 134 rfl) (by decide) (by decide)) (fun _ _ _ q => q.2) [] [(.ref a775), (.ref L)] rfl own_pd15 rfl rfl rfl (Nat.le_of_ble_eq_true rfl) (by decide) (by decide) (by decide +kernel) ?_
  rintro T795 h796 v797 L798 S799 ⟨⟨a786, k787, rfl, g788, K789, f790, f791, f792, f793, f794⟩, -⟩
  replace S799 : own_S p l e ({ frames := 6, cells := 7, slots := 110, locals := 92 } : Room) (s.setVm vm767) m #[(.ref rp), (.ref x), (.ref y)] below meth c n0 T795 h796 2 20 := S799
  show own_Go p e below _ T795 (mkF m 11 #[.val (.ref rp), .val (.ref x), .val (.ref y)] [(.ref a775), (.ref L)])
  have f800 : Arv Z h796 a786 k787 .byte (16 : Int32) (own_bv ([] : List Int32)) (.int (0 : Int32)) := f794
  have f801 : Fld Z h796 a775 "java/lang/AbstractStringBuilder" "count" "I" (.int (Int32.ofNat ([] : List Int32).length)) := f793
  refine own_seg C S799 [(11, .aload_n 1, 1)] (by decide +kernel) 12 #[.val (.ref rp), .val (.ref x), .val (.ref y)] [(.ref x), (.ref a775), (.ref L)] rfl ?_
  have f802 : Old Z n0 h796 := (f783.keep K789 (allS g785 all0))
  have f803 : Exa Z h796 x "java/lang/String" := ((Exa.ext E777 xE).keep K789)
  have n804 : x ≠ a775 := by rw [g776]; exact Nat.ne_of_lt xE.lt
  have f805 : Fld Z h796 x "java/lang/String" "value" "[B" (.ref xt) := ((Fld.ext E777 xV).keep K789 (ninS n804 nin0))
  have f806 : Fld Z h796 x "java/lang/String" "coder" "B" (.int 0) := ((Fld.ext E777 xC).keep K789 (ninS n804 nin0))
  have n807 : xt ≠ a775 := by rw [g776]; exact Nat.ne_of_lt xK.lt
  have f808 : Arv Z h796 xt xk .byte (Int32.ofNat (xcs).length) (own_sv xcs) (.int 0) := ((xK.ext E777).keep K789 (ninS n807 nin0))
  have f809 : n0 ≤ h796.size := (Nat.le_trans f784 K789.1)
  have g810 : n0 ≤ a786 := Nat.le_trans f784 g788
  have f811 : xt < h774.size := (Nat.lt_of_lt_of_le xK.lt E777.1)
  have n812 : xt ≠ a786 := Nat.ne_of_lt (Nat.lt_of_lt_of_le f811 g788)
  have f813 : x < h774.size := (Nat.lt_of_lt_of_le xE.lt E777.1)
  have n814 : x ≠ a786 := Nat.ne_of_lt (Nat.lt_of_lt_of_le f813 g788)
  have n815 : a775 ≠ a786 := Nat.ne_of_lt (Nat.lt_of_lt_of_le f780.lt g788)
  refine own_callV C S799 (own_wd hw 150 rfl) (own_wd hw 151 rfl) (own_wd hw 153 rfl) (y' := ⟨"java/lang/StringBuilder", "append", "(Ljava/lang/String;)Ljava/lang/StringBuilder;"⟩) rfl (own_wd hw 153 rfl) (own_wd hw 152 rfl) (by decide) (own_Met.pay (own_sbA l Z a0 hw G1 G3 x xt xk (Int32.ofNat (xcs).length) (own_sv xcs) xcs a775 a786 k787 (16 : Int32) (own_bv ([] : List Int32)) (Int32.ofNat ([] : List Int32).length) (own_bv (([] : List Int32) ++ xcs)) h796 n0 f809 g785 g810 f802 f803 f805 f806 f808 f790 f791 f792 f801 f800 n812 n807 n804 n814 (Ne.symm n815) O2 O4 P5 rG3 (own_codG xhp) xhp (Nat.le_trans xhl (by decide)) (own_apH (b := ([] : List Int32)) (x := xcs) (by first | omega | (simp only [List.length_append, List.length_cons, List.length_nil]; omega))) ((own_ofNat_nn (by first | omega | (simp only [List.length_append, List.length_cons, List.length_nil]; omega))).1) ((own_ofNat_nn (by first | omega | (simp only [List.length_append, List.length_cons, List.length_nil]; omega))).1) (own_ap5 (b := ([] : List Int32)) (x := xcs) (by first | omega | (simp only [List.length_append, List.length_cons, List.length_nil]; omega))) (own_apL (b := ([] : List Int32)) (x := xcs) (by first | omega | (simp only [List.length_append, List.length_cons, List.length_nil]; omega))) (own_apU (b := ([] : List Int32)) (x := xcs) (by first | omega | (simp only [List.length_append, List.length_cons, List.length_nil]; omega)))) C 1 (own_wd hw 154 rfl) (own_wd hw 134 rfl) (by decide) (by decide)) (fun _ _ _ q => q.2) f790 [(.ref x)] [(.ref L)] rfl own_pd24 rfl rfl rfl (Nat.le_of_ble_eq_true rfl) (by decide) (by decide) (by decide +kernel) ?_
  rintro T822 h823 v824 L825 S826 ⟨⟨rfl, K816, f817, f818, f819, f820, f821⟩, -⟩
  replace S826 : own_S p l e ({ frames := 6, cells := 7, slots := 110, locals := 92 } : Room) (s.setVm vm767) m #[(.ref rp), (.ref x), (.ref y)] below meth c n0 T822 h823 2 20 := S826
  have f827 : Fld Z h823 a775 "java/lang/AbstractStringBuilder" "count" "I" (.int (Int32.ofNat (([] : List Int32) ++ xcs).length)) := by rw [← own_cntA]; exact f820
  show own_Go p e below _ T822 (mkF m 15 #[.val (.ref rp), .val (.ref x), .val (.ref y)] [(.ref a775), (.ref L)])
  have f828 : a786 < h823.size := (Nat.lt_of_lt_of_le f800.lt K816.1)
  have f829 : a775 < h823.size := (Nat.lt_of_lt_of_le (Nat.lt_of_lt_of_le f780.lt K789.1) K816.1)
  have SW830 : own_SW p l e ({ frames := 6, cells := 7, slots := 110, locals := 92 } : Room) s m #[(.ref rp), (.ref x), (.ref y)] below meth c n0 Z own_EL "com/example/reckoner/reckoner/cli/Report" T822 h823 [a775, a786, L] 2 20 := rb769 _ _ _ _ [] [a775, a786] S826 ((((Keep.refl _ _).ext E777).trans K789 (allS (Or.inr (by rw [g776]; exact (Nat.le_refl _))) all0)).trans K816 (allS (Or.inr (by rw [g776]; exact (Nat.le_refl _))) (allS (Or.inr (Nat.le_trans (Nat.le_trans (Nat.le_refl _) E777.1) g788)) all0))) all0 (allS ⟨(by rw [g776]; exact (Nat.le_refl _)), f829⟩ (allS ⟨(Nat.le_trans (Nat.le_trans (Nat.le_refl _) E777.1) g788), f828⟩ all0))
  refine own_ldcW CW SW830 (own_wd hw 198 rfl) (List.mem_of_getElem? (i := 0) rfl) (z := (2 : Int32)) (vs := [(.int (58 : Int32)), (.int (32 : Int32))]) ⟨by decide, by decide⟩ (by decide) rfl (by decide +kernel) 8 (by decide) (by decide) (by decide) (by decide) ?_
  intro T831 h832 a833 b834 k835 SW836 E837 x838 f839 f840 f841 ne842
  have hp843 : ∀ c ∈ ([58, 32] : List Int32), ¬ c < 0 ∧ ¬ (255 : Int32) < c := by decide
  have hcd844 : StrChars.Road.CodA ([58, 32] : List Int32) 0 (2 : Int32) [(.int (58 : Int32)), (.int (32 : Int32))] := StrChars.Road.codOf (cs := ([58, 32] : List Int32)) (n := 2) rfl (fun c hc => (hp843 c hc).2)
  have f845 : Arv Z h832 b834 k835 .byte (Int32.ofNat (([58, 32] : List Int32)).length) (own_sv ([58, 32] : List Int32)) (.int 0) := f841
  have f846 : Old Z n0 h832 := ((f802.keep K816 (allS g785 (allS g810 all0))).ext E837)
  have f847 : Exa Z h832 a775 "java/lang/StringBuilder" := (Exa.ext E837 f817)
  have f848 : Fld Z h832 a775 "java/lang/AbstractStringBuilder" "value" "[B" (.ref a786) := (Fld.ext E837 f818)
  have f849 : Fld Z h832 a775 "java/lang/AbstractStringBuilder" "coder" "B" (.int (0 : Int32)) := (Fld.ext E837 f819)
  have f850 : Fld Z h832 a775 "java/lang/AbstractStringBuilder" "count" "I" (.int (Int32.ofNat (([] : List Int32) ++ xcs).length)) := (Fld.ext E837 f827)
  have f851 : Arv Z h832 a786 k787 .byte (16 : Int32) (own_bv (([] : List Int32) ++ xcs)) (.int (0 : Int32)) := (f821.ext E837)
  have f852 : n0 ≤ h832.size := (Nat.le_trans (Nat.le_trans f809 K816.1) E837.1)
  refine own_lift CW SW836 ?_
  intro vm864 C S865 rb866
  refine own_callV C S865 (own_wd hw 150 rfl) (own_wd hw 151 rfl) (own_wd hw 153 rfl) (y' := ⟨"java/lang/StringBuilder", "append", "(Ljava/lang/String;)Ljava/lang/StringBuilder;"⟩) rfl (own_wd hw 153 rfl) (own_wd hw 152 rfl) (by decide) (own_Met.pay (own_sbA l Z a0 hw G1 G3 a833 b834 k835 (Int32.ofNat (([58, 32] : List Int32)).length) (own_sv ([58, 32] : List Int32)) ([58, 32] : List Int32) a775 a786 k787 (16 : Int32) (own_bv (([] : List Int32) ++ xcs)) (Int32.ofNat (([] : List Int32) ++ xcs).length) (own_bv ((([] : List Int32) ++ xcs) ++ ([58, 32] : List Int32))) h832 n0 f852 g785 g810 f846 x838 f840 f839 f845 f847 f848 f849 f850 f851 (Ne.symm (ne842 a786 (List.mem_of_getElem? (i := 1) rfl)).2) (Ne.symm (ne842 a775 (List.mem_of_getElem? (i := 0) rfl)).2) (Ne.symm (ne842 a775 (List.mem_of_getElem? (i := 0) rfl)).1) (Ne.symm (ne842 a786 (List.mem_of_getElem? (i := 1) rfl)).1) (Ne.symm n815) O2 O4 P5 rG3 (own_codG hp843) hp843 (Nat.le_of_ble_eq_true rfl) (own_apH (b := (([] : List Int32) ++ xcs)) (x := ([58, 32] : List Int32)) (by first | omega | (simp only [List.length_append, List.length_cons, List.length_nil]; omega))) ((own_ofNat_nn (by first | omega | (simp only [List.length_append, List.length_cons, List.length_nil]; omega))).1) ((own_ofNat_nn (by first | omega | (simp only [List.length_append, List.length_cons, List.length_nil]; omega))).1) (own_ap5 (b := (([] : List Int32) ++ xcs)) (x := ([58, 32] : List Int32)) (by first | omega | (simp only [List.length_append, List.length_cons, List.length_nil]; omega))) (own_apL (b := (([] : List Int32) ++ xcs)) (x := ([58, 32] : List Int32)) (by first | omega | (simp only [List.length_append, List.length_cons, List.length_nil]; omega))) (own_apU (b := (([] : List Int32) ++ xcs)) (x := ([58, 32] : List Int32)) (by first | omega | (simp only [List.length_append, List.length_cons, List.length_nil]; omega)))) C 1 (own_wd hw 154 rfl) (own_wd hw 134 rfl) (by decide) (by decide)) (fun _ _ _ q => q.2) f847 [(.ref a833)] [(.ref L)] rfl own_pd24 rfl rfl rfl (Nat.le_of_ble_eq_true rfl) (by decide) (by decide) (by decide +kernel) ?_
  rintro T859 h860 v861 L862 S863 ⟨⟨rfl, K853, f854, f855, f856, f857, f858⟩, -⟩
  replace S863 : own_S p l e ({ frames := 6, cells := 7, slots := 110, locals := 92 } : Room) (s.setVm vm864) m #[(.ref rp), (.ref x), (.ref y)] below meth c n0 T859 h860 4 32 := S863
  have f867 : Fld Z h860 a775 "java/lang/AbstractStringBuilder" "count" "I" (.int (Int32.ofNat ((([] : List Int32) ++ xcs) ++ ([58, 32] : List Int32)).length)) := by rw [← own_cntA]; exact f857
  show own_Go p e below _ T859 (mkF m 20 #[.val (.ref rp), .val (.ref x), .val (.ref y)] [(.ref a775), (.ref L)])
  refine own_seg C S863 [(20, .aload_n 2, 1)] (by decide +kernel) 21 #[.val (.ref rp), .val (.ref x), .val (.ref y)] [(.ref y), (.ref a775), (.ref L)] rfl ?_
  have f868 : Old Z n0 h860 := (f846.keep K853 (allS g785 (allS g810 all0)))
  have f869 : Exa Z h860 y "java/lang/String" := ((Exa.ext E837 (((Exa.ext E777 yE).keep K789).keep K816)).keep K853)
  have n870 : y ≠ a775 := by rw [g776]; exact Nat.ne_of_lt yE.lt
  have f871 : y < h774.size := (Nat.lt_of_lt_of_le yE.lt E777.1)
  have n872 : y ≠ a786 := Nat.ne_of_lt (Nat.lt_of_lt_of_le f871 g788)
  have f873 : Fld Z h860 y "java/lang/String" "value" "[B" (.ref yt) := ((Fld.ext E837 (((Fld.ext E777 yV).keep K789 (ninS n870 nin0)).keep K816 (ninS n870 (ninS n872 nin0)))).keep K853 (ninS n870 (ninS n872 nin0)))
  have f874 : Fld Z h860 y "java/lang/String" "coder" "B" (.int 0) := ((Fld.ext E837 (((Fld.ext E777 yC).keep K789 (ninS n870 nin0)).keep K816 (ninS n870 (ninS n872 nin0)))).keep K853 (ninS n870 (ninS n872 nin0)))
  have n875 : yt ≠ a775 := by rw [g776]; exact Nat.ne_of_lt yK.lt
  have f876 : yt < h774.size := (Nat.lt_of_lt_of_le yK.lt E777.1)
  have n877 : yt ≠ a786 := Nat.ne_of_lt (Nat.lt_of_lt_of_le f876 g788)
  have f878 : Arv Z h860 yt yk .byte (Int32.ofNat (ycs).length) (own_sv ycs) (.int 0) := (((((yK.ext E777).keep K789 (ninS n875 nin0)).keep K816 (ninS n875 (ninS n877 nin0))).ext E837).keep K853 (ninS n875 (ninS n877 nin0)))
  have f879 : n0 ≤ h860.size := (Nat.le_trans f852 K853.1)
  refine own_callV C S863 (own_wd hw 150 rfl) (own_wd hw 151 rfl) (own_wd hw 153 rfl) (y' := ⟨"java/lang/StringBuilder", "append", "(Ljava/lang/String;)Ljava/lang/StringBuilder;"⟩) rfl (own_wd hw 153 rfl) (own_wd hw 152 rfl) (by decide) (own_Met.pay (own_sbA l Z a0 hw G1 G3 y yt yk (Int32.ofNat (ycs).length) (own_sv ycs) ycs a775 a786 k787 (16 : Int32) (own_bv ((([] : List Int32) ++ xcs) ++ ([58, 32] : List Int32))) (Int32.ofNat ((([] : List Int32) ++ xcs) ++ ([58, 32] : List Int32)).length) (own_bv (((([] : List Int32) ++ xcs) ++ ([58, 32] : List Int32)) ++ ycs)) h860 n0 f879 g785 g810 f868 f869 f873 f874 f878 f854 f855 f856 f867 f858 n877 n875 n870 n872 (Ne.symm n815) O2 O4 P5 rG3 (own_codG yhp) yhp (Nat.le_trans yhl (by decide)) (own_apH (b := ((([] : List Int32) ++ xcs) ++ ([58, 32] : List Int32))) (x := ycs) (by first | omega | (simp only [List.length_append, List.length_cons, List.length_nil]; omega))) ((own_ofNat_nn (by first | omega | (simp only [List.length_append, List.length_cons, List.length_nil]; omega))).1) ((own_ofNat_nn (by first | omega | (simp only [List.length_append, List.length_cons, List.length_nil]; omega))).1) (own_ap5 (b := ((([] : List Int32) ++ xcs) ++ ([58, 32] : List Int32))) (x := ycs) (by first | omega | (simp only [List.length_append, List.length_cons, List.length_nil]; omega))) (own_apL (b := ((([] : List Int32) ++ xcs) ++ ([58, 32] : List Int32))) (x := ycs) (by first | omega | (simp only [List.length_append, List.length_cons, List.length_nil]; omega))) (own_apU (b := ((([] : List Int32) ++ xcs) ++ ([58, 32] : List Int32))) (x := ycs) (by first | omega | (simp only [List.length_append, List.length_cons, List.length_nil]; omega)))) C 1 (own_wd hw 154 rfl) (own_wd hw 134 rfl) (by decide) (by decide)) (fun _ _ _ q => q.2) f854 [(.ref y)] [(.ref L)] rfl own_pd24 rfl rfl rfl (Nat.le_of_ble_eq_true rfl) (by decide) (by decide) (by decide +kernel) ?_
  rintro T886 h887 v888 L889 S890 ⟨⟨rfl, K880, f881, f882, f883, f884, f885⟩, -⟩
  replace S890 : own_S p l e ({ frames := 6, cells := 7, slots := 110, locals := 92 } : Room) (s.setVm vm864) m #[(.ref rp), (.ref x), (.ref y)] below meth c n0 T886 h887 4 32 := S890
  have f891 : Fld Z h887 a775 "java/lang/AbstractStringBuilder" "count" "I" (.int (Int32.ofNat (((([] : List Int32) ++ xcs) ++ ([58, 32] : List Int32)) ++ ycs).length)) := by rw [← own_cntA]; exact f884
  show own_Go p e below _ T886 (mkF m 24 #[.val (.ref rp), .val (.ref x), .val (.ref y)] [(.ref a775), (.ref L)])
  have f892 : Old Z n0 h887 := (f868.keep K880 (allS g785 (allS g810 all0)))
  have f893 : n0 ≤ h887.size := (Nat.le_trans f879 K880.1)
  refine own_callV C S890 (own_wd hw 199 rfl) (own_wd hw 200 rfl) (own_wd hw 202 rfl) (y' := ⟨"java/lang/StringBuilder", "toString", "()Ljava/lang/String;"⟩) rfl (own_wd hw 202 rfl) (own_wd hw 201 rfl) (by decide) (own_Met.pay (own_ts l Z a0 hw G1 G3 a775 a786 k787 (16 : Int32) (own_bv (((([] : List Int32) ++ xcs) ++ ([58, 32] : List Int32)) ++ ycs)) (Int32.ofNat (((([] : List Int32) ++ xcs) ++ ([58, 32] : List Int32)) ++ ycs).length) (own_sv (((([] : List Int32) ++ xcs) ++ ([58, 32] : List Int32)) ++ ycs)) h887 n0 f893 f892 f881 f882 f883 f891 f885 O2 O4 P5 rG3 ((own_tsH (b := (((([] : List Int32) ++ xcs) ++ ([58, 32] : List Int32)) ++ ycs)) (by first | omega | (simp only [List.length_append, List.length_cons, List.length_nil]; omega))).1) ((own_tsH (b := (((([] : List Int32) ++ xcs) ++ ([58, 32] : List Int32)) ++ ycs)) (by first | omega | (simp only [List.length_append, List.length_cons, List.length_nil]; omega))).2.1) ((own_tsH (b := (((([] : List Int32) ++ xcs) ++ ([58, 32] : List Int32)) ++ ycs)) (by first | omega | (simp only [List.length_append, List.length_cons, List.length_nil]; omega))).2.2.1) ((own_tsH (b := (((([] : List Int32) ++ xcs) ++ ([58, 32] : List Int32)) ++ ycs)) (by first | omega | (simp only [List.length_append, List.length_cons, List.length_nil]; omega))).2.2.2) (own_tsU (b := (((([] : List Int32) ++ xcs) ++ ([58, 32] : List Int32)) ++ ycs)) (by first | omega | (simp only [List.length_append, List.length_cons, List.length_nil]; omega)))) C 1 (own_wd hw 203 rfl) (own_wd hw 134 rfl) (by decide) (by decide)) (fun _ _ _ q => q.2) f881 [] [(.ref L)] rfl own_pd25 rfl rfl rfl (Nat.le_of_ble_eq_true rfl) (by decide) (by decide) (by decide +kernel) ?_
  rintro T904 h905 v906 L907 S908 ⟨⟨a894, a895, k896, rfl, g897, g898, K899, f900, f901, f902, f903⟩, -⟩
  replace S908 : own_S p l e ({ frames := 6, cells := 7, slots := 110, locals := 92 } : Room) (s.setVm vm864) m #[(.ref rp), (.ref x), (.ref y)] below meth c n0 T904 h905 6 100 := S908
  show own_Go p e below _ T904 (mkF m 27 #[.val (.ref rp), .val (.ref x), .val (.ref y)] [(.ref a894), (.ref L)])
  have f909 : Old Z n0 h905 := (f892.keep K899 all0)
  have f910 : Exa Z h905 L "java/util/ArrayList" := ((((Exa.ext E837 (((Exa.ext E777 p0).keep K789).keep K816)).keep K853).keep K880).keep K899)
  have n911 : L ≠ a775 := by rw [g776]; exact Nat.ne_of_lt p0.lt
  have f912 : L < h774.size := (Nat.lt_of_lt_of_le p0.lt E777.1)
  have n913 : L ≠ a786 := Nat.ne_of_lt (Nat.lt_of_lt_of_le f912 g788)
  have f914 : Fld Z h905 L "java/util/ArrayList" "elementData" "[Ljava/lang/Object;" (.ref D0) := ((((Fld.ext E837 (((Fld.ext E777 p1).keep K789 (ninS n911 nin0)).keep K816 (ninS n911 (ninS n913 nin0)))).keep K853 (ninS n911 (ninS n913 nin0))).keep K880 (ninS n911 (ninS n913 nin0))).keep K899 nin0)
  have f915 : Fld Z h905 L "java/util/ArrayList" "size" "I" (.int (0 : Int32)) := ((((Fld.ext E837 (((Fld.ext E777 p2).keep K789 (ninS n911 nin0)).keep K816 (ninS n911 (ninS n913 nin0)))).keep K853 (ninS n911 (ninS n913 nin0))).keep K880 (ninS n911 (ninS n913 nin0))).keep K899 nin0)
  have f916 : Fld Z h905 L "java/util/AbstractList" "modCount" "I" (.int mc) := ((((Fld.ext E837 (((Fld.ext E777 p3).keep K789 (ninS n911 nin0)).keep K816 (ninS n911 (ninS n913 nin0)))).keep K853 (ninS n911 (ninS n913 nin0))).keep K880 (ninS n911 (ninS n913 nin0))).keep K899 nin0)
  have f917 : Arv Z h905 D0 D0k (.object "java/lang/Object") (0 : Int32) ([]) .null := (((((((D0K.ext E777).keep K789 (ninS (Nat.ne_of_lt (Nat.lt_of_lt_of_le D0lt g785)) nin0)).keep K816 (ninS (Nat.ne_of_lt (Nat.lt_of_lt_of_le D0lt g785)) (ninS (Nat.ne_of_lt (Nat.lt_of_lt_of_le D0lt g810)) nin0))).ext E837).keep K853 (ninS (Nat.ne_of_lt (Nat.lt_of_lt_of_le D0lt g785)) (ninS (Nat.ne_of_lt (Nat.lt_of_lt_of_le D0lt g810)) nin0))).keep K880 (ninS (Nat.ne_of_lt (Nat.lt_of_lt_of_le D0lt g785)) (ninS (Nat.ne_of_lt (Nat.lt_of_lt_of_le D0lt g810)) nin0))).keep K899 nin0)
  have f918 : n0 ≤ h905.size := (Nat.le_trans f893 K899.1)
  refine own_callF C S908 (count := 2) (own_wd hw 244 rfl) (own_wd hw 245 rfl) (own_wd hw 246 rfl) rfl (own_wd hw 247 rfl) (own_wd hw 248 rfl) (own_wd hw 249 rfl) (own_wd hw 250 rfl) (own_wd hw 75 rfl) (by decide) (own_Met.pay (own_a11 l Z a0 hw L mc D0 D0k a894 h905 n0 f918 ge_L f909 f910 f914 f915 f916 f917 f900 OD D0lt) C 0 (own_wd hw 251 rfl) (own_wd hw 35 rfl) (by decide) (by decide)) (fun _ _ _ q => q.2) f910 [(.ref a894)] [] rfl own_pd26 rfl rfl rfl (Nat.le_of_ble_eq_true rfl) (by decide) (by decide) (by decide +kernel) ?_
  rintro T929 h930 v931 L932 S933 ⟨⟨a919, k920, rfl, g921, K922, f923, f924, f925, f926, f927, p928⟩, -⟩
  replace S933 : own_S p l e ({ frames := 6, cells := 7, slots := 110, locals := 92 } : Room) (s.setVm vm864) m #[(.ref rp), (.ref x), (.ref y)] below meth c n0 T929 h930 7 110 := S933
  show own_Go p e below _ T929 (mkF m 32 #[.val (.ref rp), .val (.ref x), .val (.ref y)] [(.int (1 : Int32))])
  refine own_seg C S933 [(32, .pop, 1), (33, .aload_n 0, 1)] (by decide +kernel) 34 #[.val (.ref rp), .val (.ref x), .val (.ref y)] [(.ref rp)] rfl ?_
  have f934 : a895 < h930.size := (Nat.lt_of_lt_of_le f903.lt K922.1)
  have f935 : a894 < h930.size := (Nat.lt_of_lt_of_le f900.lt K922.1)
  have SW936 : own_SW p l e ({ frames := 6, cells := 7, slots := 110, locals := 92 } : Room) s m #[(.ref rp), (.ref x), (.ref y)] below meth c n0 Z own_EL "com/example/reckoner/reckoner/cli/Report" T929 h930 [a894, a895, a919, a775, a786, L] 7 110 := rb866 _ _ _ _ [a775, a786, L] [a894, a895, a919] S933 (((((Keep.refl _ _).trans K853 (allS (Or.inl (List.mem_of_getElem? (i := 0) rfl)) (allS (Or.inl (List.mem_of_getElem? (i := 1) rfl)) all0))).trans K880 (allS (Or.inl (List.mem_of_getElem? (i := 0) rfl)) (allS (Or.inl (List.mem_of_getElem? (i := 1) rfl)) all0))).trans K899 all0).trans K922 (allS (Or.inl (List.mem_of_getElem? (i := 2) rfl)) all0)) (allS (List.mem_of_getElem? (i := 0) rfl) (allS (List.mem_of_getElem? (i := 1) rfl) (allS (List.mem_of_getElem? (i := 2) rfl) all0))) (allS ⟨(Nat.le_trans (Nat.le_trans (Nat.le_trans (Nat.le_refl _) K853.1) K880.1) g897), f935⟩ (allS ⟨(Nat.le_trans (Nat.le_trans (Nat.le_trans (Nat.le_refl _) K853.1) K880.1) g898), f934⟩ (allS ⟨(Nat.le_trans (Nat.le_trans (Nat.le_trans (Nat.le_trans (Nat.le_refl _) K853.1) K880.1) K899.1) g921), f927.lt⟩ all0)))
  refine own_retAW CW SW936 rfl rfl (by decide +kernel) (by decide) (by decide) ?_
  have n937 : a894 ≠ a919 := Nat.ne_of_lt (Nat.lt_of_lt_of_le f900.lt g921)
  have n938 : a895 ≠ a919 := Nat.ne_of_lt (Nat.lt_of_lt_of_le f903.lt g921)
  have f939 : Exa Z h930 a894 "java/lang/String" := (f900.keep K922)
  have f940 : L < h887.size := (Nat.lt_of_lt_of_le (Nat.lt_of_lt_of_le (Nat.lt_of_lt_of_le (Nat.lt_of_lt_of_le (Nat.lt_of_lt_of_le f912 K789.1) K816.1) E837.1) K853.1) K880.1)
  have n941 : L ≠ a894 := Nat.ne_of_lt (Nat.lt_of_lt_of_le f940 g897)
  have f942 : Fld Z h930 a894 "java/lang/String" "coder" "B" (.int 0) := (f901.keep K922 (ninS (Ne.symm n941) nin0))
  have f943 : Fld Z h930 a894 "java/lang/String" "value" "[B" (.ref a895) := (f902.keep K922 (ninS (Ne.symm n941) nin0))
  have n944 : L ≠ a895 := Nat.ne_of_lt (Nat.lt_of_lt_of_le f940 g898)
  have f945 : Arv Z h930 a895 k896 .byte (Int32.ofNat (((([] : List Int32) ++ xcs) ++ ([58, 32] : List Int32)) ++ ycs).length) (own_sv (((([] : List Int32) ++ xcs) ++ ([58, 32] : List Int32)) ++ ycs)) (.int 0) := (f903.keep K922 (ninS (Ne.symm n944) nin0))
  exact ⟨a894, a895, k896, a919, k920, rfl, (Nat.le_trans (Nat.le_trans (Nat.le_trans (Nat.le_trans (Nat.le_trans (Nat.le_trans (Nat.le_trans (Nat.le_refl _) E777.1) K789.1) K816.1) E837.1) K853.1) K880.1) g897), (Nat.le_trans (Nat.le_trans (Nat.le_trans (Nat.le_trans (Nat.le_trans (Nat.le_trans (Nat.le_trans (Nat.le_refl _) E777.1) K789.1) K816.1) E837.1) K853.1) K880.1) g898), (Nat.le_trans (Nat.le_trans (Nat.le_trans (Nat.le_trans (Nat.le_trans (Nat.le_trans (Nat.le_trans (Nat.le_trans (Nat.le_refl _) E777.1) K789.1) K816.1) E837.1) K853.1) K880.1) K899.1) g921), (((((((((Keep.refl _ _).ext E777).trans K789 (allS (Or.inr (by rw [g776]; exact (Nat.le_refl _))) all0)).trans K816 (allS (Or.inr (by rw [g776]; exact (Nat.le_refl _))) (allS (Or.inr (Nat.le_trans (Nat.le_trans (Nat.le_refl _) E777.1) g788)) all0))).ext E837).trans K853 (allS (Or.inr (by rw [g776]; exact (Nat.le_refl _))) (allS (Or.inr (Nat.le_trans (Nat.le_trans (Nat.le_refl _) E777.1) g788)) all0))).trans K880 (allS (Or.inr (by rw [g776]; exact (Nat.le_refl _))) (allS (Or.inr (Nat.le_trans (Nat.le_trans (Nat.le_refl _) E777.1) g788)) all0))).trans K899 all0).trans K922 (allS (Or.inl (List.mem_of_getElem? (i := 0) rfl)) all0)), f939, f942, f943, f945, f923, f924, f925, f926, f927, p928, n937, n938⟩
set_option maxRecDepth 65536 in
set_option maxHeartbeats 40000000 in
theorem own_ra2 (l : Launch) (Z : State) (a0 : Array Value) (hw : ∀ d ∈ tables_1, d.before a0 Z = true) (hEL : EW Z a0 own_EL) (wS : ∀ a ∈ Bundle.stringAtoms, a.before a0 Z = true) (G1 : Int32) (G3 : Value) (rp : Addr) (L : Addr) (mc : Int32) (d : Addr) (dk : ClassId) (z : Addr) (x : Addr) (xt : Addr) (xk : ClassId) (xcs : List Int32) (y : Addr) (yt : Addr) (yk : ClassId) (ycs : List Int32) (h0 : Heap) (n0 : Nat) (z0 : n0 ≤ h0.size) (ge_L : n0 ≤ L) (ge_d : n0 ≤ d) (X00 : Old Z n0 h0) (xE : Exa Z h0 x "java/lang/String") (xV : Fld Z h0 x "java/lang/String" "value" "[B" (.ref xt)) (xC : Fld Z h0 x "java/lang/String" "coder" "B" (.int 0)) (xK : Arv Z h0 xt xk .byte (Int32.ofNat (xcs).length) (own_sv xcs) (.int 0)) (yE : Exa Z h0 y "java/lang/String") (yV : Fld Z h0 y "java/lang/String" "value" "[B" (.ref yt)) (yC : Fld Z h0 y "java/lang/String" "coder" "B" (.int 0)) (yK : Arv Z h0 yt yk .byte (Int32.ofNat (ycs).length) (own_sv ycs) (.int 0)) (pL : Fld Z h0 rp "com/example/reckoner/reckoner/cli/Report" "lines" "Ljava/util/List;" (.ref L)) (p0 : Exa Z h0 L "java/util/ArrayList") (p1 : Fld Z h0 L "java/util/ArrayList" "elementData" "[Ljava/lang/Object;" (.ref d)) (p2 : Fld Z h0 L "java/util/ArrayList" "size" "I" (.int ((0 : Int32) + (1 : Int32)))) (p3 : Fld Z h0 L "java/util/AbstractList" "modCount" "I" (.int mc)) (dK : Arv Z h0 d dk (.object "java/lang/Object") (10 : Int32) ([(.ref z), .null, .null, .null, .null, .null, .null, .null, .null, .null]) .null) (ne_d_L : d ≠ L) (O2 : Sta Z Z.heap "java/lang/String" "COMPACT_STRINGS" "Z" (.int G1)) (O4 : Sta Z Z.heap "jdk/internal/util/Preconditions" "SIOOBE_FORMATTER" "Ljava/util/function/BiFunction;" G3) (P5 : ¬ G1 = (0 : Int32)) (rG3 : G3.isRef = true) (xhp : ∀ c ∈ xcs, ¬ c < 0 ∧ ¬ (255 : Int32) < c) (xhl : xcs.length ≤ 2) (yhp : ∀ c ∈ ycs, ¬ c < 0 ∧ ¬ (255 : Int32) < c) (yhl : ycs.length ≤ 2) (ov : Ovr Z dk "java/lang/Object") :
    own_MetW l Z own_EL (⟨"com/example/reckoner/reckoner/cli/Report", "add", "(Ljava/lang/String;Ljava/lang/String;)Lcom/example/reckoner/reckoner/cli/Report;"⟩ : MethodName) prog_2_method_2_code 3 (some (.object "com/example/reckoner/reckoner/cli/Report")) ({ frames := 6, cells := 6, slots := 100, locals := 92 } : Room) n0 #[(.ref rp), (.ref x), (.ref y)] h0 [] (fun v h => ∃ zs : Addr, ∃ zt : Addr, ∃ zk : ClassId, v = some (.ref rp) ∧ h0.size ≤ zs ∧ h0.size ≤ zt ∧ Keep h0 h [L, d] ∧ Exa Z h zs "java/lang/String" ∧ Fld Z h zs "java/lang/String" "coder" "B" (.int 0) ∧ Fld Z h zs "java/lang/String" "value" "[B" (.ref zt) ∧ Arv Z h zt zk .byte (Int32.ofNat (((([] : List Int32) ++ xcs) ++ ([58, 32] : List Int32)) ++ ycs).length) (own_sv (((([] : List Int32) ++ xcs) ++ ([58, 32] : List Int32)) ++ ycs)) (.int 0) ∧ Exa Z h L "java/util/ArrayList" ∧ Fld Z h L "java/util/ArrayList" "elementData" "[Ljava/lang/Object;" (.ref d) ∧ Fld Z h L "java/util/ArrayList" "size" "I" (.int (((0 : Int32) + (1 : Int32)) + (1 : Int32))) ∧ Fld Z h L "java/util/AbstractList" "modCount" "I" (.int (mc + (1 : Int32))) ∧ Arv Z h d dk (.object "java/lang/Object") (10 : Int32) ([(.ref z), (.ref zs), .null, .null, .null, .null, .null, .null, .null, .null]) .null) := by
  refine own_metW hEL wS (by decide +kernel) #[.val (.ref rp), .val (.ref x), .val (.ref y)] (fun m => by first | (simp [entryFrame, mkF, argsToLocals, Value.category]; done) | rfl) ?_
  intro p e s m below meth c T0 CW SW0
  have SW946 : own_SW p l e ({ frames := 6, cells := 6, slots := 100, locals := 92 } : Room) s m #[(.ref rp), (.ref x), (.ref y)] below meth c n0 Z own_EL "com/example/reckoner/reckoner/cli/Report" T0 h0 [L] 0 0 := SW0.addE p0 (by decide) (by decide)
  have SW947 : own_SW p l e ({ frames := 6, cells := 6, slots := 100, locals := 92 } : Room) s m #[(.ref rp), (.ref x), (.ref y)] below meth c n0 Z own_EL "com/example/reckoner/reckoner/cli/Report" T0 h0 [d, L] 0 0 := SW946.addA dK (by decide)
  refine own_lift CW SW947 ?_
  intro vm948 C S949 rb950
  refine own_seg C S949 [(0, .aload_n 0, 1)] (by decide +kernel) 1 #[.val (.ref rp), .val (.ref x), .val (.ref y)] [(.ref rp)] rfl ?_
  refine own_getF C S949 (host := "") (Or.inl (own_wd hw 57 rfl)) Via.refl pL (by decide +kernel) ?_
  intro T951 S952
  refine own_new C S952 (own_wd hw 132 rfl) (own_wd hw 133 rfl) (own_wd hw 134 rfl) (by decide +kernel) (by decide) (by decide) ?_
  intro T953 h955 a956 S954 g957 E958 x959 D960
  have f961 : Fld Z h955 a956 "java/lang/AbstractStringBuilder" "value" "[B" .null := D960 (ty := (.array .byte)) (Or.inl (own_wd hw 147 rfl)) own_fd0
  have f962 : Fld Z h955 a956 "java/lang/AbstractStringBuilder" "coder" "B" (.int (0 : Int32)) := D960 (ty := .byte) (Or.inl (own_wd hw 149 rfl)) own_fd1
  have f963 : Fld Z h955 a956 "java/lang/AbstractStringBuilder" "count" "I" (.int (0 : Int32)) := D960 (ty := .int) (Or.inl (own_wd hw 172 rfl)) own_fd2
  refine own_seg C S954 [(7, .dup, 1)] (by decide +kernel) 8 #[.val (.ref rp), .val (.ref x), .val (.ref y)] [(.ref a956), (.ref a956), (.ref L)] rfl ?_
  have f964 : Old Z n0 h955 := (X00.ext E958)
  have f965 : n0 ≤ h955.size := (Nat.le_trans z0 E958.1)
  have g966 : n0 ≤ a956 := by rw [g957]; exact z0
  refine own_callI C S954 rfl (own_wd hw 135 rfl) (own_wd hw 136 rfl) (own_wd hw 137 rfl) (by decide) (own_Met.pay (own_sbI l Z a0 hw G1 G3 a956 h955 n0 f965 g966 f964 x959 f961 f962 f963 O2 O4 P5 rG3) C 2 (own_wd hw 137 rfl) (own_wd hw 134 rfl) (by decide) (by decide)) (fun _ _ _ q => q.2) [] [(.ref a956), (.ref L)] rfl own_pd15 rfl rfl rfl (Nat.le_of_ble_eq_true rfl) (by decide) (by decide) (by decide +kernel) ?_
  rintro T976 h977 v978 L979 S980 ⟨⟨a967, k968, rfl, g969, K970, f971, f972, f973, f974, f975⟩, -⟩
  replace S980 : own_S p l e ({ frames := 6, cells := 6, slots := 100, locals := 92 } : Room) (s.setVm vm948) m #[(.ref rp), (.ref x), (.ref y)] below meth c n0 T976 h977 2 20 := S980
  show own_Go p e below _ T976 (mkF m 11 #[.val (.ref rp), .val (.ref x), .val (.ref y)] [(.ref a956), (.ref L)])
  have f981 : Arv Z h977 a967 k968 .byte (16 : Int32) (own_bv ([] : List Int32)) (.int (0 : Int32)) := f975
  have f982 : Fld Z h977 a956 "java/lang/AbstractStringBuilder" "count" "I" (.int (Int32.ofNat ([] : List Int32).length)) := f974
  refine own_seg C S980 [(11, .aload_n 1, 1)] (by decide +kernel) 12 #[.val (.ref rp), .val (.ref x), .val (.ref y)] [(.ref x), (.ref a956), (.ref L)] rfl ?_
  have f983 : Old Z n0 h977 := (f964.keep K970 (allS g966 all0))
  have f984 : Exa Z h977 x "java/lang/String" := ((Exa.ext E958 xE).keep K970)
  have n985 : x ≠ a956 := by rw [g957]; exact Nat.ne_of_lt xE.lt
  have f986 : Fld Z h977 x "java/lang/String" "value" "[B" (.ref xt) := ((Fld.ext E958 xV).keep K970 (ninS n985 nin0))
  have f987 : Fld Z h977 x "java/lang/String" "coder" "B" (.int 0) := ((Fld.ext E958 xC).keep K970 (ninS n985 nin0))
  have n988 : xt ≠ a956 := by rw [g957]; exact Nat.ne_of_lt xK.lt
  have f989 : Arv Z h977 xt xk .byte (Int32.ofNat (xcs).length) (own_sv xcs) (.int 0) := ((xK.ext E958).keep K970 (ninS n988 nin0))
  have f990 : n0 ≤ h977.size := (Nat.le_trans f965 K970.1)
  have g991 : n0 ≤ a967 := Nat.le_trans f965 g969
  have f992 : xt < h955.size := (Nat.lt_of_lt_of_le xK.lt E958.1)
  have n993 : xt ≠ a967 := Nat.ne_of_lt (Nat.lt_of_lt_of_le f992 g969)
  have f994 : x < h955.size := (Nat.lt_of_lt_of_le xE.lt E958.1)
  have n995 : x ≠ a967 := Nat.ne_of_lt (Nat.lt_of_lt_of_le f994 g969)
  have n996 : a956 ≠ a967 := Nat.ne_of_lt (Nat.lt_of_lt_of_le f961.lt g969)
  refine own_callV C S980 (own_wd hw 150 rfl) (own_wd hw 151 rfl) (own_wd hw 153 rfl) (y' := ⟨"java/lang/StringBuilder", "append", "(Ljava/lang/String;)Ljava/lang/StringBuilder;"⟩) rfl (own_wd hw 153 rfl) (own_wd hw 152 rfl) (by decide) (own_Met.pay (own_sbA l Z a0 hw G1 G3 x xt xk (Int32.ofNat (xcs).length) (own_sv xcs) xcs a956 a967 k968 (16 : Int32) (own_bv ([] : List Int32)) (Int32.ofNat ([] : List Int32).length) (own_bv (([] : List Int32) ++ xcs)) h977 n0 f990 g966 g991 f983 f984 f986 f987 f989 f971 f972 f973 f982 f981 n993 n988 n985 n995 (Ne.symm n996) O2 O4 P5 rG3 (own_codG xhp) xhp (Nat.le_trans xhl (by decide)) (own_apH (b := ([] : List Int32)) (x := xcs) (by first | omega | (simp only [List.length_append, List.length_cons, List.length_nil]; omega))) ((own_ofNat_nn (by first | omega | (simp only [List.length_append, List.length_cons, List.length_nil]; omega))).1) ((own_ofNat_nn (by first | omega | (simp only [List.length_append, List.length_cons, List.length_nil]; omega))).1) (own_ap5 (b := ([] : List Int32)) (x := xcs) (by first | omega | (simp only [List.length_append, List.length_cons, List.length_nil]; omega))) (own_apL (b := ([] : List Int32)) (x := xcs) (by first | omega | (simp only [List.length_append, List.length_cons, List.length_nil]; omega))) (own_apU (b := ([] : List Int32)) (x := xcs) (by first | omega | (simp only [List.length_append, List.length_cons, List.length_nil]; omega)))) C 1 (own_wd hw 154 rfl) (own_wd hw 134 rfl) (by decide) (by decide)) (fun _ _ _ q => q.2) f971 [(.ref x)] [(.ref L)] rfl own_pd24 rfl rfl rfl (Nat.le_of_ble_eq_true rfl) (by decide) (by decide) (by decide +kernel) ?_
  rintro T1003 h1004 v1005 L1006 S1007 ⟨⟨rfl, K997, f998, f999, f1000, f1001, f1002⟩, -⟩
  replace S1007 : own_S p l e ({ frames := 6, cells := 6, slots := 100, locals := 92 } : Room) (s.setVm vm948) m #[(.ref rp), (.ref x), (.ref y)] below meth c n0 T1003 h1004 2 20 := S1007
  have f1008 : Fld Z h1004 a956 "java/lang/AbstractStringBuilder" "count" "I" (.int (Int32.ofNat (([] : List Int32) ++ xcs).length)) := by rw [← own_cntA]; exact f1001
  show own_Go p e below _ T1003 (mkF m 15 #[.val (.ref rp), .val (.ref x), .val (.ref y)] [(.ref a956), (.ref L)])
  have f1009 : a967 < h1004.size := (Nat.lt_of_lt_of_le f981.lt K997.1)
  have f1010 : a956 < h1004.size := (Nat.lt_of_lt_of_le (Nat.lt_of_lt_of_le f961.lt K970.1) K997.1)
  have SW1011 : own_SW p l e ({ frames := 6, cells := 6, slots := 100, locals := 92 } : Room) s m #[(.ref rp), (.ref x), (.ref y)] below meth c n0 Z own_EL "com/example/reckoner/reckoner/cli/Report" T1003 h1004 [a956, a967, d, L] 2 20 := rb950 _ _ _ _ [] [a956, a967] S1007 ((((Keep.refl _ _).ext E958).trans K970 (allS (Or.inr (by rw [g957]; exact (Nat.le_refl _))) all0)).trans K997 (allS (Or.inr (by rw [g957]; exact (Nat.le_refl _))) (allS (Or.inr (Nat.le_trans (Nat.le_trans (Nat.le_refl _) E958.1) g969)) all0))) all0 (allS ⟨(by rw [g957]; exact (Nat.le_refl _)), f1010⟩ (allS ⟨(Nat.le_trans (Nat.le_trans (Nat.le_refl _) E958.1) g969), f1009⟩ all0))
  refine own_ldcW CW SW1011 (own_wd hw 198 rfl) (List.mem_of_getElem? (i := 0) rfl) (z := (2 : Int32)) (vs := [(.int (58 : Int32)), (.int (32 : Int32))]) ⟨by decide, by decide⟩ (by decide) rfl (by decide +kernel) 8 (by decide) (by decide) (by decide) (by decide) ?_
  intro T1012 h1013 a1014 b1015 k1016 SW1017 E1018 x1019 f1020 f1021 f1022 ne1023
  have hp1024 : ∀ c ∈ ([58, 32] : List Int32), ¬ c < 0 ∧ ¬ (255 : Int32) < c := by decide
  have hcd1025 : StrChars.Road.CodA ([58, 32] : List Int32) 0 (2 : Int32) [(.int (58 : Int32)), (.int (32 : Int32))] := StrChars.Road.codOf (cs := ([58, 32] : List Int32)) (n := 2) rfl (fun c hc => (hp1024 c hc).2)
  have f1026 : Arv Z h1013 b1015 k1016 .byte (Int32.ofNat (([58, 32] : List Int32)).length) (own_sv ([58, 32] : List Int32)) (.int 0) := f1022
  have f1027 : Old Z n0 h1013 := ((f983.keep K997 (allS g966 (allS g991 all0))).ext E1018)
  have f1028 : Exa Z h1013 a956 "java/lang/StringBuilder" := (Exa.ext E1018 f998)
  have f1029 : Fld Z h1013 a956 "java/lang/AbstractStringBuilder" "value" "[B" (.ref a967) := (Fld.ext E1018 f999)
  have f1030 : Fld Z h1013 a956 "java/lang/AbstractStringBuilder" "coder" "B" (.int (0 : Int32)) := (Fld.ext E1018 f1000)
  have f1031 : Fld Z h1013 a956 "java/lang/AbstractStringBuilder" "count" "I" (.int (Int32.ofNat (([] : List Int32) ++ xcs).length)) := (Fld.ext E1018 f1008)
  have f1032 : Arv Z h1013 a967 k968 .byte (16 : Int32) (own_bv (([] : List Int32) ++ xcs)) (.int (0 : Int32)) := (f1002.ext E1018)
  have f1033 : n0 ≤ h1013.size := (Nat.le_trans (Nat.le_trans f990 K997.1) E1018.1)
  refine own_lift CW SW1017 ?_
  intro vm1045 C S1046 rb1047
  refine own_callV C S1046 (own_wd hw 150 rfl) (own_wd hw 151 rfl) (own_wd hw 153 rfl) (y' := ⟨"java/lang/StringBuilder", "append", "(Ljava/lang/String;)Ljava/lang/StringBuilder;"⟩) rfl (own_wd hw 153 rfl) (own_wd hw 152 rfl) (by decide) (own_Met.pay (own_sbA l Z a0 hw G1 G3 a1014 b1015 k1016 (Int32.ofNat (([58, 32] : List Int32)).length) (own_sv ([58, 32] : List Int32)) ([58, 32] : List Int32) a956 a967 k968 (16 : Int32) (own_bv (([] : List Int32) ++ xcs)) (Int32.ofNat (([] : List Int32) ++ xcs).length) (own_bv ((([] : List Int32) ++ xcs) ++ ([58, 32] : List Int32))) h1013 n0 f1033 g966 g991 f1027 x1019 f1021 f1020 f1026 f1028 f1029 f1030 f1031 f1032 (Ne.symm (ne1023 a967 (List.mem_of_getElem? (i := 1) rfl)).2) (Ne.symm (ne1023 a956 (List.mem_of_getElem? (i := 0) rfl)).2) (Ne.symm (ne1023 a956 (List.mem_of_getElem? (i := 0) rfl)).1) (Ne.symm (ne1023 a967 (List.mem_of_getElem? (i := 1) rfl)).1) (Ne.symm n996) O2 O4 P5 rG3 (own_codG hp1024) hp1024 (Nat.le_of_ble_eq_true rfl) (own_apH (b := (([] : List Int32) ++ xcs)) (x := ([58, 32] : List Int32)) (by first | omega | (simp only [List.length_append, List.length_cons, List.length_nil]; omega))) ((own_ofNat_nn (by first | omega | (simp only [List.length_append, List.length_cons, List.length_nil]; omega))).1) ((own_ofNat_nn (by first | omega | (simp only [List.length_append, List.length_cons, List.length_nil]; omega))).1) (own_ap5 (b := (([] : List Int32) ++ xcs)) (x := ([58, 32] : List Int32)) (by first | omega | (simp only [List.length_append, List.length_cons, List.length_nil]; omega))) (own_apL (b := (([] : List Int32) ++ xcs)) (x := ([58, 32] : List Int32)) (by first | omega | (simp only [List.length_append, List.length_cons, List.length_nil]; omega))) (own_apU (b := (([] : List Int32) ++ xcs)) (x := ([58, 32] : List Int32)) (by first | omega | (simp only [List.length_append, List.length_cons, List.length_nil]; omega)))) C 1 (own_wd hw 154 rfl) (own_wd hw 134 rfl) (by decide) (by decide)) (fun _ _ _ q => q.2) f1028 [(.ref a1014)] [(.ref L)] rfl own_pd24 rfl rfl rfl (Nat.le_of_ble_eq_true rfl) (by decide) (by decide) (by decide +kernel) ?_
  rintro T1040 h1041 v1042 L1043 S1044 ⟨⟨rfl, K1034, f1035, f1036, f1037, f1038, f1039⟩, -⟩
  replace S1044 : own_S p l e ({ frames := 6, cells := 6, slots := 100, locals := 92 } : Room) (s.setVm vm1045) m #[(.ref rp), (.ref x), (.ref y)] below meth c n0 T1040 h1041 4 32 := S1044
  have f1048 : Fld Z h1041 a956 "java/lang/AbstractStringBuilder" "count" "I" (.int (Int32.ofNat ((([] : List Int32) ++ xcs) ++ ([58, 32] : List Int32)).length)) := by rw [← own_cntA]; exact f1038
  show own_Go p e below _ T1040 (mkF m 20 #[.val (.ref rp), .val (.ref x), .val (.ref y)] [(.ref a956), (.ref L)])
  refine own_seg C S1044 [(20, .aload_n 2, 1)] (by decide +kernel) 21 #[.val (.ref rp), .val (.ref x), .val (.ref y)] [(.ref y), (.ref a956), (.ref L)] rfl ?_
  have f1049 : Old Z n0 h1041 := (f1027.keep K1034 (allS g966 (allS g991 all0)))
  have f1050 : Exa Z h1041 y "java/lang/String" := ((Exa.ext E1018 (((Exa.ext E958 yE).keep K970).keep K997)).keep K1034)
  have n1051 : y ≠ a956 := by rw [g957]; exact Nat.ne_of_lt yE.lt
  have f1052 : y < h955.size := (Nat.lt_of_lt_of_le yE.lt E958.1)
  have n1053 : y ≠ a967 := Nat.ne_of_lt (Nat.lt_of_lt_of_le f1052 g969)
  have f1054 : Fld Z h1041 y "java/lang/String" "value" "[B" (.ref yt) := ((Fld.ext E1018 (((Fld.ext E958 yV).keep K970 (ninS n1051 nin0)).keep K997 (ninS n1051 (ninS n1053 nin0)))).keep K1034 (ninS n1051 (ninS n1053 nin0)))
  have f1055 : Fld Z h1041 y "java/lang/String" "coder" "B" (.int 0) := ((Fld.ext E1018 (((Fld.ext E958 yC).keep K970 (ninS n1051 nin0)).keep K997 (ninS n1051 (ninS n1053 nin0)))).keep K1034 (ninS n1051 (ninS n1053 nin0)))
  have n1056 : yt ≠ a956 := by rw [g957]; exact Nat.ne_of_lt yK.lt
  have f1057 : yt < h955.size := (Nat.lt_of_lt_of_le yK.lt E958.1)
  have n1058 : yt ≠ a967 := Nat.ne_of_lt (Nat.lt_of_lt_of_le f1057 g969)
  have f1059 : Arv Z h1041 yt yk .byte (Int32.ofNat (ycs).length) (own_sv ycs) (.int 0) := (((((yK.ext E958).keep K970 (ninS n1056 nin0)).keep K997 (ninS n1056 (ninS n1058 nin0))).ext E1018).keep K1034 (ninS n1056 (ninS n1058 nin0)))
  have f1060 : n0 ≤ h1041.size := (Nat.le_trans f1033 K1034.1)
  refine own_callV C S1044 (own_wd hw 150 rfl) (own_wd hw 151 rfl) (own_wd hw 153 rfl) (y' := ⟨"java/lang/StringBuilder", "append", "(Ljava/lang/String;)Ljava/lang/StringBuilder;"⟩) rfl (own_wd hw 153 rfl) (own_wd hw 152 rfl) (by decide) (own_Met.pay (own_sbA l Z a0 hw G1 G3 y yt yk (Int32.ofNat (ycs).length) (own_sv ycs) ycs a956 a967 k968 (16 : Int32) (own_bv ((([] : List Int32) ++ xcs) ++ ([58, 32] : List Int32))) (Int32.ofNat ((([] : List Int32) ++ xcs) ++ ([58, 32] : List Int32)).length) (own_bv (((([] : List Int32) ++ xcs) ++ ([58, 32] : List Int32)) ++ ycs)) h1041 n0 f1060 g966 g991 f1049 f1050 f1054 f1055 f1059 f1035 f1036 f1037 f1048 f1039 n1058 n1056 n1051 n1053 (Ne.symm n996) O2 O4 P5 rG3 (own_codG yhp) yhp (Nat.le_trans yhl (by decide)) (own_apH (b := ((([] : List Int32) ++ xcs) ++ ([58, 32] : List Int32))) (x := ycs) (by first | omega | (simp only [List.length_append, List.length_cons, List.length_nil]; omega))) ((own_ofNat_nn (by first | omega | (simp only [List.length_append, List.length_cons, List.length_nil]; omega))).1) ((own_ofNat_nn (by first | omega | (simp only [List.length_append, List.length_cons, List.length_nil]; omega))).1) (own_ap5 (b := ((([] : List Int32) ++ xcs) ++ ([58, 32] : List Int32))) (x := ycs) (by first | omega | (simp only [List.length_append, List.length_cons, List.length_nil]; omega))) (own_apL (b := ((([] : List Int32) ++ xcs) ++ ([58, 32] : List Int32))) (x := ycs) (by first | omega | (simp only [List.length_append, List.length_cons, List.length_nil]; omega))) (own_apU (b := ((([] : List Int32) ++ xcs) ++ ([58, 32] : List Int32))) (x := ycs) (by first | omega | (simp only [List.length_append, List.length_cons, List.length_nil]; omega)))) C 1 (own_wd hw 154 rfl) (own_wd hw 134 rfl) (by decide) (by decide)) (fun _ _ _ q => q.2) f1035 [(.ref y)] [(.ref L)] rfl own_pd24 rfl rfl rfl (Nat.le_of_ble_eq_true rfl) (by decide) (by decide) (by decide +kernel) ?_
  rintro T1067 h1068 v1069 L1070 S1071 ⟨⟨rfl, K1061, f1062, f1063, f1064, f1065, f1066⟩, -⟩
  replace S1071 : own_S p l e ({ frames := 6, cells := 6, slots := 100, locals := 92 } : Room) (s.setVm vm1045) m #[(.ref rp), (.ref x), (.ref y)] below meth c n0 T1067 h1068 4 32 := S1071
  have f1072 : Fld Z h1068 a956 "java/lang/AbstractStringBuilder" "count" "I" (.int (Int32.ofNat (((([] : List Int32) ++ xcs) ++ ([58, 32] : List Int32)) ++ ycs).length)) := by rw [← own_cntA]; exact f1065
  show own_Go p e below _ T1067 (mkF m 24 #[.val (.ref rp), .val (.ref x), .val (.ref y)] [(.ref a956), (.ref L)])
  have f1073 : Old Z n0 h1068 := (f1049.keep K1061 (allS g966 (allS g991 all0)))
  have f1074 : n0 ≤ h1068.size := (Nat.le_trans f1060 K1061.1)
  refine own_callV C S1071 (own_wd hw 199 rfl) (own_wd hw 200 rfl) (own_wd hw 202 rfl) (y' := ⟨"java/lang/StringBuilder", "toString", "()Ljava/lang/String;"⟩) rfl (own_wd hw 202 rfl) (own_wd hw 201 rfl) (by decide) (own_Met.pay (own_ts l Z a0 hw G1 G3 a956 a967 k968 (16 : Int32) (own_bv (((([] : List Int32) ++ xcs) ++ ([58, 32] : List Int32)) ++ ycs)) (Int32.ofNat (((([] : List Int32) ++ xcs) ++ ([58, 32] : List Int32)) ++ ycs).length) (own_sv (((([] : List Int32) ++ xcs) ++ ([58, 32] : List Int32)) ++ ycs)) h1068 n0 f1074 f1073 f1062 f1063 f1064 f1072 f1066 O2 O4 P5 rG3 ((own_tsH (b := (((([] : List Int32) ++ xcs) ++ ([58, 32] : List Int32)) ++ ycs)) (by first | omega | (simp only [List.length_append, List.length_cons, List.length_nil]; omega))).1) ((own_tsH (b := (((([] : List Int32) ++ xcs) ++ ([58, 32] : List Int32)) ++ ycs)) (by first | omega | (simp only [List.length_append, List.length_cons, List.length_nil]; omega))).2.1) ((own_tsH (b := (((([] : List Int32) ++ xcs) ++ ([58, 32] : List Int32)) ++ ycs)) (by first | omega | (simp only [List.length_append, List.length_cons, List.length_nil]; omega))).2.2.1) ((own_tsH (b := (((([] : List Int32) ++ xcs) ++ ([58, 32] : List Int32)) ++ ycs)) (by first | omega | (simp only [List.length_append, List.length_cons, List.length_nil]; omega))).2.2.2) (own_tsU (b := (((([] : List Int32) ++ xcs) ++ ([58, 32] : List Int32)) ++ ycs)) (by first | omega | (simp only [List.length_append, List.length_cons, List.length_nil]; omega)))) C 1 (own_wd hw 203 rfl) (own_wd hw 134 rfl) (by decide) (by decide)) (fun _ _ _ q => q.2) f1062 [] [(.ref L)] rfl own_pd25 rfl rfl rfl (Nat.le_of_ble_eq_true rfl) (by decide) (by decide) (by decide +kernel) ?_
  rintro T1085 h1086 v1087 L1088 S1089 ⟨⟨a1075, a1076, k1077, rfl, g1078, g1079, K1080, f1081, f1082, f1083, f1084⟩, -⟩
  replace S1089 : own_S p l e ({ frames := 6, cells := 6, slots := 100, locals := 92 } : Room) (s.setVm vm1045) m #[(.ref rp), (.ref x), (.ref y)] below meth c n0 T1085 h1086 6 100 := S1089
  show own_Go p e below _ T1085 (mkF m 27 #[.val (.ref rp), .val (.ref x), .val (.ref y)] [(.ref a1075), (.ref L)])
  have f1090 : Exa Z h1086 L "java/util/ArrayList" := ((((Exa.ext E1018 (((Exa.ext E958 p0).keep K970).keep K997)).keep K1034).keep K1061).keep K1080)
  have n1091 : L ≠ a956 := by rw [g957]; exact Nat.ne_of_lt p0.lt
  have f1092 : L < h955.size := (Nat.lt_of_lt_of_le p0.lt E958.1)
  have n1093 : L ≠ a967 := Nat.ne_of_lt (Nat.lt_of_lt_of_le f1092 g969)
  have f1094 : Fld Z h1086 L "java/util/ArrayList" "elementData" "[Ljava/lang/Object;" (.ref d) := ((((Fld.ext E1018 (((Fld.ext E958 p1).keep K970 (ninS n1091 nin0)).keep K997 (ninS n1091 (ninS n1093 nin0)))).keep K1034 (ninS n1091 (ninS n1093 nin0))).keep K1061 (ninS n1091 (ninS n1093 nin0))).keep K1080 nin0)
  have f1095 : Fld Z h1086 L "java/util/ArrayList" "size" "I" (.int ((0 : Int32) + (1 : Int32))) := ((((Fld.ext E1018 (((Fld.ext E958 p2).keep K970 (ninS n1091 nin0)).keep K997 (ninS n1091 (ninS n1093 nin0)))).keep K1034 (ninS n1091 (ninS n1093 nin0))).keep K1061 (ninS n1091 (ninS n1093 nin0))).keep K1080 nin0)
  have f1096 : Fld Z h1086 L "java/util/AbstractList" "modCount" "I" (.int mc) := ((((Fld.ext E1018 (((Fld.ext E958 p3).keep K970 (ninS n1091 nin0)).keep K997 (ninS n1091 (ninS n1093 nin0)))).keep K1034 (ninS n1091 (ninS n1093 nin0))).keep K1061 (ninS n1091 (ninS n1093 nin0))).keep K1080 nin0)
  have n1097 : d ≠ a956 := by rw [g957]; exact Nat.ne_of_lt dK.lt
  have f1098 : d < h955.size := (Nat.lt_of_lt_of_le dK.lt E958.1)
  have n1099 : d ≠ a967 := Nat.ne_of_lt (Nat.lt_of_lt_of_le f1098 g969)
  have f1100 : Arv Z h1086 d dk (.object "java/lang/Object") (10 : Int32) ([(.ref z), .null, .null, .null, .null, .null, .null, .null, .null, .null]) .null := (((((((dK.ext E958).keep K970 (ninS n1097 nin0)).keep K997 (ninS n1097 (ninS n1099 nin0))).ext E1018).keep K1034 (ninS n1097 (ninS n1099 nin0))).keep K1061 (ninS n1097 (ninS n1099 nin0))).keep K1080 nin0)
  have f1101 : n0 ≤ h1086.size := (Nat.le_trans f1074 K1080.1)
  refine own_callF C S1089 (count := 2) (own_wd hw 244 rfl) (own_wd hw 245 rfl) (own_wd hw 246 rfl) rfl (own_wd hw 247 rfl) (own_wd hw 248 rfl) (own_wd hw 249 rfl) (own_wd hw 250 rfl) (own_wd hw 75 rfl) (by decide) (own_Met.pay (own_a12 l Z a0 hw L mc d dk z a1075 h1086 n0 f1101 ge_L ge_d f1090 f1094 f1095 f1096 f1100 f1081 ne_d_L ov) C 0 (own_wd hw 251 rfl) (own_wd hw 35 rfl) (by decide) (by decide)) (fun _ _ _ q => q.2) f1090 [(.ref a1075)] [] rfl own_pd26 rfl rfl rfl (Nat.le_of_ble_eq_true rfl) (by decide) (by decide) (by decide +kernel) ?_
  rintro T1108 h1109 v1110 L1111 S1112 ⟨⟨rfl, K1102, f1103, f1104, f1105, f1106, f1107⟩, -⟩
  replace S1112 : own_S p l e ({ frames := 6, cells := 6, slots := 100, locals := 92 } : Room) (s.setVm vm1045) m #[(.ref rp), (.ref x), (.ref y)] below meth c n0 T1108 h1109 6 100 := S1112
  show own_Go p e below _ T1108 (mkF m 32 #[.val (.ref rp), .val (.ref x), .val (.ref y)] [(.int (1 : Int32))])
  refine own_seg C S1112 [(32, .pop, 1), (33, .aload_n 0, 1)] (by decide +kernel) 34 #[.val (.ref rp), .val (.ref x), .val (.ref y)] [(.ref rp)] rfl ?_
  have f1113 : a1076 < h1109.size := (Nat.lt_of_lt_of_le f1084.lt K1102.1)
  have f1114 : a1075 < h1109.size := (Nat.lt_of_lt_of_le f1081.lt K1102.1)
  have SW1115 : own_SW p l e ({ frames := 6, cells := 6, slots := 100, locals := 92 } : Room) s m #[(.ref rp), (.ref x), (.ref y)] below meth c n0 Z own_EL "com/example/reckoner/reckoner/cli/Report" T1108 h1109 [a1075, a1076, a956, a967, d, L] 6 100 := rb1047 _ _ _ _ [a956, a967, L, d] [a1075, a1076] S1112 (((((Keep.refl _ _).trans K1034 (allS (Or.inl (List.mem_of_getElem? (i := 0) rfl)) (allS (Or.inl (List.mem_of_getElem? (i := 1) rfl)) all0))).trans K1061 (allS (Or.inl (List.mem_of_getElem? (i := 0) rfl)) (allS (Or.inl (List.mem_of_getElem? (i := 1) rfl)) all0))).trans K1080 all0).trans K1102 (allS (Or.inl (List.mem_of_getElem? (i := 2) rfl)) (allS (Or.inl (List.mem_of_getElem? (i := 3) rfl)) all0))) (allS (List.mem_of_getElem? (i := 0) rfl) (allS (List.mem_of_getElem? (i := 1) rfl) (allS (List.mem_of_getElem? (i := 3) rfl) (allS (List.mem_of_getElem? (i := 2) rfl) all0)))) (allS ⟨(Nat.le_trans (Nat.le_trans (Nat.le_trans (Nat.le_refl _) K1034.1) K1061.1) g1078), f1114⟩ (allS ⟨(Nat.le_trans (Nat.le_trans (Nat.le_trans (Nat.le_refl _) K1034.1) K1061.1) g1079), f1113⟩ all0))
  refine own_retAW CW SW1115 rfl rfl (by decide +kernel) (by decide) (by decide) ?_
  have f1116 : Exa Z h1109 a1075 "java/lang/String" := (f1081.keep K1102)
  have f1117 : d < h1068.size := (Nat.lt_of_lt_of_le (Nat.lt_of_lt_of_le (Nat.lt_of_lt_of_le (Nat.lt_of_lt_of_le (Nat.lt_of_lt_of_le f1098 K970.1) K997.1) E1018.1) K1034.1) K1061.1)
  have n1118 : d ≠ a1075 := Nat.ne_of_lt (Nat.lt_of_lt_of_le f1117 g1078)
  have f1119 : L < h1068.size := (Nat.lt_of_lt_of_le (Nat.lt_of_lt_of_le (Nat.lt_of_lt_of_le (Nat.lt_of_lt_of_le (Nat.lt_of_lt_of_le f1092 K970.1) K997.1) E1018.1) K1034.1) K1061.1)
  have n1120 : L ≠ a1075 := Nat.ne_of_lt (Nat.lt_of_lt_of_le f1119 g1078)
  have f1121 : Fld Z h1109 a1075 "java/lang/String" "coder" "B" (.int 0) := (f1082.keep K1102 (ninS (Ne.symm n1120) (ninS (Ne.symm n1118) nin0)))
  have f1122 : Fld Z h1109 a1075 "java/lang/String" "value" "[B" (.ref a1076) := (f1083.keep K1102 (ninS (Ne.symm n1120) (ninS (Ne.symm n1118) nin0)))
  have n1123 : d ≠ a1076 := Nat.ne_of_lt (Nat.lt_of_lt_of_le f1117 g1079)
  have n1124 : L ≠ a1076 := Nat.ne_of_lt (Nat.lt_of_lt_of_le f1119 g1079)
  have f1125 : Arv Z h1109 a1076 k1077 .byte (Int32.ofNat (((([] : List Int32) ++ xcs) ++ ([58, 32] : List Int32)) ++ ycs).length) (own_sv (((([] : List Int32) ++ xcs) ++ ([58, 32] : List Int32)) ++ ycs)) (.int 0) := (f1084.keep K1102 (ninS (Ne.symm n1124) (ninS (Ne.symm n1123) nin0)))
  exact ⟨a1075, a1076, k1077, rfl, (Nat.le_trans (Nat.le_trans (Nat.le_trans (Nat.le_trans (Nat.le_trans (Nat.le_trans (Nat.le_trans (Nat.le_refl _) E958.1) K970.1) K997.1) E1018.1) K1034.1) K1061.1) g1078), (Nat.le_trans (Nat.le_trans (Nat.le_trans (Nat.le_trans (Nat.le_trans (Nat.le_trans (Nat.le_trans (Nat.le_refl _) E958.1) K970.1) K997.1) E1018.1) K1034.1) K1061.1) g1079), (((((((((Keep.refl _ _).ext E958).trans K970 (allS (Or.inr (by rw [g957]; exact (Nat.le_refl _))) all0)).trans K997 (allS (Or.inr (by rw [g957]; exact (Nat.le_refl _))) (allS (Or.inr (Nat.le_trans (Nat.le_trans (Nat.le_refl _) E958.1) g969)) all0))).ext E1018).trans K1034 (allS (Or.inr (by rw [g957]; exact (Nat.le_refl _))) (allS (Or.inr (Nat.le_trans (Nat.le_trans (Nat.le_refl _) E958.1) g969)) all0))).trans K1061 (allS (Or.inr (by rw [g957]; exact (Nat.le_refl _))) (allS (Or.inr (Nat.le_trans (Nat.le_trans (Nat.le_refl _) E958.1) g969)) all0))).trans K1080 all0).trans K1102 (allS (Or.inl (List.mem_of_getElem? (i := 0) rfl)) (allS (Or.inl (List.mem_of_getElem? (i := 1) rfl)) all0))), f1116, f1121, f1122, f1125, f1103, f1104, f1105, f1106, f1107⟩
theorem own_hch : ∀ d ∈ StrChars.Road.wordsChN, d ∈ tables_1 := by decide +kernel
theorem own_pd27 : parseMethodDescriptor "(I)C" = some ⟨[.int], (some .char)⟩ := by decide +kernel
set_option maxRecDepth 65536 in
set_option maxHeartbeats 40000000 in
theorem own_exp (l : Launch) (Z : State) (a0 : Array Value) (hw : ∀ d ∈ tables_1, d.before a0 Z = true) (G1 : Int32) (G3 : Value) (n : Addr) (nt : Addr) (nk : ClassId) (ncs : List Int32) (v : Addr) (vt : Addr) (vk : ClassId) (vcs : List Int32) (k : Nat) (h0 : Heap) (n0 : Nat) (z0 : n0 ≤ h0.size) (X00 : Old Z n0 h0) (nE : Exa Z h0 n "java/lang/String") (nV : Fld Z h0 n "java/lang/String" "value" "[B" (.ref nt)) (nC : Fld Z h0 n "java/lang/String" "coder" "B" (.int 0)) (nK : Arv Z h0 nt nk .byte (Int32.ofNat (ncs).length) (own_sv ncs) (.int 0)) (vE : Exa Z h0 v "java/lang/String") (vV : Fld Z h0 v "java/lang/String" "value" "[B" (.ref vt)) (vC : Fld Z h0 v "java/lang/String" "coder" "B" (.int 0)) (vK : Arv Z h0 vt vk .byte (Int32.ofNat (vcs).length) (own_sv vcs) (.int 0)) (O2 : Sta Z Z.heap "java/lang/String" "COMPACT_STRINGS" "Z" (.int G1)) (O4 : Sta Z Z.heap "jdk/internal/util/Preconditions" "SIOOBE_FORMATTER" "Ljava/util/function/BiFunction;" G3) (P5 : ¬ G1 = (0 : Int32)) (rG3 : G3.isRef = true) (nhp : ∀ c ∈ ncs, ¬ c < 0 ∧ ¬ (255 : Int32) < c) (nhl : ncs.length ≤ 2) (vhp : ∀ c ∈ vcs, ¬ c < 0 ∧ ¬ (255 : Int32) < c) (vhl : vcs.length ≤ 2) (hk : k < ncs.length + 2 + vcs.length) :
    own_Met l Z (⟨"com/example/reckoner/reckoner/cli/ReportAddPinLaw", "exp", "(Ljava/lang/String;Ljava/lang/String;I)C"⟩ : MethodName) method_4_code 4 (some .char) ({ frames := 4, cells := 0, slots := 0, locals := 53 } : Room) n0 #[(.ref n), (.ref v), (.int (Int32.ofNat k))] h0 (fun v h => v = some (.int (own_E ncs vcs k)) ∧ h = h0) := by
  refine own_met (by decide +kernel) #[.val (.ref n), .val (.ref v), .val (.int (Int32.ofNat k)), .unset] (fun m => by first | (simp [entryFrame, mkF, argsToLocals, Value.category]; done) | rfl) ?_
  intro p e s m below meth c T0 C S0
  have hk4 : k ≤ 4000 := by omega
  refine own_seg C S0 [(0, .aload_n 0, 1)] (by decide +kernel) 1 #[.val (.ref n), .val (.ref v), .val (.int (Int32.ofNat k)), .unset] [(.ref n)] rfl ?_
  refine own_callV C S0 (own_wd hw 305 rfl) (own_wd hw 161 rfl) (own_wd hw 163 rfl) (y' := ⟨"java/lang/String", "length", "()I"⟩) rfl (own_wd hw 163 rfl) (own_wd hw 162 rfl) (by decide) (Q := (fun v h' L => v = some (.int (Int32.ofNat (ncs).length)) ∧ L = [] ∧ h' = h0)) (StrChars.Road.lenW (W := 0) C.2.2.2.2.2.2.2 (fun d hd => hw d (own_hln d hd)) (kI := 4) (own_wd hw 5 rfl) nE nV nC nK (own_codG nhp) (own_up _ nhp) (O2.ext X00.2) P5 (Nat.le_trans nhl (by decide)) (by decide) (by decide)) (fun _ _ L q => by rw [q.2.1]; exact Fr.nil _) nE [] [] rfl own_pd4 rfl rfl rfl (Nat.le_of_ble_eq_true rfl) (by decide) (by decide) (by decide +kernel) ?_
  rintro T1127 h1128 v1129 L1130 S1131 ⟨rfl, -, e1126⟩
  replace S1131 : own_S p l e ({ frames := 4, cells := 0, slots := 0, locals := 53 } : Room) s m #[(.ref n), (.ref v), (.int (Int32.ofNat k))] below meth c n0 T1127 h1128 0 0 := S1131
  rw [e1126] at S1131; clear e1126
  show own_Go p e below _ T1127 (mkF m 4 #[.val (.ref n), .val (.ref v), .val (.int (Int32.ofNat k)), .unset] [(.int (Int32.ofNat (ncs).length))])
  refine own_seg C S1131 [(4, .istore_n 3, 1), (5, .iload_n 2, 1), (6, .iload_n 3, 1)] (by decide +kernel) 7 #[.val (.ref n), .val (.ref v), .val (.int (Int32.ofNat k)), .val (.int (Int32.ofNat (ncs).length))] [(.int (Int32.ofNat (ncs).length)), (.int (Int32.ofNat k))] rfl ?_
  refine own_icmp C S1131 (q := .ge) (o := 9) (by decide +kernel) 16 (by decide) (by decide) (fun (q1132 : ¬ (Int32.ofNat k) < (Int32.ofNat (ncs).length)) => ?_) (fun (q1133 : (Int32.ofNat k) < (Int32.ofNat (ncs).length)) => ?_)
  · have hge : (ncs).length ≤ k := by have q := mt (own_ofNat_lt hk4 (by omega)).mpr q1132; omega
    refine own_seg C S1131 [(16, .iload_n 2, 1), (17, .iload_n 3, 1)] (by decide +kernel) 18 #[.val (.ref n), .val (.ref v), .val (.int (Int32.ofNat k)), .val (.int (Int32.ofNat (ncs).length))] [(.int (Int32.ofNat (ncs).length)), (.int (Int32.ofNat k))] rfl ?_
    refine own_icmp C S1131 (q := .ne) (o := 6) (by decide +kernel) 24 (by decide) (by decide) (fun (q1134 : ¬ (Int32.ofNat k) = (Int32.ofNat (ncs).length)) => ?_) (fun (q1135 : (Int32.ofNat k) = (Int32.ofNat (ncs).length)) => ?_)
    · have hn1 : ¬ k = (ncs).length := fun q => q1134 (by rw [q])
      refine own_seg C S1131 [(24, .iload_n 2, 1), (25, .iload_n 3, 1), (26, .iconst 1, 1), (27, .iadd, 1)] (by decide +kernel) 28 #[.val (.ref n), .val (.ref v), .val (.int (Int32.ofNat k)), .val (.int (Int32.ofNat (ncs).length))] [(.int ((Int32.ofNat (ncs).length) + (1 : Int32))), (.int (Int32.ofNat k))] rfl ?_
      rw [show ((Int32.ofNat (ncs).length) + (1 : Int32)) = (Int32.ofNat ((ncs).length + 1)) from own_ofNat_succ _]
      refine own_icmp C S1131 (q := .ne) (o := 6) (by decide +kernel) 34 (by decide) (by decide) (fun (q1136 : ¬ (Int32.ofNat k) = (Int32.ofNat ((ncs).length + 1))) => ?_) (fun (q1137 : (Int32.ofNat k) = (Int32.ofNat ((ncs).length + 1))) => ?_)
      · have hn2 : ¬ k = (ncs).length + 1 := fun q => q1136 (by rw [q])
        refine own_seg C S1131 [(34, .aload_n 1, 1), (35, .iload_n 2, 1), (36, .iload_n 3, 1), (37, .isub, 1), (38, .iconst 2, 1), (39, .isub, 1)] (by decide +kernel) 40 #[.val (.ref n), .val (.ref v), .val (.int (Int32.ofNat k)), .val (.int (Int32.ofNat (ncs).length))] [(.int (((Int32.ofNat k) - (Int32.ofNat (ncs).length)) - (2 : Int32))), (.ref v)] rfl ?_
        rw [show (((Int32.ofNat k) - (Int32.ofNat (ncs).length)) - (2 : Int32)) = (Int32.ofNat (k - (ncs).length - 2)) from own_sub2 (by omega) hk4]
        refine own_callV C S1131 (own_wd hw 306 rfl) (own_wd hw 307 rfl) (own_wd hw 309 rfl) (y' := ⟨"java/lang/String", "charAt", "(I)C"⟩) rfl (own_wd hw 309 rfl) (own_wd hw 308 rfl) (by decide) (Q := (fun v h' L => v = some (.int ((vcs).getD (k - (ncs).length - 2) 0)) ∧ L = [] ∧ h' = h0)) (StrChars.Road.chN (W := 0) C.2.2.2.2.2.2.2 (fun d hd => hw d (own_hch d hd)) (kI := 4) (own_wd hw 5 rfl) vE vV vC vK (own_codG vhp) (own_up _ vhp) (O2.ext X00.2) P5 (O4.ext X00.2) rG3 (Nat.le_trans vhl (by decide)) (i := (k - (ncs).length - 2)) (by omega) rfl (by decide) (by decide)) (fun _ _ L q => by rw [q.2.1]; exact Fr.nil _) vE [(.int (Int32.ofNat (k - (ncs).length - 2)))] [] rfl own_pd27 rfl rfl rfl (Nat.le_of_ble_eq_true rfl) (by decide) (by decide) (by decide +kernel) ?_
        rintro T1139 h1140 v1141 L1142 S1143 ⟨rfl, -, e1138⟩
        replace S1143 : own_S p l e ({ frames := 4, cells := 0, slots := 0, locals := 53 } : Room) s m #[(.ref n), (.ref v), (.int (Int32.ofNat k))] below meth c n0 T1139 h1140 0 0 := S1143
        rw [e1138] at S1143; clear e1138
        show own_Go p e below _ T1139 (mkF m 43 #[.val (.ref n), .val (.ref v), .val (.int (Int32.ofNat k)), .val (.int (Int32.ofNat (ncs).length))] [(.int ((vcs).getD (k - (ncs).length - 2) 0))])
        refine own_retC C S1143 (by decide +kernel) (own_c16 (vhp _ (own_getD_mem (by omega)))) (by decide) (by decide) ?_
        exact ⟨(by rw [own_E2 (by omega), own_E4 (by omega)]), rfl⟩
      · have hn2 : k = (ncs).length + 1 := (own_oNinj hk4 (by omega)).mp q1137
        refine own_seg C S1131 [(31, .bipush 32, 2)] (by decide +kernel) 33 #[.val (.ref n), .val (.ref v), .val (.int (Int32.ofNat k)), .val (.int (Int32.ofNat (ncs).length))] [(.int (32 : Int32))] rfl ?_
        refine own_retC C S1131 (by decide +kernel) rfl (by decide) (by decide) ?_
        exact ⟨(by rw [own_E2 (by omega), show k - (ncs).length = 1 from by omega]; rfl), rfl⟩
    · have hn1 : k = (ncs).length := (own_oNinj hk4 (by omega)).mp q1135
      refine own_seg C S1131 [(21, .bipush 58, 2)] (by decide +kernel) 23 #[.val (.ref n), .val (.ref v), .val (.int (Int32.ofNat k)), .val (.int (Int32.ofNat (ncs).length))] [(.int (58 : Int32))] rfl ?_
      refine own_retC C S1131 (by decide +kernel) rfl (by decide) (by decide) ?_
      exact ⟨(by rw [own_E2 (by omega), show k - (ncs).length = 0 from by omega]; rfl), rfl⟩
  · have hlt : k < (ncs).length := (own_ofNat_lt hk4 (by omega)).mp q1133
    refine own_seg C S1131 [(10, .aload_n 0, 1), (11, .iload_n 2, 1)] (by decide +kernel) 12 #[.val (.ref n), .val (.ref v), .val (.int (Int32.ofNat k)), .val (.int (Int32.ofNat (ncs).length))] [(.int (Int32.ofNat k)), (.ref n)] rfl ?_
    refine own_callV C S1131 (own_wd hw 306 rfl) (own_wd hw 307 rfl) (own_wd hw 309 rfl) (y' := ⟨"java/lang/String", "charAt", "(I)C"⟩) rfl (own_wd hw 309 rfl) (own_wd hw 308 rfl) (by decide) (Q := (fun v h' L => v = some (.int ((ncs).getD k 0)) ∧ L = [] ∧ h' = h0)) (StrChars.Road.chN (W := 0) C.2.2.2.2.2.2.2 (fun d hd => hw d (own_hch d hd)) (kI := 4) (own_wd hw 5 rfl) nE nV nC nK (own_codG nhp) (own_up _ nhp) (O2.ext X00.2) P5 (O4.ext X00.2) rG3 (Nat.le_trans nhl (by decide)) (i := k) hlt rfl (by decide) (by decide)) (fun _ _ L q => by rw [q.2.1]; exact Fr.nil _) nE [(.int (Int32.ofNat k))] [] rfl own_pd27 rfl rfl rfl (Nat.le_of_ble_eq_true rfl) (by decide) (by decide) (by decide +kernel) ?_
    rintro T1145 h1146 v1147 L1148 S1149 ⟨rfl, -, e1144⟩
    replace S1149 : own_S p l e ({ frames := 4, cells := 0, slots := 0, locals := 53 } : Room) s m #[(.ref n), (.ref v), (.int (Int32.ofNat k))] below meth c n0 T1145 h1146 0 0 := S1149
    rw [e1144] at S1149; clear e1144
    show own_Go p e below _ T1145 (mkF m 15 #[.val (.ref n), .val (.ref v), .val (.int (Int32.ofNat k)), .val (.int (Int32.ofNat (ncs).length))] [(.int ((ncs).getD k 0))])
    refine own_retC C S1149 (by decide +kernel) (own_c16 (nhp _ (own_getD_mem hlt))) (by decide) (by decide) ?_
    exact ⟨(by rw [own_E1 hlt]), rfl⟩
theorem own_pd28 : parseMethodDescriptor "(Ljava/lang/String;Ljava/lang/String;I)C" = some ⟨[(.object "java/lang/String"), (.object "java/lang/String"), .int], (some .char)⟩ := by decide +kernel
set_option maxRecDepth 65536 in
set_option maxHeartbeats 40000000 in
theorem own_lo (l : Launch) (Z : State) (a0 : Array Value) (hw : ∀ d ∈ tables_1, d.before a0 Z = true) (G1 : Int32) (G3 : Value) (r : Addr) (rt : Addr) (rk : ClassId) (rcs : List Int32) (n : Addr) (nt : Addr) (nk : ClassId) (ncs : List Int32) (v : Addr) (vt : Addr) (vk : ClassId) (vcs : List Int32) (h0 : Heap) (n0 : Nat) (z0 : n0 ≤ h0.size) (X00 : Old Z n0 h0) (rE : Exa Z h0 r "java/lang/String") (rV : Fld Z h0 r "java/lang/String" "value" "[B" (.ref rt)) (rC : Fld Z h0 r "java/lang/String" "coder" "B" (.int 0)) (rK : Arv Z h0 rt rk .byte (Int32.ofNat (rcs).length) (own_sv rcs) (.int 0)) (nE : Exa Z h0 n "java/lang/String") (nV : Fld Z h0 n "java/lang/String" "value" "[B" (.ref nt)) (nC : Fld Z h0 n "java/lang/String" "coder" "B" (.int 0)) (nK : Arv Z h0 nt nk .byte (Int32.ofNat (ncs).length) (own_sv ncs) (.int 0)) (vE : Exa Z h0 v "java/lang/String") (vV : Fld Z h0 v "java/lang/String" "value" "[B" (.ref vt)) (vC : Fld Z h0 v "java/lang/String" "coder" "B" (.int 0)) (vK : Arv Z h0 vt vk .byte (Int32.ofNat (vcs).length) (own_sv vcs) (.int 0)) (O2 : Sta Z Z.heap "java/lang/String" "COMPACT_STRINGS" "Z" (.int G1)) (O4 : Sta Z Z.heap "jdk/internal/util/Preconditions" "SIOOBE_FORMATTER" "Ljava/util/function/BiFunction;" G3) (P5 : ¬ G1 = (0 : Int32)) (rG3 : G3.isRef = true) (rhp : ∀ c ∈ rcs, ¬ c < 0 ∧ ¬ (255 : Int32) < c) (rhl : rcs.length ≤ 6) (nhp : ∀ c ∈ ncs, ¬ c < 0 ∧ ¬ (255 : Int32) < c) (nhl : ncs.length ≤ 2) (vhp : ∀ c ∈ vcs, ¬ c < 0 ∧ ¬ (255 : Int32) < c) (vhl : vcs.length ≤ 2) (hr : rcs = ncs ++ ([58, 32] ++ vcs)) :
    own_Met l Z (⟨"com/example/reckoner/reckoner/cli/ReportAddPinLaw", "lineOk", "(Ljava/lang/String;Ljava/lang/String;Ljava/lang/String;)Z"⟩ : MethodName) method_5_code 4 (some .boolean) ({ frames := 5, cells := 0, slots := 0, locals := 69 } : Room) n0 #[(.ref r), (.ref n), (.ref v)] h0 (fun v h => v = some (.int (1 : Int32)) ∧ h = h0) := by
  refine own_met (by decide +kernel) #[.val (.ref r), .val (.ref n), .val (.ref v), .unset] (fun m => by first | (simp [entryFrame, mkF, argsToLocals, Value.category]; done) | rfl) ?_
  intro p e s m below meth c T0 C S0
  refine own_seg C S0 [(0, .aload_n 0, 1), (1, .ifnonnull 5, 3), (6, .aload_n 1, 1)] (by decide +kernel) 7 #[.val (.ref r), .val (.ref n), .val (.ref v), .unset] [(.ref n)] rfl ?_
  refine own_callV C S0 (own_wd hw 305 rfl) (own_wd hw 161 rfl) (own_wd hw 163 rfl) (y' := ⟨"java/lang/String", "length", "()I"⟩) rfl (own_wd hw 163 rfl) (own_wd hw 162 rfl) (by decide) (Q := (fun v h' L => v = some (.int (Int32.ofNat (ncs).length)) ∧ L = [] ∧ h' = h0)) (StrChars.Road.lenW (W := 0) C.2.2.2.2.2.2.2 (fun d hd => hw d (own_hln d hd)) (kI := 4) (own_wd hw 5 rfl) nE nV nC nK (own_codG nhp) (own_up _ nhp) (O2.ext X00.2) P5 (Nat.le_trans nhl (by decide)) (by decide) (by decide)) (fun _ _ L q => by rw [q.2.1]; exact Fr.nil _) nE [] [] rfl own_pd4 rfl rfl rfl (Nat.le_of_ble_eq_true rfl) (by decide) (by decide) (by decide +kernel) ?_
  rintro T1151 h1152 v1153 L1154 S1155 ⟨rfl, -, e1150⟩
  replace S1155 : own_S p l e ({ frames := 5, cells := 0, slots := 0, locals := 69 } : Room) s m #[(.ref r), (.ref n), (.ref v)] below meth c n0 T1151 h1152 0 0 := S1155
  rw [e1150] at S1155; clear e1150
  show own_Go p e below _ T1151 (mkF m 10 #[.val (.ref r), .val (.ref n), .val (.ref v), .unset] [(.int (Int32.ofNat (ncs).length))])
  refine own_seg C S1155 [(10, .aload_n 2, 1)] (by decide +kernel) 11 #[.val (.ref r), .val (.ref n), .val (.ref v), .unset] [(.ref v), (.int (Int32.ofNat (ncs).length))] rfl ?_
  refine own_callV C S1155 (own_wd hw 305 rfl) (own_wd hw 161 rfl) (own_wd hw 163 rfl) (y' := ⟨"java/lang/String", "length", "()I"⟩) rfl (own_wd hw 163 rfl) (own_wd hw 162 rfl) (by decide) (Q := (fun v h' L => v = some (.int (Int32.ofNat (vcs).length)) ∧ L = [] ∧ h' = h0)) (StrChars.Road.lenW (W := 1) C.2.2.2.2.2.2.2 (fun d hd => hw d (own_hln d hd)) (kI := 4) (own_wd hw 5 rfl) vE vV vC vK (own_codG vhp) (own_up _ vhp) (O2.ext X00.2) P5 (Nat.le_trans vhl (by decide)) (by decide) (by decide)) (fun _ _ L q => by rw [q.2.1]; exact Fr.nil _) vE [] [(.int (Int32.ofNat (ncs).length))] rfl own_pd4 rfl rfl rfl (Nat.le_of_ble_eq_true rfl) (by decide) (by decide) (by decide +kernel) ?_
  rintro T1157 h1158 v1159 L1160 S1161 ⟨rfl, -, e1156⟩
  replace S1161 : own_S p l e ({ frames := 5, cells := 0, slots := 0, locals := 69 } : Room) s m #[(.ref r), (.ref n), (.ref v)] below meth c n0 T1157 h1158 0 0 := S1161
  rw [e1156] at S1161; clear e1156
  show own_Go p e below _ T1157 (mkF m 14 #[.val (.ref r), .val (.ref n), .val (.ref v), .unset] [(.int (Int32.ofNat (vcs).length)), (.int (Int32.ofNat (ncs).length))])
  refine own_seg C S1161 [(14, .iadd, 1), (15, .iconst 2, 1), (16, .iadd, 1)] (by decide +kernel) 17 #[.val (.ref r), .val (.ref n), .val (.ref v), .unset] [(.int (((Int32.ofNat (ncs).length) + (Int32.ofNat (vcs).length)) + (2 : Int32)))] rfl ?_
  rw [show (((Int32.ofNat (ncs).length) + (Int32.ofNat (vcs).length)) + (2 : Int32)) = (Int32.ofNat (rcs).length) from own_lenS hr]
  refine own_seg C S1161 [(17, .istore_n 3, 1), (18, .aload_n 0, 1)] (by decide +kernel) 19 #[.val (.ref r), .val (.ref n), .val (.ref v), .val (.int (Int32.ofNat (rcs).length))] [(.ref r)] rfl ?_
  refine own_callV C S1161 (own_wd hw 305 rfl) (own_wd hw 161 rfl) (own_wd hw 163 rfl) (y' := ⟨"java/lang/String", "length", "()I"⟩) rfl (own_wd hw 163 rfl) (own_wd hw 162 rfl) (by decide) (Q := (fun v h' L => v = some (.int (Int32.ofNat (rcs).length)) ∧ L = [] ∧ h' = h0)) (StrChars.Road.lenW (W := 0) C.2.2.2.2.2.2.2 (fun d hd => hw d (own_hln d hd)) (kI := 4) (own_wd hw 5 rfl) rE rV rC rK (own_codG rhp) (own_up _ rhp) (O2.ext X00.2) P5 (Nat.le_trans rhl (by decide)) (by decide) (by decide)) (fun _ _ L q => by rw [q.2.1]; exact Fr.nil _) rE [] [] rfl own_pd4 rfl rfl rfl (Nat.le_of_ble_eq_true rfl) (by decide) (by decide) (by decide +kernel) ?_
  rintro T1163 h1164 v1165 L1166 S1167 ⟨rfl, -, e1162⟩
  replace S1167 : own_S p l e ({ frames := 5, cells := 0, slots := 0, locals := 69 } : Room) s m #[(.ref r), (.ref n), (.ref v)] below meth c n0 T1163 h1164 0 0 := S1167
  rw [e1162] at S1167; clear e1162
  show own_Go p e below _ T1163 (mkF m 22 #[.val (.ref r), .val (.ref n), .val (.ref v), .val (.int (Int32.ofNat (rcs).length))] [(.int (Int32.ofNat (rcs).length))])
  refine own_seg C S1167 [(22, .iload_n 3, 1)] (by decide +kernel) 23 #[.val (.ref r), .val (.ref n), .val (.ref v), .val (.int (Int32.ofNat (rcs).length))] [(.int (Int32.ofNat (rcs).length)), (.int (Int32.ofNat (rcs).length))] rfl ?_
  refine own_icmp C S1167 (q := .eq) (o := 5) (by decide +kernel) 28 (by decide) (by decide) (fun (q1168 : (Int32.ofNat (rcs).length) = (Int32.ofNat (rcs).length)) => ?_) (fun (hq : ¬ (Int32.ofNat (rcs).length) = (Int32.ofNat (rcs).length)) => False.elim (hq rfl))
  have J6 : ∀ (T1169 : State), own_S p l e ({ frames := 5, cells := 0, slots := 0, locals := 69 } : Room) s m #[(.ref r), (.ref n), (.ref v)] below meth c n0 T1169 h0 0 0 → own_Go p e below (own_En s n0 (fun v h => v = some (.int (1 : Int32)) ∧ h = h0) ({ frames := 5, cells := 0, slots := 0, locals := 69 } : Room).cells ({ frames := 5, cells := 0, slots := 0, locals := 69 } : Room).slots) T1169 (mkF m 153 #[.val (.ref r), .val (.ref n), .val (.ref v), .val (.int (Int32.ofNat (rcs).length))] []) := by
    intro T1169 S1170
    refine own_seg C S1170 [(153, .iconst 1, 1)] (by decide +kernel) 154 #[.val (.ref r), .val (.ref n), .val (.ref v), .val (.int (Int32.ofNat (rcs).length))] [(.int (1 : Int32))] rfl ?_
    refine own_retZ C S1170 (by decide +kernel) (by decide) (by decide) (by decide) ?_
    exact ⟨rfl, rfl⟩
  have J5 : ∀ (T1171 : State), own_S p l e ({ frames := 5, cells := 0, slots := 0, locals := 69 } : Room) s m #[(.ref r), (.ref n), (.ref v)] below meth c n0 T1171 h0 0 0 → own_Go p e below (own_En s n0 (fun v h => v = some (.int (1 : Int32)) ∧ h = h0) ({ frames := 5, cells := 0, slots := 0, locals := 69 } : Room).cells ({ frames := 5, cells := 0, slots := 0, locals := 69 } : Room).slots) T1171 (mkF m 132 #[.val (.ref r), .val (.ref n), .val (.ref v), .val (.int (Int32.ofNat (rcs).length))] []) := by
    intro T1171 S1172
    refine own_seg C S1172 [(132, .iload_n 3, 1), (133, .iconst 5, 1)] (by decide +kernel) 134 #[.val (.ref r), .val (.ref n), .val (.ref v), .val (.int (Int32.ofNat (rcs).length))] [(.int (5 : Int32)), (.int (Int32.ofNat (rcs).length))] rfl ?_
    refine own_icmp C S1172 (q := .le) (o := 19) (by decide +kernel) 153 (by decide) (by decide) (fun (q1173 : ¬ (5 : Int32) < (Int32.ofNat (rcs).length)) => ?_) (fun (q1174 : (5 : Int32) < (Int32.ofNat (rcs).length)) => ?_)
    · exact J6 T1171 S1172
    · have hj : 5 < (rcs).length := (own_ofNat_lt (i := 5) (by omega) (by omega)).mp q1174
      refine own_seg C S1172 [(137, .aload_n 0, 1), (138, .iconst 5, 1)] (by decide +kernel) 139 #[.val (.ref r), .val (.ref n), .val (.ref v), .val (.int (Int32.ofNat (rcs).length))] [(.int (5 : Int32)), (.ref r)] rfl ?_
      refine own_callV C S1172 (own_wd hw 306 rfl) (own_wd hw 307 rfl) (own_wd hw 309 rfl) (y' := ⟨"java/lang/String", "charAt", "(I)C"⟩) rfl (own_wd hw 309 rfl) (own_wd hw 308 rfl) (by decide) (Q := (fun v h' L => v = some (.int ((rcs).getD 5 0)) ∧ L = [] ∧ h' = h0)) (StrChars.Road.chN (W := 0) C.2.2.2.2.2.2.2 (fun d hd => hw d (own_hch d hd)) (kI := 4) (own_wd hw 5 rfl) rE rV rC rK (own_codG rhp) (own_up _ rhp) (O2.ext X00.2) P5 (O4.ext X00.2) rG3 (Nat.le_trans rhl (by decide)) (i := 5) hj rfl (by decide) (by decide)) (fun _ _ L q => by rw [q.2.1]; exact Fr.nil _) rE [(.int (5 : Int32))] [] rfl own_pd27 rfl rfl rfl (Nat.le_of_ble_eq_true rfl) (by decide) (by decide) (by decide +kernel) ?_
      rintro T1176 h1177 v1178 L1179 S1180 ⟨rfl, -, e1175⟩
      replace S1180 : own_S p l e ({ frames := 5, cells := 0, slots := 0, locals := 69 } : Room) s m #[(.ref r), (.ref n), (.ref v)] below meth c n0 T1176 h1177 0 0 := S1180
      rw [e1175] at S1180; clear e1175
      show own_Go p e below _ T1176 (mkF m 142 #[.val (.ref r), .val (.ref n), .val (.ref v), .val (.int (Int32.ofNat (rcs).length))] [(.int ((rcs).getD 5 0))])
      refine own_seg C S1180 [(142, .aload_n 1, 1), (143, .aload_n 2, 1), (144, .iconst 5, 1)] (by decide +kernel) 145 #[.val (.ref r), .val (.ref n), .val (.ref v), .val (.int (Int32.ofNat (rcs).length))] [(.int (5 : Int32)), (.ref v), (.ref n), (.int ((rcs).getD 5 0))] rfl ?_
      refine own_callS C S1180 (own_wd hw 325 rfl) (own_wd hw 326 rfl) (own_wd hw 2 rfl) (own_wd hw 327 rfl) (by decide) (own_Met.pay (own_exp l Z a0 hw G1 G3 n nt nk ncs v vt vk vcs 5 h0 n0 z0 X00 nE nV nC nK vE vV vC vK O2 O4 P5 rG3 nhp nhl vhp vhl (by rw [hr] at hj; simp only [List.length_append, List.length_cons, List.length_nil] at hj; omega)) C 1 (own_wd hw 327 rfl) (own_wd hw 2 rfl) (by decide) (by decide)) (fun _ _ _ q => q.2) [(.ref n), (.ref v), (.int (5 : Int32))] [(.int ((rcs).getD 5 0))] rfl own_pd28 rfl rfl rfl (Nat.le_of_ble_eq_true rfl) (by decide) (by decide) (by decide +kernel) ?_
      rintro T1182 h1183 v1184 L1185 S1186 ⟨⟨rfl, e1181⟩, -⟩
      replace S1186 : own_S p l e ({ frames := 5, cells := 0, slots := 0, locals := 69 } : Room) s m #[(.ref r), (.ref n), (.ref v)] below meth c n0 T1182 h1183 0 0 := S1186
      rw [e1181] at S1186; clear e1181
      show own_Go p e below _ T1182 (mkF m 148 #[.val (.ref r), .val (.ref n), .val (.ref v), .val (.int (Int32.ofNat (rcs).length))] [(.int (own_E ncs vcs 5)), (.int ((rcs).getD 5 0))])
      refine own_icmp C S1186 (q := .eq) (o := 5) (by decide +kernel) 153 (by decide) (by decide) (fun (q1187 : ((rcs).getD 5 0) = (own_E ncs vcs 5)) => ?_) (fun (hq : ¬ ((rcs).getD 5 0) = (own_E ncs vcs 5)) => False.elim (hq (by rw [hr]; rfl)))
      exact J6 T1182 S1186
  have J4 : ∀ (T1188 : State), own_S p l e ({ frames := 5, cells := 0, slots := 0, locals := 69 } : Room) s m #[(.ref r), (.ref n), (.ref v)] below meth c n0 T1188 h0 0 0 → own_Go p e below (own_En s n0 (fun v h => v = some (.int (1 : Int32)) ∧ h = h0) ({ frames := 5, cells := 0, slots := 0, locals := 69 } : Room).cells ({ frames := 5, cells := 0, slots := 0, locals := 69 } : Room).slots) T1188 (mkF m 111 #[.val (.ref r), .val (.ref n), .val (.ref v), .val (.int (Int32.ofNat (rcs).length))] []) := by
    intro T1188 S1189
    refine own_seg C S1189 [(111, .iload_n 3, 1), (112, .iconst 4, 1)] (by decide +kernel) 113 #[.val (.ref r), .val (.ref n), .val (.ref v), .val (.int (Int32.ofNat (rcs).length))] [(.int (4 : Int32)), (.int (Int32.ofNat (rcs).length))] rfl ?_
    refine own_icmp C S1189 (q := .le) (o := 19) (by decide +kernel) 132 (by decide) (by decide) (fun (q1190 : ¬ (4 : Int32) < (Int32.ofNat (rcs).length)) => ?_) (fun (q1191 : (4 : Int32) < (Int32.ofNat (rcs).length)) => ?_)
    · exact J5 T1188 S1189
    · have hj : 4 < (rcs).length := (own_ofNat_lt (i := 4) (by omega) (by omega)).mp q1191
      refine own_seg C S1189 [(116, .aload_n 0, 1), (117, .iconst 4, 1)] (by decide +kernel) 118 #[.val (.ref r), .val (.ref n), .val (.ref v), .val (.int (Int32.ofNat (rcs).length))] [(.int (4 : Int32)), (.ref r)] rfl ?_
      refine own_callV C S1189 (own_wd hw 306 rfl) (own_wd hw 307 rfl) (own_wd hw 309 rfl) (y' := ⟨"java/lang/String", "charAt", "(I)C"⟩) rfl (own_wd hw 309 rfl) (own_wd hw 308 rfl) (by decide) (Q := (fun v h' L => v = some (.int ((rcs).getD 4 0)) ∧ L = [] ∧ h' = h0)) (StrChars.Road.chN (W := 0) C.2.2.2.2.2.2.2 (fun d hd => hw d (own_hch d hd)) (kI := 4) (own_wd hw 5 rfl) rE rV rC rK (own_codG rhp) (own_up _ rhp) (O2.ext X00.2) P5 (O4.ext X00.2) rG3 (Nat.le_trans rhl (by decide)) (i := 4) hj rfl (by decide) (by decide)) (fun _ _ L q => by rw [q.2.1]; exact Fr.nil _) rE [(.int (4 : Int32))] [] rfl own_pd27 rfl rfl rfl (Nat.le_of_ble_eq_true rfl) (by decide) (by decide) (by decide +kernel) ?_
      rintro T1193 h1194 v1195 L1196 S1197 ⟨rfl, -, e1192⟩
      replace S1197 : own_S p l e ({ frames := 5, cells := 0, slots := 0, locals := 69 } : Room) s m #[(.ref r), (.ref n), (.ref v)] below meth c n0 T1193 h1194 0 0 := S1197
      rw [e1192] at S1197; clear e1192
      show own_Go p e below _ T1193 (mkF m 121 #[.val (.ref r), .val (.ref n), .val (.ref v), .val (.int (Int32.ofNat (rcs).length))] [(.int ((rcs).getD 4 0))])
      refine own_seg C S1197 [(121, .aload_n 1, 1), (122, .aload_n 2, 1), (123, .iconst 4, 1)] (by decide +kernel) 124 #[.val (.ref r), .val (.ref n), .val (.ref v), .val (.int (Int32.ofNat (rcs).length))] [(.int (4 : Int32)), (.ref v), (.ref n), (.int ((rcs).getD 4 0))] rfl ?_
      refine own_callS C S1197 (own_wd hw 325 rfl) (own_wd hw 326 rfl) (own_wd hw 2 rfl) (own_wd hw 327 rfl) (by decide) (own_Met.pay (own_exp l Z a0 hw G1 G3 n nt nk ncs v vt vk vcs 4 h0 n0 z0 X00 nE nV nC nK vE vV vC vK O2 O4 P5 rG3 nhp nhl vhp vhl (by rw [hr] at hj; simp only [List.length_append, List.length_cons, List.length_nil] at hj; omega)) C 1 (own_wd hw 327 rfl) (own_wd hw 2 rfl) (by decide) (by decide)) (fun _ _ _ q => q.2) [(.ref n), (.ref v), (.int (4 : Int32))] [(.int ((rcs).getD 4 0))] rfl own_pd28 rfl rfl rfl (Nat.le_of_ble_eq_true rfl) (by decide) (by decide) (by decide +kernel) ?_
      rintro T1199 h1200 v1201 L1202 S1203 ⟨⟨rfl, e1198⟩, -⟩
      replace S1203 : own_S p l e ({ frames := 5, cells := 0, slots := 0, locals := 69 } : Room) s m #[(.ref r), (.ref n), (.ref v)] below meth c n0 T1199 h1200 0 0 := S1203
      rw [e1198] at S1203; clear e1198
      show own_Go p e below _ T1199 (mkF m 127 #[.val (.ref r), .val (.ref n), .val (.ref v), .val (.int (Int32.ofNat (rcs).length))] [(.int (own_E ncs vcs 4)), (.int ((rcs).getD 4 0))])
      refine own_icmp C S1203 (q := .eq) (o := 5) (by decide +kernel) 132 (by decide) (by decide) (fun (q1204 : ((rcs).getD 4 0) = (own_E ncs vcs 4)) => ?_) (fun (hq : ¬ ((rcs).getD 4 0) = (own_E ncs vcs 4)) => False.elim (hq (by rw [hr]; rfl)))
      exact J5 T1199 S1203
  have J3 : ∀ (T1205 : State), own_S p l e ({ frames := 5, cells := 0, slots := 0, locals := 69 } : Room) s m #[(.ref r), (.ref n), (.ref v)] below meth c n0 T1205 h0 0 0 → own_Go p e below (own_En s n0 (fun v h => v = some (.int (1 : Int32)) ∧ h = h0) ({ frames := 5, cells := 0, slots := 0, locals := 69 } : Room).cells ({ frames := 5, cells := 0, slots := 0, locals := 69 } : Room).slots) T1205 (mkF m 90 #[.val (.ref r), .val (.ref n), .val (.ref v), .val (.int (Int32.ofNat (rcs).length))] []) := by
    intro T1205 S1206
    refine own_seg C S1206 [(90, .iload_n 3, 1), (91, .iconst 3, 1)] (by decide +kernel) 92 #[.val (.ref r), .val (.ref n), .val (.ref v), .val (.int (Int32.ofNat (rcs).length))] [(.int (3 : Int32)), (.int (Int32.ofNat (rcs).length))] rfl ?_
    refine own_icmp C S1206 (q := .le) (o := 19) (by decide +kernel) 111 (by decide) (by decide) (fun (q1207 : ¬ (3 : Int32) < (Int32.ofNat (rcs).length)) => ?_) (fun (q1208 : (3 : Int32) < (Int32.ofNat (rcs).length)) => ?_)
    · exact J4 T1205 S1206
    · have hj : 3 < (rcs).length := (own_ofNat_lt (i := 3) (by omega) (by omega)).mp q1208
      refine own_seg C S1206 [(95, .aload_n 0, 1), (96, .iconst 3, 1)] (by decide +kernel) 97 #[.val (.ref r), .val (.ref n), .val (.ref v), .val (.int (Int32.ofNat (rcs).length))] [(.int (3 : Int32)), (.ref r)] rfl ?_
      refine own_callV C S1206 (own_wd hw 306 rfl) (own_wd hw 307 rfl) (own_wd hw 309 rfl) (y' := ⟨"java/lang/String", "charAt", "(I)C"⟩) rfl (own_wd hw 309 rfl) (own_wd hw 308 rfl) (by decide) (Q := (fun v h' L => v = some (.int ((rcs).getD 3 0)) ∧ L = [] ∧ h' = h0)) (StrChars.Road.chN (W := 0) C.2.2.2.2.2.2.2 (fun d hd => hw d (own_hch d hd)) (kI := 4) (own_wd hw 5 rfl) rE rV rC rK (own_codG rhp) (own_up _ rhp) (O2.ext X00.2) P5 (O4.ext X00.2) rG3 (Nat.le_trans rhl (by decide)) (i := 3) hj rfl (by decide) (by decide)) (fun _ _ L q => by rw [q.2.1]; exact Fr.nil _) rE [(.int (3 : Int32))] [] rfl own_pd27 rfl rfl rfl (Nat.le_of_ble_eq_true rfl) (by decide) (by decide) (by decide +kernel) ?_
      rintro T1210 h1211 v1212 L1213 S1214 ⟨rfl, -, e1209⟩
      replace S1214 : own_S p l e ({ frames := 5, cells := 0, slots := 0, locals := 69 } : Room) s m #[(.ref r), (.ref n), (.ref v)] below meth c n0 T1210 h1211 0 0 := S1214
      rw [e1209] at S1214; clear e1209
      show own_Go p e below _ T1210 (mkF m 100 #[.val (.ref r), .val (.ref n), .val (.ref v), .val (.int (Int32.ofNat (rcs).length))] [(.int ((rcs).getD 3 0))])
      refine own_seg C S1214 [(100, .aload_n 1, 1), (101, .aload_n 2, 1), (102, .iconst 3, 1)] (by decide +kernel) 103 #[.val (.ref r), .val (.ref n), .val (.ref v), .val (.int (Int32.ofNat (rcs).length))] [(.int (3 : Int32)), (.ref v), (.ref n), (.int ((rcs).getD 3 0))] rfl ?_
      refine own_callS C S1214 (own_wd hw 325 rfl) (own_wd hw 326 rfl) (own_wd hw 2 rfl) (own_wd hw 327 rfl) (by decide) (own_Met.pay (own_exp l Z a0 hw G1 G3 n nt nk ncs v vt vk vcs 3 h0 n0 z0 X00 nE nV nC nK vE vV vC vK O2 O4 P5 rG3 nhp nhl vhp vhl (by rw [hr] at hj; simp only [List.length_append, List.length_cons, List.length_nil] at hj; omega)) C 1 (own_wd hw 327 rfl) (own_wd hw 2 rfl) (by decide) (by decide)) (fun _ _ _ q => q.2) [(.ref n), (.ref v), (.int (3 : Int32))] [(.int ((rcs).getD 3 0))] rfl own_pd28 rfl rfl rfl (Nat.le_of_ble_eq_true rfl) (by decide) (by decide) (by decide +kernel) ?_
      rintro T1216 h1217 v1218 L1219 S1220 ⟨⟨rfl, e1215⟩, -⟩
      replace S1220 : own_S p l e ({ frames := 5, cells := 0, slots := 0, locals := 69 } : Room) s m #[(.ref r), (.ref n), (.ref v)] below meth c n0 T1216 h1217 0 0 := S1220
      rw [e1215] at S1220; clear e1215
      show own_Go p e below _ T1216 (mkF m 106 #[.val (.ref r), .val (.ref n), .val (.ref v), .val (.int (Int32.ofNat (rcs).length))] [(.int (own_E ncs vcs 3)), (.int ((rcs).getD 3 0))])
      refine own_icmp C S1220 (q := .eq) (o := 5) (by decide +kernel) 111 (by decide) (by decide) (fun (q1221 : ((rcs).getD 3 0) = (own_E ncs vcs 3)) => ?_) (fun (hq : ¬ ((rcs).getD 3 0) = (own_E ncs vcs 3)) => False.elim (hq (by rw [hr]; rfl)))
      exact J4 T1216 S1220
  have J2 : ∀ (T1222 : State), own_S p l e ({ frames := 5, cells := 0, slots := 0, locals := 69 } : Room) s m #[(.ref r), (.ref n), (.ref v)] below meth c n0 T1222 h0 0 0 → own_Go p e below (own_En s n0 (fun v h => v = some (.int (1 : Int32)) ∧ h = h0) ({ frames := 5, cells := 0, slots := 0, locals := 69 } : Room).cells ({ frames := 5, cells := 0, slots := 0, locals := 69 } : Room).slots) T1222 (mkF m 69 #[.val (.ref r), .val (.ref n), .val (.ref v), .val (.int (Int32.ofNat (rcs).length))] []) := by
    intro T1222 S1223
    refine own_seg C S1223 [(69, .iload_n 3, 1), (70, .iconst 2, 1)] (by decide +kernel) 71 #[.val (.ref r), .val (.ref n), .val (.ref v), .val (.int (Int32.ofNat (rcs).length))] [(.int (2 : Int32)), (.int (Int32.ofNat (rcs).length))] rfl ?_
    refine own_icmp C S1223 (q := .le) (o := 19) (by decide +kernel) 90 (by decide) (by decide) (fun (q1224 : ¬ (2 : Int32) < (Int32.ofNat (rcs).length)) => ?_) (fun (q1225 : (2 : Int32) < (Int32.ofNat (rcs).length)) => ?_)
    · exact J3 T1222 S1223
    · have hj : 2 < (rcs).length := (own_ofNat_lt (i := 2) (by omega) (by omega)).mp q1225
      refine own_seg C S1223 [(74, .aload_n 0, 1), (75, .iconst 2, 1)] (by decide +kernel) 76 #[.val (.ref r), .val (.ref n), .val (.ref v), .val (.int (Int32.ofNat (rcs).length))] [(.int (2 : Int32)), (.ref r)] rfl ?_
      refine own_callV C S1223 (own_wd hw 306 rfl) (own_wd hw 307 rfl) (own_wd hw 309 rfl) (y' := ⟨"java/lang/String", "charAt", "(I)C"⟩) rfl (own_wd hw 309 rfl) (own_wd hw 308 rfl) (by decide) (Q := (fun v h' L => v = some (.int ((rcs).getD 2 0)) ∧ L = [] ∧ h' = h0)) (StrChars.Road.chN (W := 0) C.2.2.2.2.2.2.2 (fun d hd => hw d (own_hch d hd)) (kI := 4) (own_wd hw 5 rfl) rE rV rC rK (own_codG rhp) (own_up _ rhp) (O2.ext X00.2) P5 (O4.ext X00.2) rG3 (Nat.le_trans rhl (by decide)) (i := 2) hj rfl (by decide) (by decide)) (fun _ _ L q => by rw [q.2.1]; exact Fr.nil _) rE [(.int (2 : Int32))] [] rfl own_pd27 rfl rfl rfl (Nat.le_of_ble_eq_true rfl) (by decide) (by decide) (by decide +kernel) ?_
      rintro T1227 h1228 v1229 L1230 S1231 ⟨rfl, -, e1226⟩
      replace S1231 : own_S p l e ({ frames := 5, cells := 0, slots := 0, locals := 69 } : Room) s m #[(.ref r), (.ref n), (.ref v)] below meth c n0 T1227 h1228 0 0 := S1231
      rw [e1226] at S1231; clear e1226
      show own_Go p e below _ T1227 (mkF m 79 #[.val (.ref r), .val (.ref n), .val (.ref v), .val (.int (Int32.ofNat (rcs).length))] [(.int ((rcs).getD 2 0))])
      refine own_seg C S1231 [(79, .aload_n 1, 1), (80, .aload_n 2, 1), (81, .iconst 2, 1)] (by decide +kernel) 82 #[.val (.ref r), .val (.ref n), .val (.ref v), .val (.int (Int32.ofNat (rcs).length))] [(.int (2 : Int32)), (.ref v), (.ref n), (.int ((rcs).getD 2 0))] rfl ?_
      refine own_callS C S1231 (own_wd hw 325 rfl) (own_wd hw 326 rfl) (own_wd hw 2 rfl) (own_wd hw 327 rfl) (by decide) (own_Met.pay (own_exp l Z a0 hw G1 G3 n nt nk ncs v vt vk vcs 2 h0 n0 z0 X00 nE nV nC nK vE vV vC vK O2 O4 P5 rG3 nhp nhl vhp vhl (by rw [hr] at hj; simp only [List.length_append, List.length_cons, List.length_nil] at hj; omega)) C 1 (own_wd hw 327 rfl) (own_wd hw 2 rfl) (by decide) (by decide)) (fun _ _ _ q => q.2) [(.ref n), (.ref v), (.int (2 : Int32))] [(.int ((rcs).getD 2 0))] rfl own_pd28 rfl rfl rfl (Nat.le_of_ble_eq_true rfl) (by decide) (by decide) (by decide +kernel) ?_
      rintro T1233 h1234 v1235 L1236 S1237 ⟨⟨rfl, e1232⟩, -⟩
      replace S1237 : own_S p l e ({ frames := 5, cells := 0, slots := 0, locals := 69 } : Room) s m #[(.ref r), (.ref n), (.ref v)] below meth c n0 T1233 h1234 0 0 := S1237
      rw [e1232] at S1237; clear e1232
      show own_Go p e below _ T1233 (mkF m 85 #[.val (.ref r), .val (.ref n), .val (.ref v), .val (.int (Int32.ofNat (rcs).length))] [(.int (own_E ncs vcs 2)), (.int ((rcs).getD 2 0))])
      refine own_icmp C S1237 (q := .eq) (o := 5) (by decide +kernel) 90 (by decide) (by decide) (fun (q1238 : ((rcs).getD 2 0) = (own_E ncs vcs 2)) => ?_) (fun (hq : ¬ ((rcs).getD 2 0) = (own_E ncs vcs 2)) => False.elim (hq (by rw [hr]; rfl)))
      exact J3 T1233 S1237
  have J1 : ∀ (T1239 : State), own_S p l e ({ frames := 5, cells := 0, slots := 0, locals := 69 } : Room) s m #[(.ref r), (.ref n), (.ref v)] below meth c n0 T1239 h0 0 0 → own_Go p e below (own_En s n0 (fun v h => v = some (.int (1 : Int32)) ∧ h = h0) ({ frames := 5, cells := 0, slots := 0, locals := 69 } : Room).cells ({ frames := 5, cells := 0, slots := 0, locals := 69 } : Room).slots) T1239 (mkF m 48 #[.val (.ref r), .val (.ref n), .val (.ref v), .val (.int (Int32.ofNat (rcs).length))] []) := by
    intro T1239 S1240
    refine own_seg C S1240 [(48, .iload_n 3, 1), (49, .iconst 1, 1)] (by decide +kernel) 50 #[.val (.ref r), .val (.ref n), .val (.ref v), .val (.int (Int32.ofNat (rcs).length))] [(.int (1 : Int32)), (.int (Int32.ofNat (rcs).length))] rfl ?_
    refine own_icmp C S1240 (q := .le) (o := 19) (by decide +kernel) 69 (by decide) (by decide) (fun (q1241 : ¬ (1 : Int32) < (Int32.ofNat (rcs).length)) => ?_) (fun (q1242 : (1 : Int32) < (Int32.ofNat (rcs).length)) => ?_)
    · exact J2 T1239 S1240
    · have hj : 1 < (rcs).length := (own_ofNat_lt (i := 1) (by omega) (by omega)).mp q1242
      refine own_seg C S1240 [(53, .aload_n 0, 1), (54, .iconst 1, 1)] (by decide +kernel) 55 #[.val (.ref r), .val (.ref n), .val (.ref v), .val (.int (Int32.ofNat (rcs).length))] [(.int (1 : Int32)), (.ref r)] rfl ?_
      refine own_callV C S1240 (own_wd hw 306 rfl) (own_wd hw 307 rfl) (own_wd hw 309 rfl) (y' := ⟨"java/lang/String", "charAt", "(I)C"⟩) rfl (own_wd hw 309 rfl) (own_wd hw 308 rfl) (by decide) (Q := (fun v h' L => v = some (.int ((rcs).getD 1 0)) ∧ L = [] ∧ h' = h0)) (StrChars.Road.chN (W := 0) C.2.2.2.2.2.2.2 (fun d hd => hw d (own_hch d hd)) (kI := 4) (own_wd hw 5 rfl) rE rV rC rK (own_codG rhp) (own_up _ rhp) (O2.ext X00.2) P5 (O4.ext X00.2) rG3 (Nat.le_trans rhl (by decide)) (i := 1) hj rfl (by decide) (by decide)) (fun _ _ L q => by rw [q.2.1]; exact Fr.nil _) rE [(.int (1 : Int32))] [] rfl own_pd27 rfl rfl rfl (Nat.le_of_ble_eq_true rfl) (by decide) (by decide) (by decide +kernel) ?_
      rintro T1244 h1245 v1246 L1247 S1248 ⟨rfl, -, e1243⟩
      replace S1248 : own_S p l e ({ frames := 5, cells := 0, slots := 0, locals := 69 } : Room) s m #[(.ref r), (.ref n), (.ref v)] below meth c n0 T1244 h1245 0 0 := S1248
      rw [e1243] at S1248; clear e1243
      show own_Go p e below _ T1244 (mkF m 58 #[.val (.ref r), .val (.ref n), .val (.ref v), .val (.int (Int32.ofNat (rcs).length))] [(.int ((rcs).getD 1 0))])
      refine own_seg C S1248 [(58, .aload_n 1, 1), (59, .aload_n 2, 1), (60, .iconst 1, 1)] (by decide +kernel) 61 #[.val (.ref r), .val (.ref n), .val (.ref v), .val (.int (Int32.ofNat (rcs).length))] [(.int (1 : Int32)), (.ref v), (.ref n), (.int ((rcs).getD 1 0))] rfl ?_
      refine own_callS C S1248 (own_wd hw 325 rfl) (own_wd hw 326 rfl) (own_wd hw 2 rfl) (own_wd hw 327 rfl) (by decide) (own_Met.pay (own_exp l Z a0 hw G1 G3 n nt nk ncs v vt vk vcs 1 h0 n0 z0 X00 nE nV nC nK vE vV vC vK O2 O4 P5 rG3 nhp nhl vhp vhl (by rw [hr] at hj; simp only [List.length_append, List.length_cons, List.length_nil] at hj; omega)) C 1 (own_wd hw 327 rfl) (own_wd hw 2 rfl) (by decide) (by decide)) (fun _ _ _ q => q.2) [(.ref n), (.ref v), (.int (1 : Int32))] [(.int ((rcs).getD 1 0))] rfl own_pd28 rfl rfl rfl (Nat.le_of_ble_eq_true rfl) (by decide) (by decide) (by decide +kernel) ?_
      rintro T1250 h1251 v1252 L1253 S1254 ⟨⟨rfl, e1249⟩, -⟩
      replace S1254 : own_S p l e ({ frames := 5, cells := 0, slots := 0, locals := 69 } : Room) s m #[(.ref r), (.ref n), (.ref v)] below meth c n0 T1250 h1251 0 0 := S1254
      rw [e1249] at S1254; clear e1249
      show own_Go p e below _ T1250 (mkF m 64 #[.val (.ref r), .val (.ref n), .val (.ref v), .val (.int (Int32.ofNat (rcs).length))] [(.int (own_E ncs vcs 1)), (.int ((rcs).getD 1 0))])
      refine own_icmp C S1254 (q := .eq) (o := 5) (by decide +kernel) 69 (by decide) (by decide) (fun (q1255 : ((rcs).getD 1 0) = (own_E ncs vcs 1)) => ?_) (fun (hq : ¬ ((rcs).getD 1 0) = (own_E ncs vcs 1)) => False.elim (hq (by rw [hr]; rfl)))
      exact J2 T1250 S1254
  have J0 : ∀ (T1256 : State), own_S p l e ({ frames := 5, cells := 0, slots := 0, locals := 69 } : Room) s m #[(.ref r), (.ref n), (.ref v)] below meth c n0 T1256 h0 0 0 → own_Go p e below (own_En s n0 (fun v h => v = some (.int (1 : Int32)) ∧ h = h0) ({ frames := 5, cells := 0, slots := 0, locals := 69 } : Room).cells ({ frames := 5, cells := 0, slots := 0, locals := 69 } : Room).slots) T1256 (mkF m 28 #[.val (.ref r), .val (.ref n), .val (.ref v), .val (.int (Int32.ofNat (rcs).length))] []) := by
    intro T1256 S1257
    refine own_seg C S1257 [(28, .iload_n 3, 1)] (by decide +kernel) 29 #[.val (.ref r), .val (.ref n), .val (.ref v), .val (.int (Int32.ofNat (rcs).length))] [(.int (Int32.ofNat (rcs).length))] rfl ?_
    refine own_if C S1257 (q := .le) (o := 19) (by decide +kernel) 48 (by decide) (by decide) (fun (q1258 : ¬ (0 : Int32) < (Int32.ofNat (rcs).length)) => ?_) (fun (q1259 : (0 : Int32) < (Int32.ofNat (rcs).length)) => ?_)
    · exact J1 T1256 S1257
    · have hj : 0 < (rcs).length := (own_ofNat_lt (i := 0) (by omega) (by omega)).mp q1259
      refine own_seg C S1257 [(32, .aload_n 0, 1), (33, .iconst 0, 1)] (by decide +kernel) 34 #[.val (.ref r), .val (.ref n), .val (.ref v), .val (.int (Int32.ofNat (rcs).length))] [(.int (0 : Int32)), (.ref r)] rfl ?_
      refine own_callV C S1257 (own_wd hw 306 rfl) (own_wd hw 307 rfl) (own_wd hw 309 rfl) (y' := ⟨"java/lang/String", "charAt", "(I)C"⟩) rfl (own_wd hw 309 rfl) (own_wd hw 308 rfl) (by decide) (Q := (fun v h' L => v = some (.int ((rcs).getD 0 0)) ∧ L = [] ∧ h' = h0)) (StrChars.Road.chN (W := 0) C.2.2.2.2.2.2.2 (fun d hd => hw d (own_hch d hd)) (kI := 4) (own_wd hw 5 rfl) rE rV rC rK (own_codG rhp) (own_up _ rhp) (O2.ext X00.2) P5 (O4.ext X00.2) rG3 (Nat.le_trans rhl (by decide)) (i := 0) hj rfl (by decide) (by decide)) (fun _ _ L q => by rw [q.2.1]; exact Fr.nil _) rE [(.int (0 : Int32))] [] rfl own_pd27 rfl rfl rfl (Nat.le_of_ble_eq_true rfl) (by decide) (by decide) (by decide +kernel) ?_
      rintro T1261 h1262 v1263 L1264 S1265 ⟨rfl, -, e1260⟩
      replace S1265 : own_S p l e ({ frames := 5, cells := 0, slots := 0, locals := 69 } : Room) s m #[(.ref r), (.ref n), (.ref v)] below meth c n0 T1261 h1262 0 0 := S1265
      rw [e1260] at S1265; clear e1260
      show own_Go p e below _ T1261 (mkF m 37 #[.val (.ref r), .val (.ref n), .val (.ref v), .val (.int (Int32.ofNat (rcs).length))] [(.int ((rcs).getD 0 0))])
      refine own_seg C S1265 [(37, .aload_n 1, 1), (38, .aload_n 2, 1), (39, .iconst 0, 1)] (by decide +kernel) 40 #[.val (.ref r), .val (.ref n), .val (.ref v), .val (.int (Int32.ofNat (rcs).length))] [(.int (0 : Int32)), (.ref v), (.ref n), (.int ((rcs).getD 0 0))] rfl ?_
      refine own_callS C S1265 (own_wd hw 325 rfl) (own_wd hw 326 rfl) (own_wd hw 2 rfl) (own_wd hw 327 rfl) (by decide) (own_Met.pay (own_exp l Z a0 hw G1 G3 n nt nk ncs v vt vk vcs 0 h0 n0 z0 X00 nE nV nC nK vE vV vC vK O2 O4 P5 rG3 nhp nhl vhp vhl (by rw [hr] at hj; simp only [List.length_append, List.length_cons, List.length_nil] at hj; omega)) C 1 (own_wd hw 327 rfl) (own_wd hw 2 rfl) (by decide) (by decide)) (fun _ _ _ q => q.2) [(.ref n), (.ref v), (.int (0 : Int32))] [(.int ((rcs).getD 0 0))] rfl own_pd28 rfl rfl rfl (Nat.le_of_ble_eq_true rfl) (by decide) (by decide) (by decide +kernel) ?_
      rintro T1267 h1268 v1269 L1270 S1271 ⟨⟨rfl, e1266⟩, -⟩
      replace S1271 : own_S p l e ({ frames := 5, cells := 0, slots := 0, locals := 69 } : Room) s m #[(.ref r), (.ref n), (.ref v)] below meth c n0 T1267 h1268 0 0 := S1271
      rw [e1266] at S1271; clear e1266
      show own_Go p e below _ T1267 (mkF m 43 #[.val (.ref r), .val (.ref n), .val (.ref v), .val (.int (Int32.ofNat (rcs).length))] [(.int (own_E ncs vcs 0)), (.int ((rcs).getD 0 0))])
      refine own_icmp C S1271 (q := .eq) (o := 5) (by decide +kernel) 48 (by decide) (by decide) (fun (q1272 : ((rcs).getD 0 0) = (own_E ncs vcs 0)) => ?_) (fun (hq : ¬ ((rcs).getD 0 0) = (own_E ncs vcs 0)) => False.elim (hq (by rw [hr]; rfl)))
      exact J1 T1267 S1271
  exact J0 T1163 S1167
theorem own_hws : ∀ d ∈ StrChars.Road.words, d ∈ tables_1 := by decide +kernel
theorem own_pd29 : parseMethodDescriptor "([C)V" = some ⟨[(.array .char)], none⟩ := by decide +kernel
set_option maxRecDepth 65536 in
set_option maxHeartbeats 40000000 in
theorem own_str (l : Launch) (Z : State) (a0 : Array Value) (hw : ∀ d ∈ tables_1, d.before a0 Z = true) (hEL : EW Z a0 own_EL) (wS : ∀ a ∈ Bundle.stringAtoms, a.before a0 Z = true) (G1 : Int32) (G3 : Value) (x : Int32) (n : Int32) (h0 : Heap) (n0 : Nat) (z0 : n0 ≤ h0.size) (X00 : Old Z n0 h0) (O2 : Sta Z Z.heap "java/lang/String" "COMPACT_STRINGS" "Z" (.int G1)) (O4 : Sta Z Z.heap "jdk/internal/util/Preconditions" "SIOOBE_FORMATTER" "Ljava/util/function/BiFunction;" G3) (P5 : ¬ G1 = (0 : Int32)) (rG3 : G3.isRef = true) :
    own_MetW l Z own_EL (⟨"com/example/reckoner/reckoner/cli/ReportAddPinLaw", "str", "(II)Ljava/lang/String;"⟩ : MethodName) method_3_code 4 (some (.object "java/lang/String")) ({ frames := 4, cells := 6, slots := 12, locals := 66 } : Room) n0 #[(.int x), (.int n)] h0 [] (fun v h => ∃ r : Addr, ∃ rt : Addr, ∃ rk : ClassId, ∃ rcs : List Int32, v = some (.ref r) ∧ h0.size ≤ r ∧ Keep h0 h [] ∧ Exa Z h r "java/lang/String" ∧ Fld Z h r "java/lang/String" "value" "[B" (.ref rt) ∧ Fld Z h r "java/lang/String" "coder" "B" (.int 0) ∧ Arv Z h rt rk .byte (Int32.ofNat (rcs).length) (own_sv rcs) (.int 0) ∧ (∀ c ∈ rcs, ¬ c < 0 ∧ ¬ (255 : Int32) < c) ∧ (rcs.length ≤ 2)) := by
  refine own_metW hEL wS (by decide +kernel) #[.val (.int x), .val (.int n), .unset, .unset] (fun m => by first | (simp [entryFrame, mkF, argsToLocals, Value.category]; done) | rfl) ?_
  intro p e s m below meth c T0 CW SW0
  refine own_lift CW SW0 ?_
  intro vm1273 C S1274 rb1275
  refine own_seg C S1274 [(0, .iload_n 0, 1), (1, .sipush 255, 3), (4, .iand, 1), (5, .i2c, 1), (6, .istore_n 2, 1), (7, .iload_n 0, 1), (8, .bipush 8, 2), (10, .iushr, 1), (11, .sipush 255, 3), (14, .iand, 1), (15, .i2c, 1), (16, .istore_n 3, 1)] (by decide +kernel) 17 #[.val (.int x), .val (.int n), .val (.int ((x &&& (255 : Int32)).toUInt32.toUInt16.toUInt32.toInt32)), .val (.int (((Jvm.Free.XT.ushr x (8 : Int32)) &&& (255 : Int32)).toUInt32.toUInt16.toUInt32.toInt32))] [] rfl ?_
  rw [show (x &&& (255 : Int32)).toUInt32.toUInt16.toUInt32.toInt32 = (x &&& (255 : Int32)) from i2c_mask x]
  rw [show ((Jvm.Free.XT.ushr x (8 : Int32)) &&& (255 : Int32)).toUInt32.toUInt16.toUInt32.toInt32 = ((Jvm.Free.XT.ushr x (8 : Int32)) &&& (255 : Int32)) from i2c_mask (Jvm.Free.XT.ushr x (8 : Int32))]
  refine own_seg C S1274 [(17, .iload_n 1, 1)] (by decide +kernel) 18 #[.val (.int x), .val (.int n), .val (.int (x &&& (255 : Int32))), .val (.int ((Jvm.Free.XT.ushr x (8 : Int32)) &&& (255 : Int32)))] [(.int n)] rfl ?_
  refine own_if C S1274 (q := .ne) (o := 14) (by decide +kernel) 32 (by decide) (by decide) (fun (q1276 : ¬ n = (0 : Int32)) => ?_) (fun (q1277 : n = (0 : Int32)) => ?_)
  · refine own_seg C S1274 [(32, .iload_n 1, 1), (33, .iconst 1, 1)] (by decide +kernel) 34 #[.val (.int x), .val (.int n), .val (.int (x &&& (255 : Int32))), .val (.int ((Jvm.Free.XT.ushr x (8 : Int32)) &&& (255 : Int32)))] [(.int (1 : Int32)), (.int n)] rfl ?_
    refine own_icmp C S1274 (q := .ne) (o := 18) (by decide +kernel) 52 (by decide) (by decide) (fun (q1278 : ¬ n = (1 : Int32)) => ?_) (fun (q1279 : n = (1 : Int32)) => ?_)
    · refine own_new C S1274 (own_wd hw 4 rfl) (own_wd hw 5 rfl) (own_wd hw 6 rfl) (by decide +kernel) (by decide) (by decide) ?_
      intro T1280 h1282 a1283 S1281 g1284 E1285 x1286 D1287
      have f1288 : Fld Z h1282 a1283 "java/lang/String" "value" "[B" .null := D1287 (ty := (.array .byte)) (Or.inr (own_wd hw 20 rfl)) own_fd0
      have f1289 : Fld Z h1282 a1283 "java/lang/String" "coder" "B" (.int (0 : Int32)) := D1287 (ty := .byte) (Or.inr (own_wd hw 21 rfl)) own_fd1
      refine own_seg C S1281 [(55, .dup, 1), (56, .iconst 2, 1)] (by decide +kernel) 57 #[.val (.int x), .val (.int n), .val (.int (x &&& (255 : Int32))), .val (.int ((Jvm.Free.XT.ushr x (8 : Int32)) &&& (255 : Int32)))] [(.int (2 : Int32)), (.ref a1283), (.ref a1283)] rfl ?_
      refine own_newP C S1281 (aty := .char) (own_wd hw 7 rfl) (by decide +kernel) (by decide) 2 (by decide) (by decide) (by decide) (by decide) ?_
      intro T1290 h1292 a1293 k1294 S1291 g1295 E1296 f1297
      have f1298 : Arv Z h1292 a1293 k1294 .char (2 : Int32) ([(.int (0 : Int32)), (.int (0 : Int32))]) (.int (0 : Int32)) := Arv.pad f1297 (pad_rep [] (.int (0 : Int32)) 2)
      refine own_seg C S1291 [(59, .dup, 1), (60, .iconst 0, 1), (61, .iload_n 2, 1)] (by decide +kernel) 62 #[.val (.int x), .val (.int n), .val (.int (x &&& (255 : Int32))), .val (.int ((Jvm.Free.XT.ushr x (8 : Int32)) &&& (255 : Int32)))] [(.int (x &&& (255 : Int32))), (.int (0 : Int32)), (.ref a1293), (.ref a1293), (.ref a1283), (.ref a1283)] rfl ?_
      have f1299 : n0 ≤ h1282.size := (Nat.le_trans z0 E1285.1)
      have g1300 : n0 ≤ a1293 := by rw [g1295]; exact f1299
      refine own_castore C S1291 f1298 ⟨(by decide), (by decide)⟩ 0 rfl (Nat.le_of_ble_eq_true rfl) (x &&& (255 : Int32)) (own_Ch.of x).2.1 g1300 (by decide +kernel) ?_
      intro T1301 h1303 S1302 W1304 f1305
      have f1306 : Arv Z h1303 a1293 k1294 .char (2 : Int32) ([(.int (x &&& (255 : Int32))), (.int (0 : Int32))]) (.int (0 : Int32)) := f1305
      refine own_seg C S1302 [(63, .dup, 1), (64, .iconst 1, 1), (65, .iload_n 3, 1)] (by decide +kernel) 66 #[.val (.int x), .val (.int n), .val (.int (x &&& (255 : Int32))), .val (.int ((Jvm.Free.XT.ushr x (8 : Int32)) &&& (255 : Int32)))] [(.int ((Jvm.Free.XT.ushr x (8 : Int32)) &&& (255 : Int32))), (.int (1 : Int32)), (.ref a1293), (.ref a1293), (.ref a1283), (.ref a1283)] rfl ?_
      refine own_castore C S1302 f1306 ⟨(by decide), (by decide)⟩ 1 rfl (Nat.le_of_ble_eq_true rfl) ((Jvm.Free.XT.ushr x (8 : Int32)) &&& (255 : Int32)) (own_Ch.of (Jvm.Free.XT.ushr x (8 : Int32))).2.1 g1300 (by decide +kernel) ?_
      intro T1307 h1309 S1308 W1310 f1311
      have f1312 : Arv Z h1309 a1293 k1294 .char (2 : Int32) ([(.int (x &&& (255 : Int32))), (.int ((Jvm.Free.XT.ushr x (8 : Int32)) &&& (255 : Int32)))]) (.int (0 : Int32)) := f1311
      have hp1313 : ∀ c ∈ ([(x &&& (255 : Int32)), ((Jvm.Free.XT.ushr x (8 : Int32)) &&& (255 : Int32))] : List Int32), ¬ c < 0 ∧ ¬ (255 : Int32) < c := by
        intro c hc; simp only [List.mem_cons, List.not_mem_nil, or_false] at hc
        rcases hc with rfl | rfl
        · exact (own_Ch.of x).1
        · exact (own_Ch.of (Jvm.Free.XT.ushr x (8 : Int32))).1
      have f1314 : n0 ≤ h1309.size := (by rw [W1310.size]; exact (by rw [W1304.size]; exact (Nat.le_trans f1299 E1296.1)))
      have g1315 : n0 ≤ a1283 := by rw [g1284]; exact z0
      have f1316 : Exa Z h1309 a1283 "java/lang/String" := (Exa.wr W1310 (Exa.wr W1304 (Exa.ext E1296 x1286)))
      have n1317 : a1283 ≠ a1293 := by rw [g1295]; exact Nat.ne_of_lt x1286.lt
      have f1318 : Fld Z h1309 a1283 "java/lang/String" "value" "[B" .null := (Fld.other W1310 (Fld.other W1304 (Fld.ext E1296 f1288) (Or.inl n1317)) (Or.inl n1317))
      have f1319 : Fld Z h1309 a1283 "java/lang/String" "coder" "B" (.int (0 : Int32)) := (Fld.other W1310 (Fld.other W1304 (Fld.ext E1296 f1289) (Or.inl n1317)) (Or.inl n1317))
      have f1320 : Old Z n0 h1309 := ((((X00.ext E1285).ext E1296).wr W1304 g1300).wr W1310 g1300)
      refine own_callI C S1308 rfl (own_wd hw 8 rfl) (own_wd hw 9 rfl) (own_wd hw 10 rfl) (by decide) (StrChars.Road.backV (W := 1) C.2.2.2.2.2.2.2 (fun d hd => hw d (own_hws d hd)) (kI := 4) (own_wd hw 5 rfl) (cs := ([(x &&& (255 : Int32)), ((Jvm.Free.XT.ushr x (8 : Int32)) &&& (255 : Int32))] : List Int32)) (bs := (([(x &&& (255 : Int32)), ((Jvm.Free.XT.ushr x (8 : Int32)) &&& (255 : Int32))] : List Int32)).map (fun c => c.toInt8.toInt32)) (n := 2) g1315 f1314 f1316 f1318 f1319 f1312 (O2.ext f1320.2) P5 rfl rfl (by decide) (by decide) hp1313 rfl (by decide) (by decide)) (fun _ _ _ q => q.2.1) [(.ref a1293)] [(.ref a1283)] rfl own_pd29 rfl rfl rfl (Nat.le_of_ble_eq_true rfl) (by decide) (by decide) (by decide +kernel) ?_
      rintro T1331 h1332 v1333 L1334 S1335 ⟨rfl, -, K1321, x1322, f1323, t1324, k1325, g1326, g1327, g1328, f1329, f1330⟩
      replace S1335 : own_S p l e ({ frames := 4, cells := 6, slots := 12, locals := 66 } : Room) (s.setVm vm1273) m #[(.int x), (.int n)] below meth c n0 T1331 h1332 3 8 := S1335
      have f1336 : Arv Z h1332 t1324 k1325 .byte (2 : Int32) ([(.int ((x &&& (255 : Int32)).toInt8.toInt32)), (.int (((Jvm.Free.XT.ushr x (8 : Int32)) &&& (255 : Int32)).toInt8.toInt32))]) (.int 0) := f1330
      have hcd1337 : StrChars.Road.CodA ([(x &&& (255 : Int32)), ((Jvm.Free.XT.ushr x (8 : Int32)) &&& (255 : Int32))] : List Int32) 0 (2 : Int32) [(.int ((x &&& (255 : Int32)).toInt8.toInt32)), (.int (((Jvm.Free.XT.ushr x (8 : Int32)) &&& (255 : Int32)).toInt8.toInt32))] := StrChars.Road.codOf (cs := ([(x &&& (255 : Int32)), ((Jvm.Free.XT.ushr x (8 : Int32)) &&& (255 : Int32))] : List Int32)) (n := 2) rfl (fun c hc => (hp1313 c hc).2)
      show own_Go p e below _ T1331 (mkF m 70 #[.val (.int x), .val (.int n), .val (.int (x &&& (255 : Int32))), .val (.int ((Jvm.Free.XT.ushr x (8 : Int32)) &&& (255 : Int32)))] [(.ref a1283)])
      have f1338 : a1293 < h1332.size := (Nat.lt_of_lt_of_le (by rw [W1310.size]; exact (by rw [W1304.size]; exact f1298.lt)) K1321.1)
      have f1339 : a1283 < h1332.size := (Nat.lt_of_lt_of_le (by rw [W1310.size]; exact (by rw [W1304.size]; exact (Nat.lt_of_lt_of_le x1286.lt E1296.1))) K1321.1)
      have SW1340 : own_SW p l e ({ frames := 4, cells := 6, slots := 12, locals := 66 } : Room) s m #[(.int x), (.int n)] below meth c n0 Z own_EL "com/example/reckoner/reckoner/cli/ReportAddPinLaw" T1331 h1332 [a1283, a1293, t1324] 3 8 := rb1275 _ _ _ _ [] [a1283, a1293, t1324] S1335 ((((((Keep.refl _ _).ext E1285).ext E1296).wr W1304 (Or.inr (by rw [g1295]; exact (Nat.le_trans (Nat.le_refl _) E1285.1)))).wr W1310 (Or.inr (by rw [g1295]; exact (Nat.le_trans (Nat.le_refl _) E1285.1)))).trans K1321 (allS (Or.inr (by rw [g1284]; exact (Nat.le_refl _))) all0)) all0 (allS ⟨(by rw [g1284]; exact (Nat.le_refl _)), f1339⟩ (allS ⟨(by rw [g1295]; exact (Nat.le_trans (Nat.le_refl _) E1285.1)), f1338⟩ (allS ⟨(Nat.le_trans (by rw [W1310.size]; exact (by rw [W1304.size]; exact (Nat.le_trans (Nat.le_trans (Nat.le_refl _) E1285.1) E1296.1))) g1327), f1336.lt⟩ all0)))
      refine own_retAW CW SW1340 rfl rfl (by decide +kernel) (by decide) (by decide) ?_
      exact ⟨a1283, t1324, k1325, ([(x &&& (255 : Int32)), ((Jvm.Free.XT.ushr x (8 : Int32)) &&& (255 : Int32))] : List Int32), rfl, (by rw [g1284]; exact (Nat.le_refl _)), ((((((Keep.refl _ _).ext E1285).ext E1296).wr W1304 (Or.inr (by rw [g1295]; exact (Nat.le_trans (Nat.le_refl _) E1285.1)))).wr W1310 (Or.inr (by rw [g1295]; exact (Nat.le_trans (Nat.le_refl _) E1285.1)))).trans K1321 (allS (Or.inr (by rw [g1284]; exact (Nat.le_refl _))) all0)), x1322, f1329, f1323, f1336, hp1313, (Nat.le_of_ble_eq_true rfl)⟩
    · refine own_new C S1274 (own_wd hw 4 rfl) (own_wd hw 5 rfl) (own_wd hw 6 rfl) (by decide +kernel) (by decide) (by decide) ?_
      intro T1341 h1343 a1344 S1342 g1345 E1346 x1347 D1348
      have f1349 : Fld Z h1343 a1344 "java/lang/String" "value" "[B" .null := D1348 (ty := (.array .byte)) (Or.inr (own_wd hw 20 rfl)) own_fd0
      have f1350 : Fld Z h1343 a1344 "java/lang/String" "coder" "B" (.int (0 : Int32)) := D1348 (ty := .byte) (Or.inr (own_wd hw 21 rfl)) own_fd1
      refine own_seg C S1342 [(40, .dup, 1), (41, .iconst 1, 1)] (by decide +kernel) 42 #[.val (.int x), .val (.int n), .val (.int (x &&& (255 : Int32))), .val (.int ((Jvm.Free.XT.ushr x (8 : Int32)) &&& (255 : Int32)))] [(.int (1 : Int32)), (.ref a1344), (.ref a1344)] rfl ?_
      refine own_newP C S1342 (aty := .char) (own_wd hw 7 rfl) (by decide +kernel) (by decide) 1 (by decide) (by decide) (by decide) (by decide) ?_
      intro T1351 h1353 a1354 k1355 S1352 g1356 E1357 f1358
      have f1359 : Arv Z h1353 a1354 k1355 .char (1 : Int32) ([(.int (0 : Int32))]) (.int (0 : Int32)) := Arv.pad f1358 (pad_rep [] (.int (0 : Int32)) 1)
      refine own_seg C S1352 [(44, .dup, 1), (45, .iconst 0, 1), (46, .iload_n 2, 1)] (by decide +kernel) 47 #[.val (.int x), .val (.int n), .val (.int (x &&& (255 : Int32))), .val (.int ((Jvm.Free.XT.ushr x (8 : Int32)) &&& (255 : Int32)))] [(.int (x &&& (255 : Int32))), (.int (0 : Int32)), (.ref a1354), (.ref a1354), (.ref a1344), (.ref a1344)] rfl ?_
      have f1360 : n0 ≤ h1343.size := (Nat.le_trans z0 E1346.1)
      have g1361 : n0 ≤ a1354 := by rw [g1356]; exact f1360
      refine own_castore C S1352 f1359 ⟨(by decide), (by decide)⟩ 0 rfl (Nat.le_of_ble_eq_true rfl) (x &&& (255 : Int32)) (own_Ch.of x).2.1 g1361 (by decide +kernel) ?_
      intro T1362 h1364 S1363 W1365 f1366
      have f1367 : Arv Z h1364 a1354 k1355 .char (1 : Int32) ([(.int (x &&& (255 : Int32)))]) (.int (0 : Int32)) := f1366
      have hp1368 : ∀ c ∈ ([(x &&& (255 : Int32))] : List Int32), ¬ c < 0 ∧ ¬ (255 : Int32) < c := by
        intro c hc; simp only [List.mem_cons, List.not_mem_nil, or_false] at hc
        rcases hc with rfl
        · exact (own_Ch.of x).1
      have f1369 : n0 ≤ h1364.size := (by rw [W1365.size]; exact (Nat.le_trans f1360 E1357.1))
      have g1370 : n0 ≤ a1344 := by rw [g1345]; exact z0
      have f1371 : Exa Z h1364 a1344 "java/lang/String" := (Exa.wr W1365 (Exa.ext E1357 x1347))
      have n1372 : a1344 ≠ a1354 := by rw [g1356]; exact Nat.ne_of_lt x1347.lt
      have f1373 : Fld Z h1364 a1344 "java/lang/String" "value" "[B" .null := (Fld.other W1365 (Fld.ext E1357 f1349) (Or.inl n1372))
      have f1374 : Fld Z h1364 a1344 "java/lang/String" "coder" "B" (.int (0 : Int32)) := (Fld.other W1365 (Fld.ext E1357 f1350) (Or.inl n1372))
      have f1375 : Old Z n0 h1364 := (((X00.ext E1346).ext E1357).wr W1365 g1361)
      refine own_callI C S1363 rfl (own_wd hw 8 rfl) (own_wd hw 9 rfl) (own_wd hw 10 rfl) (by decide) (StrChars.Road.backV (W := 1) C.2.2.2.2.2.2.2 (fun d hd => hw d (own_hws d hd)) (kI := 4) (own_wd hw 5 rfl) (cs := ([(x &&& (255 : Int32))] : List Int32)) (bs := (([(x &&& (255 : Int32))] : List Int32)).map (fun c => c.toInt8.toInt32)) (n := 1) g1370 f1369 f1371 f1373 f1374 f1367 (O2.ext f1375.2) P5 rfl rfl (by decide) (by decide) hp1368 rfl (by decide) (by decide)) (fun _ _ _ q => q.2.1) [(.ref a1354)] [(.ref a1344)] rfl own_pd29 rfl rfl rfl (Nat.le_of_ble_eq_true rfl) (by decide) (by decide) (by decide +kernel) ?_
      rintro T1386 h1387 v1388 L1389 S1390 ⟨rfl, -, K1376, x1377, f1378, t1379, k1380, g1381, g1382, g1383, f1384, f1385⟩
      replace S1390 : own_S p l e ({ frames := 4, cells := 6, slots := 12, locals := 66 } : Room) (s.setVm vm1273) m #[(.int x), (.int n)] below meth c n0 T1386 h1387 3 6 := S1390
      have f1391 : Arv Z h1387 t1379 k1380 .byte (1 : Int32) ([(.int ((x &&& (255 : Int32)).toInt8.toInt32))]) (.int 0) := f1385
      have hcd1392 : StrChars.Road.CodA ([(x &&& (255 : Int32))] : List Int32) 0 (1 : Int32) [(.int ((x &&& (255 : Int32)).toInt8.toInt32))] := StrChars.Road.codOf (cs := ([(x &&& (255 : Int32))] : List Int32)) (n := 1) rfl (fun c hc => (hp1368 c hc).2)
      show own_Go p e below _ T1386 (mkF m 51 #[.val (.int x), .val (.int n), .val (.int (x &&& (255 : Int32))), .val (.int ((Jvm.Free.XT.ushr x (8 : Int32)) &&& (255 : Int32)))] [(.ref a1344)])
      have f1393 : a1354 < h1387.size := (Nat.lt_of_lt_of_le (by rw [W1365.size]; exact f1359.lt) K1376.1)
      have f1394 : a1344 < h1387.size := (Nat.lt_of_lt_of_le (by rw [W1365.size]; exact (Nat.lt_of_lt_of_le x1347.lt E1357.1)) K1376.1)
      have SW1395 : own_SW p l e ({ frames := 4, cells := 6, slots := 12, locals := 66 } : Room) s m #[(.int x), (.int n)] below meth c n0 Z own_EL "com/example/reckoner/reckoner/cli/ReportAddPinLaw" T1386 h1387 [a1344, a1354, t1379] 3 6 := rb1275 _ _ _ _ [] [a1344, a1354, t1379] S1390 (((((Keep.refl _ _).ext E1346).ext E1357).wr W1365 (Or.inr (by rw [g1356]; exact (Nat.le_trans (Nat.le_refl _) E1346.1)))).trans K1376 (allS (Or.inr (by rw [g1345]; exact (Nat.le_refl _))) all0)) all0 (allS ⟨(by rw [g1345]; exact (Nat.le_refl _)), f1394⟩ (allS ⟨(by rw [g1356]; exact (Nat.le_trans (Nat.le_refl _) E1346.1)), f1393⟩ (allS ⟨(Nat.le_trans (by rw [W1365.size]; exact (Nat.le_trans (Nat.le_trans (Nat.le_refl _) E1346.1) E1357.1)) g1382), f1391.lt⟩ all0)))
      refine own_retAW CW SW1395 rfl rfl (by decide +kernel) (by decide) (by decide) ?_
      exact ⟨a1344, t1379, k1380, ([(x &&& (255 : Int32))] : List Int32), rfl, (by rw [g1345]; exact (Nat.le_refl _)), (((((Keep.refl _ _).ext E1346).ext E1357).wr W1365 (Or.inr (by rw [g1356]; exact (Nat.le_trans (Nat.le_refl _) E1346.1)))).trans K1376 (allS (Or.inr (by rw [g1345]; exact (Nat.le_refl _))) all0)), x1377, f1384, f1378, f1391, hp1368, (Nat.le_of_ble_eq_true rfl)⟩
  · refine own_new C S1274 (own_wd hw 4 rfl) (own_wd hw 5 rfl) (own_wd hw 6 rfl) (by decide +kernel) (by decide) (by decide) ?_
    intro T1396 h1398 a1399 S1397 g1400 E1401 x1402 D1403
    have f1404 : Fld Z h1398 a1399 "java/lang/String" "value" "[B" .null := D1403 (ty := (.array .byte)) (Or.inr (own_wd hw 20 rfl)) own_fd0
    have f1405 : Fld Z h1398 a1399 "java/lang/String" "coder" "B" (.int (0 : Int32)) := D1403 (ty := .byte) (Or.inr (own_wd hw 21 rfl)) own_fd1
    refine own_seg C S1397 [(24, .dup, 1), (25, .iconst 0, 1)] (by decide +kernel) 26 #[.val (.int x), .val (.int n), .val (.int (x &&& (255 : Int32))), .val (.int ((Jvm.Free.XT.ushr x (8 : Int32)) &&& (255 : Int32)))] [(.int (0 : Int32)), (.ref a1399), (.ref a1399)] rfl ?_
    refine own_newP C S1397 (aty := .char) (own_wd hw 7 rfl) (by decide +kernel) (by decide) 0 (by decide) (by decide) (by decide) (by decide) ?_
    intro T1406 h1408 a1409 k1410 S1407 g1411 E1412 f1413
    have f1414 : Arv Z h1408 a1409 k1410 .char (0 : Int32) ([]) (.int (0 : Int32)) := Arv.pad f1413 (pad_rep [] (.int (0 : Int32)) 0)
    have f1415 : a1399 < h1408.size := (Nat.lt_of_lt_of_le x1402.lt E1412.1)
    have SW1416 : own_SW p l e ({ frames := 4, cells := 6, slots := 12, locals := 66 } : Room) s m #[(.int x), (.int n)] below meth c n0 Z own_EL "com/example/reckoner/reckoner/cli/ReportAddPinLaw" T1406 h1408 [a1399, a1409] 2 4 := rb1275 _ _ _ _ [] [a1399, a1409] S1407 (((Keep.refl _ _).ext E1401).ext E1412) all0 (allS ⟨(by rw [g1400]; exact (Nat.le_refl _)), f1415⟩ (allS ⟨(by rw [g1411]; exact (Nat.le_trans (Nat.le_refl _) E1401.1)), f1414.lt⟩ all0))
    have f1417 : Exa Z h1408 a1399 "java/lang/String" := (Exa.ext E1412 x1402)
    have f1418 : Fld Z h1408 a1399 "java/lang/String" "value" "[B" .null := (Fld.ext E1412 f1404)
    have f1419 : Fld Z h1408 a1399 "java/lang/String" "coder" "B" (.int (0 : Int32)) := (Fld.ext E1412 f1405)
    have f1420 : n0 ≤ h1408.size := (Nat.le_trans (Nat.le_trans z0 E1401.1) E1412.1)
    have g1421 : n0 ≤ a1399 := by rw [g1400]; exact z0
    refine own_callIW CW SW1416 rfl (own_wd hw 8 rfl) (own_wd hw 9 rfl) (own_wd hw 6 rfl) (own_wd hw 10 rfl) (by decide) (own_se1 l Z a0 hw hEL wS a1399 a1409 k1410 ([]) (.int (0 : Int32)) h1408 n0 f1420 g1421 f1417 f1418 f1419 f1414) (allS (List.mem_of_getElem? (i := 0) rfl) all0) 1 (by decide) (by decide) [(.ref a1409)] [(.ref a1399)] rfl own_pd29 rfl rfl rfl (Nat.le_of_ble_eq_true rfl) (by decide) (by decide) (by decide +kernel) ?_
    rintro T1434 h1435 v1436 SW1437 hg1438 ⟨a1422, k1423, rfl, K1424, f1425, f1426, f1427, f1428⟩
    replace SW1437 : own_SW p l e ({ frames := 4, cells := 6, slots := 12, locals := 66 } : Room) s m #[(.int x), (.int n)] below meth c n0 Z own_EL "com/example/reckoner/reckoner/cli/ReportAddPinLaw" T1434 h1435 [a1399, a1409] 6 12 := SW1437
    show own_Go p e below _ T1434 (mkF m 31 #[.val (.int x), .val (.int n), .val (.int (x &&& (255 : Int32))), .val (.int ((Jvm.Free.XT.ushr x (8 : Int32)) &&& (255 : Int32)))] [(.ref a1399)])
    have hp1439 : ∀ c ∈ ([] : List Int32), ¬ c < 0 ∧ ¬ (255 : Int32) < c := by
      intro c hc; cases hc
    have hcd1440 : StrChars.Road.CodA ([] : List Int32) 0 (0 : Int32) [] := StrChars.Road.codOf (cs := ([] : List Int32)) (n := 0) rfl (fun c hc => (hp1439 c hc).2)
    refine own_retAW CW SW1437 rfl rfl (by decide +kernel) (by decide) (by decide) ?_
    exact ⟨a1399, a1422, k1423, ([] : List Int32), rfl, (by rw [g1400]; exact (Nat.le_refl _)), ((((Keep.refl _ _).ext E1401).ext E1412).trans K1424 (allS (Or.inr (by rw [g1400]; exact (Nat.le_refl _))) all0)), f1425, f1427, f1426, f1428, hp1439, (by decide)⟩
theorem own_pd30 : parseMethodDescriptor "(II)Ljava/lang/String;" = some ⟨[.int, .int], (some (.object "java/lang/String"))⟩ := by decide +kernel
theorem own_pd31 : parseMethodDescriptor "()Ljava/util/List;" = some ⟨[], (some (.object "java/util/List"))⟩ := by decide +kernel
theorem own_pd32 : parseMethodDescriptor "(Ljava/lang/String;Ljava/lang/String;)Lcom/example/reckoner/reckoner/cli/Report;" = some ⟨[(.object "java/lang/String"), (.object "java/lang/String")], (some (.object "com/example/reckoner/reckoner/cli/Report"))⟩ := by decide +kernel
theorem own_pd33 : parseMethodDescriptor "(Ljava/lang/String;Ljava/lang/String;Ljava/lang/String;)Z" = some ⟨[(.object "java/lang/String"), (.object "java/lang/String"), (.object "java/lang/String")], (some .boolean)⟩ := by decide +kernel
set_option maxRecDepth 65536 in
set_option maxHeartbeats 40000000 in
theorem own_law (l : Launch) (Z : State) (a0 : Array Value) (hw : ∀ d ∈ tables_1, d.before a0 Z = true) (hEL : EW Z a0 own_EL) (wS : ∀ a ∈ Bundle.stringAtoms, a.before a0 Z = true) (G1 : Int32) (G3 : Value) (D0 : Addr) (D0k : ClassId) (m1 : Addr) (m2 : Addr) (m3 : Addr) (i0 : Int32) (i1 : Int32) (i2 : Int32) (i3 : Int32) (i4 : Int32) (h0 : Heap) (n0 : Nat) (z0 : n0 ≤ h0.size) (X00 : Old Z n0 h0) (D0K : Arv Z h0 D0 D0k (.object "java/lang/Object") (0 : Int32) ([]) .null) (O2 : Sta Z Z.heap "java/lang/String" "COMPACT_STRINGS" "Z" (.int G1)) (O4 : Sta Z Z.heap "jdk/internal/util/Preconditions" "SIOOBE_FORMATTER" "Ljava/util/function/BiFunction;" G3) (P5 : ¬ G1 = (0 : Int32)) (rG3 : G3.isRef = true) (OD : Sta Z Z.heap "java/util/ArrayList" "DEFAULTCAPACITY_EMPTY_ELEMENTDATA" "[Ljava/lang/Object;" (.ref D0)) (D0lt : D0 < n0) (M1 : Mir Z "java/util/ArrayList" m1) (M2 : Mir Z "java/util/Collections$UnmodifiableList" m2) (M3 : Mir Z "java/util/Collections$UnmodifiableRandomAccessList" m3) :
    own_MetW l Z own_EL x code maxLocals ret room_1 n0 #[(.int i0), (.int i1), (.int i2), (.int i3), (.int i4)] h0 [] (fun v h => v = some (.int 1)) := by
  refine own_metW hEL wS (by decide +kernel) #[.val (.int i0), .val (.int i1), .val (.int i2), .val (.int i3), .val (.int i4), .unset, .unset, .unset, .unset, .unset, .unset, .unset, .unset, .unset] (fun m => by first | (simp [entryFrame, mkF, argsToLocals, Value.category, maxLocals]; done) | rfl) ?_
  intro p e s m below meth c T0 CW SW0
  refine own_lift CW SW0 ?_
  intro vm1441 C S1442 rb1443
  refine own_seg C S1442 [(0, .iload_n 0, 1), (1, .iload 4, 2), (3, .iconst 3, 1), (4, .iand, 1)] (by decide +kernel) 5 #[.val (.int i0), .val (.int i1), .val (.int i2), .val (.int i3), .val (.int i4), .unset, .unset, .unset, .unset, .unset, .unset, .unset, .unset, .unset] [(.int (i4 &&& (3 : Int32))), (.int i0)] rfl ?_
  have SW1461 : own_SW p l e room_1 s m #[(.int i0), (.int i1), (.int i2), (.int i3), (.int i4)] below meth c n0 Z own_EL "com/example/reckoner/reckoner/cli/ReportAddPinLaw" T0 h0 [] 0 0 := rb1443 _ _ _ _ [] [] S1442 (Keep.refl _ _) all0 all0
  refine own_callSW CW SW1461 (own_wd hw 0 rfl) (own_wd hw 1 rfl) (own_wd hw 2 rfl) (own_wd hw 3 rfl) (by decide) (own_str l Z a0 hw hEL wS G1 G3 i0 (i4 &&& (3 : Int32)) h0 n0 z0 X00 O2 O4 P5 rG3) all0 0 (by decide) (by decide) [(.int i0), (.int (i4 &&& (3 : Int32)))] [] rfl own_pd30 rfl rfl rfl (Nat.le_of_ble_eq_true rfl) (by decide) (by decide) (by decide +kernel) ?_
  rintro T1462 h1463 v1464 SW1465 hg1466 ⟨a1444, a1445, k1446, y1447, rfl, g1448, K1449, f1450, f1451, f1452, f1453, p1454, p1455⟩
  replace SW1465 : own_SW p l e room_1 s m #[(.int i0), (.int i1), (.int i2), (.int i3), (.int i4)] below meth c n0 Z own_EL "com/example/reckoner/reckoner/cli/ReportAddPinLaw" T1462 h1463 [] 6 12 := SW1465
  show own_Go p e below _ T1462 (mkF m 8 #[.val (.int i0), .val (.int i1), .val (.int i2), .val (.int i3), .val (.int i4), .unset, .unset, .unset, .unset, .unset, .unset, .unset, .unset, .unset] [(.ref a1444)])
  refine own_lift CW SW1465 ?_
  intro vm1467 C S1468 rb1469
  refine own_seg C S1468 [(8, .astore 5, 2), (10, .iload_n 1, 1), (11, .iload 4, 2), (13, .iconst 2, 1), (14, .iushr, 1), (15, .iconst 3, 1), (16, .iand, 1)] (by decide +kernel) 17 #[.val (.int i0), .val (.int i1), .val (.int i2), .val (.int i3), .val (.int i4), .val (.ref a1444), .unset, .unset, .unset, .unset, .unset, .unset, .unset, .unset] [(.int ((Jvm.Free.XT.ushr i4 (2 : Int32)) &&& (3 : Int32))), (.int i1)] rfl ?_
  have f1470 : Old Z n0 h1463 := (X00.keep K1449 all0)
  have f1471 : n0 ≤ h1463.size := (Nat.le_trans z0 K1449.1)
  have SW1489 : own_SW p l e room_1 s m #[(.int i0), (.int i1), (.int i2), (.int i3), (.int i4)] below meth c n0 Z own_EL "com/example/reckoner/reckoner/cli/ReportAddPinLaw" T1462 h1463 [] 6 12 := rb1469 _ _ _ _ [] [] S1468 (Keep.refl _ _) all0 all0
  refine own_callSW CW SW1489 (own_wd hw 0 rfl) (own_wd hw 1 rfl) (own_wd hw 2 rfl) (own_wd hw 3 rfl) (by decide) (own_str l Z a0 hw hEL wS G1 G3 i1 ((Jvm.Free.XT.ushr i4 (2 : Int32)) &&& (3 : Int32)) h1463 n0 f1471 f1470 O2 O4 P5 rG3) all0 0 (by decide) (by decide) [(.int i1), (.int ((Jvm.Free.XT.ushr i4 (2 : Int32)) &&& (3 : Int32)))] [] rfl own_pd30 rfl rfl rfl (Nat.le_of_ble_eq_true rfl) (by decide) (by decide) (by decide +kernel) ?_
  rintro T1490 h1491 v1492 SW1493 hg1494 ⟨a1472, a1473, k1474, y1475, rfl, g1476, K1477, f1478, f1479, f1480, f1481, p1482, p1483⟩
  replace SW1493 : own_SW p l e room_1 s m #[(.int i0), (.int i1), (.int i2), (.int i3), (.int i4)] below meth c n0 Z own_EL "com/example/reckoner/reckoner/cli/ReportAddPinLaw" T1490 h1491 [] 12 24 := SW1493
  show own_Go p e below _ T1490 (mkF m 20 #[.val (.int i0), .val (.int i1), .val (.int i2), .val (.int i3), .val (.int i4), .val (.ref a1444), .unset, .unset, .unset, .unset, .unset, .unset, .unset, .unset] [(.ref a1472)])
  refine own_lift CW SW1493 ?_
  intro vm1495 C S1496 rb1497
  refine own_seg C S1496 [(20, .astore 6, 2), (22, .iload_n 2, 1), (23, .iload 4, 2), (25, .iconst 4, 1), (26, .iushr, 1), (27, .iconst 3, 1), (28, .iand, 1)] (by decide +kernel) 29 #[.val (.int i0), .val (.int i1), .val (.int i2), .val (.int i3), .val (.int i4), .val (.ref a1444), .val (.ref a1472), .unset, .unset, .unset, .unset, .unset, .unset, .unset] [(.int ((Jvm.Free.XT.ushr i4 (4 : Int32)) &&& (3 : Int32))), (.int i2)] rfl ?_
  have f1498 : Old Z n0 h1491 := (f1470.keep K1477 all0)
  have f1499 : n0 ≤ h1491.size := (Nat.le_trans f1471 K1477.1)
  have SW1517 : own_SW p l e room_1 s m #[(.int i0), (.int i1), (.int i2), (.int i3), (.int i4)] below meth c n0 Z own_EL "com/example/reckoner/reckoner/cli/ReportAddPinLaw" T1490 h1491 [] 12 24 := rb1497 _ _ _ _ [] [] S1496 (Keep.refl _ _) all0 all0
  refine own_callSW CW SW1517 (own_wd hw 0 rfl) (own_wd hw 1 rfl) (own_wd hw 2 rfl) (own_wd hw 3 rfl) (by decide) (own_str l Z a0 hw hEL wS G1 G3 i2 ((Jvm.Free.XT.ushr i4 (4 : Int32)) &&& (3 : Int32)) h1491 n0 f1499 f1498 O2 O4 P5 rG3) all0 0 (by decide) (by decide) [(.int i2), (.int ((Jvm.Free.XT.ushr i4 (4 : Int32)) &&& (3 : Int32)))] [] rfl own_pd30 rfl rfl rfl (Nat.le_of_ble_eq_true rfl) (by decide) (by decide) (by decide +kernel) ?_
  rintro T1518 h1519 v1520 SW1521 hg1522 ⟨a1500, a1501, k1502, y1503, rfl, g1504, K1505, f1506, f1507, f1508, f1509, p1510, p1511⟩
  replace SW1521 : own_SW p l e room_1 s m #[(.int i0), (.int i1), (.int i2), (.int i3), (.int i4)] below meth c n0 Z own_EL "com/example/reckoner/reckoner/cli/ReportAddPinLaw" T1518 h1519 [] 18 36 := SW1521
  show own_Go p e below _ T1518 (mkF m 32 #[.val (.int i0), .val (.int i1), .val (.int i2), .val (.int i3), .val (.int i4), .val (.ref a1444), .val (.ref a1472), .unset, .unset, .unset, .unset, .unset, .unset, .unset] [(.ref a1500)])
  refine own_lift CW SW1521 ?_
  intro vm1523 C S1524 rb1525
  refine own_seg C S1524 [(32, .astore 7, 2), (34, .iload_n 3, 1), (35, .iload 4, 2), (37, .bipush 6, 2), (39, .iushr, 1), (40, .iconst 3, 1), (41, .iand, 1)] (by decide +kernel) 42 #[.val (.int i0), .val (.int i1), .val (.int i2), .val (.int i3), .val (.int i4), .val (.ref a1444), .val (.ref a1472), .val (.ref a1500), .unset, .unset, .unset, .unset, .unset, .unset] [(.int ((Jvm.Free.XT.ushr i4 (6 : Int32)) &&& (3 : Int32))), (.int i3)] rfl ?_
  have f1526 : Old Z n0 h1519 := (f1498.keep K1505 all0)
  have f1527 : n0 ≤ h1519.size := (Nat.le_trans f1499 K1505.1)
  have SW1545 : own_SW p l e room_1 s m #[(.int i0), (.int i1), (.int i2), (.int i3), (.int i4)] below meth c n0 Z own_EL "com/example/reckoner/reckoner/cli/ReportAddPinLaw" T1518 h1519 [] 18 36 := rb1525 _ _ _ _ [] [] S1524 (Keep.refl _ _) all0 all0
  refine own_callSW CW SW1545 (own_wd hw 0 rfl) (own_wd hw 1 rfl) (own_wd hw 2 rfl) (own_wd hw 3 rfl) (by decide) (own_str l Z a0 hw hEL wS G1 G3 i3 ((Jvm.Free.XT.ushr i4 (6 : Int32)) &&& (3 : Int32)) h1519 n0 f1527 f1526 O2 O4 P5 rG3) all0 0 (by decide) (by decide) [(.int i3), (.int ((Jvm.Free.XT.ushr i4 (6 : Int32)) &&& (3 : Int32)))] [] rfl own_pd30 rfl rfl rfl (Nat.le_of_ble_eq_true rfl) (by decide) (by decide) (by decide +kernel) ?_
  rintro T1546 h1547 v1548 SW1549 hg1550 ⟨a1528, a1529, k1530, y1531, rfl, g1532, K1533, f1534, f1535, f1536, f1537, p1538, p1539⟩
  replace SW1549 : own_SW p l e room_1 s m #[(.int i0), (.int i1), (.int i2), (.int i3), (.int i4)] below meth c n0 Z own_EL "com/example/reckoner/reckoner/cli/ReportAddPinLaw" T1546 h1547 [] 24 48 := SW1549
  show own_Go p e below _ T1546 (mkF m 45 #[.val (.int i0), .val (.int i1), .val (.int i2), .val (.int i3), .val (.int i4), .val (.ref a1444), .val (.ref a1472), .val (.ref a1500), .unset, .unset, .unset, .unset, .unset, .unset] [(.ref a1528)])
  refine own_lift CW SW1549 ?_
  intro vm1551 C S1552 rb1553
  refine own_seg C S1552 [(45, .astore 8, 2)] (by decide +kernel) 47 #[.val (.int i0), .val (.int i1), .val (.int i2), .val (.int i3), .val (.int i4), .val (.ref a1444), .val (.ref a1472), .val (.ref a1500), .val (.ref a1528), .unset, .unset, .unset, .unset, .unset] [] rfl ?_
  refine own_new C S1552 (own_wd hw 26 rfl) (own_wd hw 27 rfl) (own_wd hw 28 rfl) (by decide +kernel) (by decide) (by decide) ?_
  intro T1554 h1556 a1557 S1555 g1558 E1559 x1560 D1561
  have f1562 : Fld Z h1556 a1557 "com/example/reckoner/reckoner/cli/Report" "lines" "Ljava/util/List;" .null := D1561 (ty := (.object "java/util/List")) (Or.inr (own_wd hw 58 rfl)) own_fd4
  refine own_seg C S1555 [(50, .dup, 1)] (by decide +kernel) 51 #[.val (.int i0), .val (.int i1), .val (.int i2), .val (.int i3), .val (.int i4), .val (.ref a1444), .val (.ref a1472), .val (.ref a1500), .val (.ref a1528), .unset, .unset, .unset, .unset, .unset] [(.ref a1557), (.ref a1557)] rfl ?_
  have f1563 : Old Z n0 h1556 := ((f1526.keep K1533 all0).ext E1559)
  have f1564 : n0 ≤ h1556.size := (Nat.le_trans (Nat.le_trans f1527 K1533.1) E1559.1)
  have f1565 : n0 ≤ h1547.size := (Nat.le_trans f1527 K1533.1)
  have g1566 : n0 ≤ a1557 := by rw [g1558]; exact f1565
  refine own_callI C S1555 rfl (own_wd hw 29 rfl) (own_wd hw 30 rfl) (own_wd hw 31 rfl) (by decide) (own_Met.pay (own_rpi l Z a0 hw a1557 D0 h1556 n0 f1564 g1566 f1563 x1560 f1562 OD D0lt) C 1 (own_wd hw 31 rfl) (own_wd hw 28 rfl) (by decide) (by decide)) (fun _ _ _ q => q.2) [] [(.ref a1557)] rfl own_pd15 rfl rfl rfl (Nat.le_of_ble_eq_true rfl) (by decide) (by decide) (by decide +kernel) ?_
  rintro T1576 h1577 v1578 L1579 S1580 ⟨⟨a1567, rfl, g1568, K1569, f1570, f1571, f1572, f1573, f1574, f1575⟩, -⟩
  replace S1580 : own_S p l e room_1 (s.setVm vm1551) m #[(.int i0), (.int i1), (.int i2), (.int i3), (.int i4)] below meth c n0 T1576 h1577 26 52 := S1580
  show own_Go p e below _ T1576 (mkF m 54 #[.val (.int i0), .val (.int i1), .val (.int i2), .val (.int i3), .val (.int i4), .val (.ref a1444), .val (.ref a1472), .val (.ref a1500), .val (.ref a1528), .unset, .unset, .unset, .unset, .unset] [(.ref a1557)])
  refine own_seg C S1580 [(54, .astore 9, 2), (56, .aload 9, 2)] (by decide +kernel) 58 #[.val (.int i0), .val (.int i1), .val (.int i2), .val (.int i3), .val (.int i4), .val (.ref a1444), .val (.ref a1472), .val (.ref a1500), .val (.ref a1528), .val (.ref a1557), .unset, .unset, .unset, .unset] [(.ref a1557)] rfl ?_
  have f1581 : n0 ≤ h1577.size := (Nat.le_trans f1564 K1569.1)
  refine own_callV C S1580 (own_wd hw 59 rfl) (own_wd hw 60 rfl) (own_wd hw 62 rfl) (y' := ⟨"com/example/reckoner/reckoner/cli/Report", "lines", "()Ljava/util/List;"⟩) rfl (own_wd hw 62 rfl) (own_wd hw 61 rfl) (by decide) (own_Met.pay (own_rl l Z a0 hw a1557 a1567 m1 m2 m3 h1577 n0 f1581 f1571 f1572 M1 M2 M3) C 0 (own_wd hw 63 rfl) (own_wd hw 28 rfl) (by decide) (by decide)) (fun _ _ _ q => q.2) f1570 [] [] rfl own_pd31 rfl rfl rfl (Nat.le_of_ble_eq_true rfl) (by decide) (by decide) (by decide +kernel) ?_
  rintro T1588 h1589 v1590 L1591 S1592 ⟨⟨a1582, rfl, g1583, K1584, f1585, f1586, f1587⟩, -⟩
  replace S1592 : own_S p l e room_1 (s.setVm vm1551) m #[(.int i0), (.int i1), (.int i2), (.int i3), (.int i4)] below meth c n0 T1588 h1589 27 54 := S1592
  show own_Go p e below _ T1588 (mkF m 61 #[.val (.int i0), .val (.int i1), .val (.int i2), .val (.int i3), .val (.int i4), .val (.ref a1444), .val (.ref a1472), .val (.ref a1500), .val (.ref a1528), .val (.ref a1557), .unset, .unset, .unset, .unset] [(.ref a1582)])
  have f1593 : Exa Z h1589 a1567 "java/util/ArrayList" := (f1572.keep K1584)
  have f1594 : Fld Z h1589 a1567 "java/util/ArrayList" "size" "I" (.int (0 : Int32)) := (f1574.keep K1584 nin0)
  have f1595 : n0 ≤ h1589.size := (Nat.le_trans f1581 K1584.1)
  refine own_callF C S1592 (count := 1) (own_wd hw 107 rfl) (own_wd hw 108 rfl) (own_wd hw 109 rfl) rfl (own_wd hw 110 rfl) (own_wd hw 111 rfl) (own_wd hw 112 rfl) (own_wd hw 113 rfl) (own_wd hw 114 rfl) (by decide) (own_Met.pay (own_us l Z a0 hw a1582 a1567 (0 : Int32) h1589 n0 f1595 f1586 f1593 f1594) C 0 (own_wd hw 115 rfl) (own_wd hw 100 rfl) (by decide) (by decide)) (fun _ _ _ q => q.2) f1585 [] [] rfl own_pd4 rfl rfl rfl (Nat.le_of_ble_eq_true rfl) (by decide) (by decide) (by decide +kernel) ?_
  rintro T1597 h1598 v1599 L1600 S1601 ⟨⟨rfl, e1596⟩, -⟩
  replace S1601 : own_S p l e room_1 (s.setVm vm1551) m #[(.int i0), (.int i1), (.int i2), (.int i3), (.int i4)] below meth c n0 T1597 h1598 27 54 := S1601
  rw [e1596] at S1601; clear e1596
  show own_Go p e below _ T1597 (mkF m 66 #[.val (.int i0), .val (.int i1), .val (.int i2), .val (.int i3), .val (.int i4), .val (.ref a1444), .val (.ref a1472), .val (.ref a1500), .val (.ref a1528), .val (.ref a1557), .unset, .unset, .unset, .unset] [(.int (0 : Int32))])
  refine own_if C S1601 (q := .eq) (o := 5) (by decide +kernel) 71 (by decide) (by decide) (fun (q1602 : (0 : Int32) = (0 : Int32)) => ?_) (fun (hq : ¬ (0 : Int32) = (0 : Int32)) => False.elim (hq rfl))
  refine own_seg C S1601 [(71, .aload 9, 2), (73, .aload 5, 2), (75, .aload 6, 2)] (by decide +kernel) 77 #[.val (.int i0), .val (.int i1), .val (.int i2), .val (.int i3), .val (.int i4), .val (.ref a1444), .val (.ref a1472), .val (.ref a1500), .val (.ref a1528), .val (.ref a1557), .unset, .unset, .unset, .unset] [(.ref a1472), (.ref a1444), (.ref a1557)] rfl ?_
  have f1603 : Old Z n0 h1589 := ((f1563.keep K1569 (allS g1566 all0)).keep K1584 all0)
  have f1604 : Exa Z h1589 a1444 "java/lang/String" := (((Exa.ext E1559 (((f1450.keep K1477).keep K1505).keep K1533)).keep K1569).keep K1584)
  have f1605 : a1444 < h1547.size := (Nat.lt_of_lt_of_le (Nat.lt_of_lt_of_le (Nat.lt_of_lt_of_le f1450.lt K1477.1) K1505.1) K1533.1)
  have n1606 : a1444 ≠ a1557 := by rw [g1558]; exact Nat.ne_of_lt f1605
  have f1607 : Fld Z h1589 a1444 "java/lang/String" "value" "[B" (.ref a1445) := (((Fld.ext E1559 (((f1451.keep K1477 nin0).keep K1505 nin0).keep K1533 nin0)).keep K1569 (ninS n1606 nin0)).keep K1584 nin0)
  have f1608 : Fld Z h1589 a1444 "java/lang/String" "coder" "B" (.int 0) := (((Fld.ext E1559 (((f1452.keep K1477 nin0).keep K1505 nin0).keep K1533 nin0)).keep K1569 (ninS n1606 nin0)).keep K1584 nin0)
  have f1609 : a1445 < h1547.size := (Nat.lt_of_lt_of_le (Nat.lt_of_lt_of_le (Nat.lt_of_lt_of_le f1453.lt K1477.1) K1505.1) K1533.1)
  have n1610 : a1445 ≠ a1557 := by rw [g1558]; exact Nat.ne_of_lt f1609
  have f1611 : Arv Z h1589 a1445 k1446 .byte (Int32.ofNat (y1447).length) (own_sv y1447) (.int 0) := ((((((f1453.keep K1477 nin0).keep K1505 nin0).keep K1533 nin0).ext E1559).keep K1569 (ninS n1610 nin0)).keep K1584 nin0)
  have f1612 : Exa Z h1589 a1472 "java/lang/String" := (((Exa.ext E1559 ((f1478.keep K1505).keep K1533)).keep K1569).keep K1584)
  have f1613 : a1472 < h1547.size := (Nat.lt_of_lt_of_le (Nat.lt_of_lt_of_le f1478.lt K1505.1) K1533.1)
  have n1614 : a1472 ≠ a1557 := by rw [g1558]; exact Nat.ne_of_lt f1613
  have f1615 : Fld Z h1589 a1472 "java/lang/String" "value" "[B" (.ref a1473) := (((Fld.ext E1559 ((f1479.keep K1505 nin0).keep K1533 nin0)).keep K1569 (ninS n1614 nin0)).keep K1584 nin0)
  have f1616 : Fld Z h1589 a1472 "java/lang/String" "coder" "B" (.int 0) := (((Fld.ext E1559 ((f1480.keep K1505 nin0).keep K1533 nin0)).keep K1569 (ninS n1614 nin0)).keep K1584 nin0)
  have f1617 : a1473 < h1547.size := (Nat.lt_of_lt_of_le (Nat.lt_of_lt_of_le f1481.lt K1505.1) K1533.1)
  have n1618 : a1473 ≠ a1557 := by rw [g1558]; exact Nat.ne_of_lt f1617
  have f1619 : Arv Z h1589 a1473 k1474 .byte (Int32.ofNat (y1475).length) (own_sv y1475) (.int 0) := (((((f1481.keep K1505 nin0).keep K1533 nin0).ext E1559).keep K1569 (ninS n1618 nin0)).keep K1584 nin0)
  have f1620 : Fld Z h1589 a1557 "com/example/reckoner/reckoner/cli/Report" "lines" "Ljava/util/List;" (.ref a1567) := (f1571.keep K1584 nin0)
  have f1621 : Fld Z h1589 a1567 "java/util/ArrayList" "elementData" "[Ljava/lang/Object;" (.ref D0) := (f1573.keep K1584 nin0)
  have f1622 : Fld Z h1589 a1567 "java/util/AbstractList" "modCount" "I" (.int (0 : Int32)) := (f1575.keep K1584 nin0)
  have f1623 : Arv Z h1589 D0 D0k (.object "java/lang/Object") (0 : Int32) ([]) .null := (((((((D0K.keep K1449 nin0).keep K1477 nin0).keep K1505 nin0).keep K1533 nin0).ext E1559).keep K1569 (ninS (Nat.ne_of_lt (Nat.lt_of_lt_of_le D0lt g1566)) nin0)).keep K1584 nin0)
  have g1624 : n0 ≤ a1567 := Nat.le_trans f1564 g1568
  have f1651 : a1567 < h1589.size := (Nat.lt_of_lt_of_le f1572.lt K1584.1)
  have f1652 : a1557 < h1589.size := (Nat.lt_of_lt_of_le (Nat.lt_of_lt_of_le f1562.lt K1569.1) K1584.1)
  have SW1653 : own_SW p l e room_1 s m #[(.int i0), (.int i1), (.int i2), (.int i3), (.int i4)] below meth c n0 Z own_EL "com/example/reckoner/reckoner/cli/ReportAddPinLaw" T1597 h1589 [a1557, a1567, a1582] 27 54 := rb1553 _ _ _ _ [] [a1557, a1567, a1582] S1601 ((((Keep.refl _ _).ext E1559).trans K1569 (allS (Or.inr (by rw [g1558]; exact (Nat.le_refl _))) all0)).trans K1584 all0) all0 (allS ⟨(by rw [g1558]; exact (Nat.le_refl _)), f1652⟩ (allS ⟨(Nat.le_trans (Nat.le_trans (Nat.le_refl _) E1559.1) g1568), f1651⟩ (allS ⟨(Nat.le_trans (Nat.le_trans (Nat.le_trans (Nat.le_refl _) E1559.1) K1569.1) g1583), f1585.lt⟩ all0)))
  have f1659 : Exa Z h1589 a1557 "com/example/reckoner/reckoner/cli/Report" := (f1570.keep K1584)
  refine own_callVW CW SW1653 (own_wd hw 127 rfl) (own_wd hw 128 rfl) (own_wd hw 130 rfl) (y' := ⟨"com/example/reckoner/reckoner/cli/Report", "add", "(Ljava/lang/String;Ljava/lang/String;)Lcom/example/reckoner/reckoner/cli/Report;"⟩) rfl (own_wd hw 130 rfl) (own_wd hw 129 rfl) (own_wd hw 28 rfl) (own_wd hw 131 rfl) (by decide) (own_ra1 l Z a0 hw hEL wS G1 G3 a1557 a1567 (0 : Int32) D0 D0k a1444 a1445 k1446 y1447 a1472 a1473 k1474 y1475 h1589 n0 f1595 g1624 f1603 f1604 f1607 f1608 f1611 f1612 f1615 f1616 f1619 f1620 f1593 f1621 f1594 f1622 f1623 O2 O4 P5 rG3 p1454 p1455 p1482 p1483 OD D0lt) all0 0 (by decide) (by decide) f1659 [(.ref a1444), (.ref a1472)] [] rfl own_pd32 rfl rfl rfl (Nat.le_of_ble_eq_true rfl) (by decide) (by decide) (by decide +kernel) ?_
  rintro T1654 h1655 v1656 SW1657 hg1658 ⟨a1625, a1626, k1627, a1628, k1629, rfl, g1630, g1631, g1632, K1633, f1634, f1635, f1636, f1637, f1638, f1639, f1640, f1641, f1642, p1643, p1644, p1645⟩
  replace SW1657 : own_SW p l e room_1 s m #[(.int i0), (.int i1), (.int i2), (.int i3), (.int i4)] below meth c n0 Z own_EL "com/example/reckoner/reckoner/cli/ReportAddPinLaw" T1654 h1655 [a1557, a1567, a1582] 34 164 := SW1657
  have hp1660 : ∀ c ∈ (((([] : List Int32) ++ y1447) ++ ([58, 32] : List Int32)) ++ y1475), ¬ c < 0 ∧ ¬ (255 : Int32) < c := own_hpA p1454 p1482
  show own_Go p e below _ T1654 (mkF m 80 #[.val (.int i0), .val (.int i1), .val (.int i2), .val (.int i3), .val (.int i4), .val (.ref a1444), .val (.ref a1472), .val (.ref a1500), .val (.ref a1528), .val (.ref a1557), .unset, .unset, .unset, .unset] [(.ref a1557)])
  refine own_lift CW SW1657 ?_
  intro vm1661 C S1662 rb1663
  refine own_seg C S1662 [(80, .astore 10, 2), (82, .aload 10, 2), (84, .aload 9, 2)] (by decide +kernel) 86 #[.val (.int i0), .val (.int i1), .val (.int i2), .val (.int i3), .val (.int i4), .val (.ref a1444), .val (.ref a1472), .val (.ref a1500), .val (.ref a1528), .val (.ref a1557), .val (.ref a1557), .unset, .unset, .unset] [(.ref a1557), (.ref a1557)] rfl ?_
  refine own_acmp C S1662 (q := .eq) (o := 5) rfl rfl (by decide +kernel) 91 (by decide) (by decide) (fun (q1664 : ((.ref a1557) : Value) = (.ref a1557)) => ?_) (fun (hq : ¬ ((.ref a1557) : Value) = (.ref a1557)) => False.elim (hq rfl))
  refine own_seg C S1662 [(91, .aload 9, 2)] (by decide +kernel) 93 #[.val (.int i0), .val (.int i1), .val (.int i2), .val (.int i3), .val (.int i4), .val (.ref a1444), .val (.ref a1472), .val (.ref a1500), .val (.ref a1528), .val (.ref a1557), .val (.ref a1557), .unset, .unset, .unset] [(.ref a1557)] rfl ?_
  have n1665 : a1557 ≠ a1567 := Nat.ne_of_lt (Nat.lt_of_lt_of_le f1562.lt g1568)
  have f1666 : Fld Z h1655 a1557 "com/example/reckoner/reckoner/cli/Report" "lines" "Ljava/util/List;" (.ref a1567) := (f1620.keep K1633 (ninS n1665 nin0))
  have f1667 : n0 ≤ h1655.size := (Nat.le_trans f1595 K1633.1)
  have f1679 : Exa Z h1655 a1557 "com/example/reckoner/reckoner/cli/Report" := (f1659.keep K1633)
  refine own_callV C S1662 (own_wd hw 59 rfl) (own_wd hw 60 rfl) (own_wd hw 62 rfl) (y' := ⟨"com/example/reckoner/reckoner/cli/Report", "lines", "()Ljava/util/List;"⟩) rfl (own_wd hw 62 rfl) (own_wd hw 61 rfl) (by decide) (own_Met.pay (own_rl l Z a0 hw a1557 a1567 m1 m2 m3 h1655 n0 f1667 f1666 f1638 M1 M2 M3) C 0 (own_wd hw 63 rfl) (own_wd hw 28 rfl) (by decide) (by decide)) (fun _ _ _ q => q.2) f1679 [] [] rfl own_pd31 rfl rfl rfl (Nat.le_of_ble_eq_true rfl) (by decide) (by decide) (by decide +kernel) ?_
  rintro T1674 h1675 v1676 L1677 S1678 ⟨⟨a1668, rfl, g1669, K1670, f1671, f1672, f1673⟩, -⟩
  replace S1678 : own_S p l e room_1 (s.setVm vm1661) m #[(.int i0), (.int i1), (.int i2), (.int i3), (.int i4)] below meth c n0 T1674 h1675 35 166 := S1678
  show own_Go p e below _ T1674 (mkF m 96 #[.val (.int i0), .val (.int i1), .val (.int i2), .val (.int i3), .val (.int i4), .val (.ref a1444), .val (.ref a1472), .val (.ref a1500), .val (.ref a1528), .val (.ref a1557), .val (.ref a1557), .unset, .unset, .unset] [(.ref a1668)])
  refine own_seg C S1678 [(96, .astore 11, 2), (98, .aload 11, 2)] (by decide +kernel) 100 #[.val (.int i0), .val (.int i1), .val (.int i2), .val (.int i3), .val (.int i4), .val (.ref a1444), .val (.ref a1472), .val (.ref a1500), .val (.ref a1528), .val (.ref a1557), .val (.ref a1557), .val (.ref a1668), .unset, .unset] [(.ref a1668)] rfl ?_
  have f1680 : Exa Z h1675 a1567 "java/util/ArrayList" := (f1638.keep K1670)
  have f1681 : Fld Z h1675 a1567 "java/util/ArrayList" "size" "I" (.int ((0 : Int32) + (1 : Int32))) := (f1640.keep K1670 nin0)
  have f1682 : n0 ≤ h1675.size := (Nat.le_trans f1667 K1670.1)
  refine own_callF C S1678 (count := 1) (own_wd hw 107 rfl) (own_wd hw 108 rfl) (own_wd hw 109 rfl) rfl (own_wd hw 110 rfl) (own_wd hw 111 rfl) (own_wd hw 112 rfl) (own_wd hw 113 rfl) (own_wd hw 114 rfl) (by decide) (own_Met.pay (own_us l Z a0 hw a1668 a1567 ((0 : Int32) + (1 : Int32)) h1675 n0 f1682 f1672 f1680 f1681) C 0 (own_wd hw 115 rfl) (own_wd hw 100 rfl) (by decide) (by decide)) (fun _ _ _ q => q.2) f1671 [] [] rfl own_pd4 rfl rfl rfl (Nat.le_of_ble_eq_true rfl) (by decide) (by decide) (by decide +kernel) ?_
  rintro T1684 h1685 v1686 L1687 S1688 ⟨⟨rfl, e1683⟩, -⟩
  replace S1688 : own_S p l e room_1 (s.setVm vm1661) m #[(.int i0), (.int i1), (.int i2), (.int i3), (.int i4)] below meth c n0 T1684 h1685 35 166 := S1688
  rw [e1683] at S1688; clear e1683
  show own_Go p e below _ T1684 (mkF m 105 #[.val (.int i0), .val (.int i1), .val (.int i2), .val (.int i3), .val (.int i4), .val (.ref a1444), .val (.ref a1472), .val (.ref a1500), .val (.ref a1528), .val (.ref a1557), .val (.ref a1557), .val (.ref a1668), .unset, .unset] [(.int ((0 : Int32) + (1 : Int32)))])
  refine own_seg C S1688 [(105, .iconst 1, 1)] (by decide +kernel) 106 #[.val (.int i0), .val (.int i1), .val (.int i2), .val (.int i3), .val (.int i4), .val (.ref a1444), .val (.ref a1472), .val (.ref a1500), .val (.ref a1528), .val (.ref a1557), .val (.ref a1557), .val (.ref a1668), .unset, .unset] [(.int (1 : Int32)), (.int ((0 : Int32) + (1 : Int32)))] rfl ?_
  refine own_icmp C S1688 (q := .ne) (o := 24) (by decide +kernel) 130 (by decide) (by decide) (fun (hq : ¬ ((0 : Int32) + (1 : Int32)) = (1 : Int32)) => False.elim (hq rfl)) (fun (q1689 : ((0 : Int32) + (1 : Int32)) = (1 : Int32)) => ?_)
  refine own_seg C S1688 [(109, .aload 11, 2), (111, .iconst 0, 1)] (by decide +kernel) 112 #[.val (.int i0), .val (.int i1), .val (.int i2), .val (.int i3), .val (.int i4), .val (.ref a1444), .val (.ref a1472), .val (.ref a1500), .val (.ref a1528), .val (.ref a1557), .val (.ref a1557), .val (.ref a1668), .unset, .unset] [(.int (0 : Int32)), (.ref a1668)] rfl ?_
  have f1690 : Fld Z h1675 a1567 "java/util/ArrayList" "elementData" "[Ljava/lang/Object;" (.ref a1628) := (f1639.keep K1670 nin0)
  have f1691 : Arv Z h1675 a1628 k1629 (.object "java/lang/Object") (10 : Int32) ([(.ref a1625), .null, .null, .null, .null, .null, .null, .null, .null, .null]) .null := (f1642.keep K1670 nin0)
  refine own_callF C S1688 (count := 2) (own_wd hw 275 rfl) (own_wd hw 276 rfl) (own_wd hw 277 rfl) rfl (own_wd hw 278 rfl) (own_wd hw 279 rfl) (own_wd hw 280 rfl) (own_wd hw 281 rfl) (own_wd hw 114 rfl) (by decide) (own_Met.pay (own_ug l Z a0 hw a1668 a1567 (0 : Int32) ((0 : Int32) + (1 : Int32)) a1628 k1629 ([(.ref a1625), .null, .null, .null, .null, .null, .null, .null, .null, .null]) a1625 h1675 n0 f1682 f1673 f1680 f1681 f1690 f1691 (by decide) (by decide) rfl) C 0 (own_wd hw 282 rfl) (own_wd hw 94 rfl) (by decide) (by decide)) (fun _ _ _ q => q.2) f1671 [(.int (0 : Int32))] [] rfl own_pd20 rfl rfl rfl (Nat.le_of_ble_eq_true rfl) (by decide) (by decide) (by decide +kernel) ?_
  rintro T1693 h1694 v1695 L1696 S1697 ⟨⟨rfl, e1692⟩, -⟩
  replace S1697 : own_S p l e room_1 (s.setVm vm1661) m #[(.int i0), (.int i1), (.int i2), (.int i3), (.int i4)] below meth c n0 T1693 h1694 35 166 := S1697
  rw [e1692] at S1697; clear e1692
  show own_Go p e below _ T1693 (mkF m 117 #[.val (.int i0), .val (.int i1), .val (.int i2), .val (.int i3), .val (.int i4), .val (.ref a1444), .val (.ref a1472), .val (.ref a1500), .val (.ref a1528), .val (.ref a1557), .val (.ref a1557), .val (.ref a1668), .unset, .unset] [(.ref a1625)])
  have f1698 : Exa Z h1675 a1625 "java/lang/String" := (f1634.keep K1670)
  refine own_cast C S1697 (own_wd hw 4 rfl) (Ins.self f1698) (by decide +kernel) ?_
  intro T1699 S1700
  refine own_seg C S1700 [(120, .aload 5, 2), (122, .aload 6, 2)] (by decide +kernel) 124 #[.val (.int i0), .val (.int i1), .val (.int i2), .val (.int i3), .val (.int i4), .val (.ref a1444), .val (.ref a1472), .val (.ref a1500), .val (.ref a1528), .val (.ref a1557), .val (.ref a1557), .val (.ref a1668), .unset, .unset] [(.ref a1472), (.ref a1444), (.ref a1625)] rfl ?_
  have f1701 : Old Z n0 h1675 := ((f1603.keep K1633 (allS g1624 all0)).keep K1670 all0)
  have f1702 : Fld Z h1675 a1625 "java/lang/String" "value" "[B" (.ref a1626) := (f1636.keep K1670 nin0)
  have f1703 : Fld Z h1675 a1625 "java/lang/String" "coder" "B" (.int 0) := (f1635.keep K1670 nin0)
  have f1704 : Arv Z h1675 a1626 k1627 .byte (Int32.ofNat (((([] : List Int32) ++ y1447) ++ ([58, 32] : List Int32)) ++ y1475).length) (own_sv (((([] : List Int32) ++ y1447) ++ ([58, 32] : List Int32)) ++ y1475)) (.int 0) := (f1637.keep K1670 nin0)
  have f1705 : Exa Z h1675 a1444 "java/lang/String" := ((f1604.keep K1633).keep K1670)
  have f1706 : a1444 < h1556.size := (Nat.lt_of_lt_of_le f1605 E1559.1)
  have n1707 : a1444 ≠ a1567 := Nat.ne_of_lt (Nat.lt_of_lt_of_le f1706 g1568)
  have f1708 : Fld Z h1675 a1444 "java/lang/String" "value" "[B" (.ref a1445) := ((f1607.keep K1633 (ninS n1707 nin0)).keep K1670 nin0)
  have f1709 : Fld Z h1675 a1444 "java/lang/String" "coder" "B" (.int 0) := ((f1608.keep K1633 (ninS n1707 nin0)).keep K1670 nin0)
  have f1710 : a1445 < h1556.size := (Nat.lt_of_lt_of_le f1609 E1559.1)
  have n1711 : a1445 ≠ a1567 := Nat.ne_of_lt (Nat.lt_of_lt_of_le f1710 g1568)
  have f1712 : Arv Z h1675 a1445 k1446 .byte (Int32.ofNat (y1447).length) (own_sv y1447) (.int 0) := ((f1611.keep K1633 (ninS n1711 nin0)).keep K1670 nin0)
  have f1713 : Exa Z h1675 a1472 "java/lang/String" := ((f1612.keep K1633).keep K1670)
  have f1714 : a1472 < h1556.size := (Nat.lt_of_lt_of_le f1613 E1559.1)
  have n1715 : a1472 ≠ a1567 := Nat.ne_of_lt (Nat.lt_of_lt_of_le f1714 g1568)
  have f1716 : Fld Z h1675 a1472 "java/lang/String" "value" "[B" (.ref a1473) := ((f1615.keep K1633 (ninS n1715 nin0)).keep K1670 nin0)
  have f1717 : Fld Z h1675 a1472 "java/lang/String" "coder" "B" (.int 0) := ((f1616.keep K1633 (ninS n1715 nin0)).keep K1670 nin0)
  have f1718 : a1473 < h1556.size := (Nat.lt_of_lt_of_le f1617 E1559.1)
  have n1719 : a1473 ≠ a1567 := Nat.ne_of_lt (Nat.lt_of_lt_of_le f1718 g1568)
  have f1720 : Arv Z h1675 a1473 k1474 .byte (Int32.ofNat (y1475).length) (own_sv y1475) (.int 0) := ((f1619.keep K1633 (ninS n1719 nin0)).keep K1670 nin0)
  refine own_callS C S1700 (own_wd hw 302 rfl) (own_wd hw 303 rfl) (own_wd hw 2 rfl) (own_wd hw 304 rfl) (by decide) (own_Met.pay (own_lo l Z a0 hw G1 G3 a1625 a1626 k1627 (((([] : List Int32) ++ y1447) ++ ([58, 32] : List Int32)) ++ y1475) a1444 a1445 k1446 y1447 a1472 a1473 k1474 y1475 h1675 n0 f1682 f1701 f1698 f1702 f1703 f1704 f1705 f1708 f1709 f1712 f1713 f1716 f1717 f1720 O2 O4 P5 rG3 hp1660 (by first | decide | (simp only [List.length_append, List.length_cons, List.length_nil]; omega)) p1454 p1455 p1482 p1483 (by simp)) C 0 (own_wd hw 304 rfl) (own_wd hw 2 rfl) (by decide) (by decide)) (fun _ _ _ q => q.2) [(.ref a1625), (.ref a1444), (.ref a1472)] [] rfl own_pd33 rfl rfl rfl (Nat.le_of_ble_eq_true rfl) (by decide) (by decide) (by decide +kernel) ?_
  rintro T1722 h1723 v1724 L1725 S1726 ⟨⟨rfl, e1721⟩, -⟩
  replace S1726 : own_S p l e room_1 (s.setVm vm1661) m #[(.int i0), (.int i1), (.int i2), (.int i3), (.int i4)] below meth c n0 T1722 h1723 35 166 := S1726
  rw [e1721] at S1726; clear e1721
  show own_Go p e below _ T1722 (mkF m 127 #[.val (.int i0), .val (.int i1), .val (.int i2), .val (.int i3), .val (.int i4), .val (.ref a1444), .val (.ref a1472), .val (.ref a1500), .val (.ref a1528), .val (.ref a1557), .val (.ref a1557), .val (.ref a1668), .unset, .unset] [(.int (1 : Int32))])
  refine own_if C S1726 (q := .ne) (o := 5) (by decide +kernel) 132 (by decide) (by decide) (fun (q1727 : ¬ (1 : Int32) = (0 : Int32)) => ?_) (fun (hq : (1 : Int32) = (0 : Int32)) => False.elim (absurd hq (by decide)))
  refine own_seg C S1726 [(132, .aload 9, 2), (134, .aload 7, 2), (136, .aload 8, 2)] (by decide +kernel) 138 #[.val (.int i0), .val (.int i1), .val (.int i2), .val (.int i3), .val (.int i4), .val (.ref a1444), .val (.ref a1472), .val (.ref a1500), .val (.ref a1528), .val (.ref a1557), .val (.ref a1557), .val (.ref a1668), .unset, .unset] [(.ref a1528), (.ref a1500), (.ref a1557)] rfl ?_
  have f1728 : Exa Z h1675 a1500 "java/lang/String" := (((((Exa.ext E1559 (f1506.keep K1533)).keep K1569).keep K1584).keep K1633).keep K1670)
  have f1729 : a1500 < h1547.size := (Nat.lt_of_lt_of_le f1506.lt K1533.1)
  have n1730 : a1500 ≠ a1557 := by rw [g1558]; exact Nat.ne_of_lt f1729
  have f1731 : a1500 < h1556.size := (Nat.lt_of_lt_of_le f1729 E1559.1)
  have n1732 : a1500 ≠ a1567 := Nat.ne_of_lt (Nat.lt_of_lt_of_le f1731 g1568)
  have f1733 : Fld Z h1675 a1500 "java/lang/String" "value" "[B" (.ref a1501) := (((((Fld.ext E1559 (f1507.keep K1533 nin0)).keep K1569 (ninS n1730 nin0)).keep K1584 nin0).keep K1633 (ninS n1732 nin0)).keep K1670 nin0)
  have f1734 : Fld Z h1675 a1500 "java/lang/String" "coder" "B" (.int 0) := (((((Fld.ext E1559 (f1508.keep K1533 nin0)).keep K1569 (ninS n1730 nin0)).keep K1584 nin0).keep K1633 (ninS n1732 nin0)).keep K1670 nin0)
  have f1735 : a1501 < h1547.size := (Nat.lt_of_lt_of_le f1509.lt K1533.1)
  have n1736 : a1501 ≠ a1557 := by rw [g1558]; exact Nat.ne_of_lt f1735
  have f1737 : a1501 < h1556.size := (Nat.lt_of_lt_of_le f1735 E1559.1)
  have n1738 : a1501 ≠ a1567 := Nat.ne_of_lt (Nat.lt_of_lt_of_le f1737 g1568)
  have f1739 : Arv Z h1675 a1501 k1502 .byte (Int32.ofNat (y1503).length) (own_sv y1503) (.int 0) := ((((((f1509.keep K1533 nin0).ext E1559).keep K1569 (ninS n1736 nin0)).keep K1584 nin0).keep K1633 (ninS n1738 nin0)).keep K1670 nin0)
  have f1740 : Exa Z h1675 a1528 "java/lang/String" := (((((Exa.ext E1559 f1534).keep K1569).keep K1584).keep K1633).keep K1670)
  have n1741 : a1528 ≠ a1557 := by rw [g1558]; exact Nat.ne_of_lt f1534.lt
  have f1742 : a1528 < h1556.size := (Nat.lt_of_lt_of_le f1534.lt E1559.1)
  have n1743 : a1528 ≠ a1567 := Nat.ne_of_lt (Nat.lt_of_lt_of_le f1742 g1568)
  have f1744 : Fld Z h1675 a1528 "java/lang/String" "value" "[B" (.ref a1529) := (((((Fld.ext E1559 f1535).keep K1569 (ninS n1741 nin0)).keep K1584 nin0).keep K1633 (ninS n1743 nin0)).keep K1670 nin0)
  have f1745 : Fld Z h1675 a1528 "java/lang/String" "coder" "B" (.int 0) := (((((Fld.ext E1559 f1536).keep K1569 (ninS n1741 nin0)).keep K1584 nin0).keep K1633 (ninS n1743 nin0)).keep K1670 nin0)
  have n1746 : a1529 ≠ a1557 := by rw [g1558]; exact Nat.ne_of_lt f1537.lt
  have f1747 : a1529 < h1556.size := (Nat.lt_of_lt_of_le f1537.lt E1559.1)
  have n1748 : a1529 ≠ a1567 := Nat.ne_of_lt (Nat.lt_of_lt_of_le f1747 g1568)
  have f1749 : Arv Z h1675 a1529 k1530 .byte (Int32.ofNat (y1531).length) (own_sv y1531) (.int 0) := (((((f1537.ext E1559).keep K1569 (ninS n1746 nin0)).keep K1584 nin0).keep K1633 (ninS n1748 nin0)).keep K1670 nin0)
  have f1750 : Fld Z h1675 a1557 "com/example/reckoner/reckoner/cli/Report" "lines" "Ljava/util/List;" (.ref a1567) := (f1666.keep K1670 nin0)
  have f1751 : Fld Z h1675 a1567 "java/util/AbstractList" "modCount" "I" (.int ((0 : Int32) + (1 : Int32))) := (f1641.keep K1670 nin0)
  have g1752 : n0 ≤ a1628 := Nat.le_trans f1595 g1632
  have n1753 : a1567 ≠ a1628 := Nat.ne_of_lt (Nat.lt_of_lt_of_le f1651 g1632)
  have SW1774 : own_SW p l e room_1 s m #[(.int i0), (.int i1), (.int i2), (.int i3), (.int i4)] below meth c n0 Z own_EL "com/example/reckoner/reckoner/cli/ReportAddPinLaw" T1722 h1675 [a1668, a1557, a1567, a1582] 35 166 := rb1663 _ _ _ _ [] [a1668] S1726 ((Keep.refl _ _).trans K1670 all0) all0 (allS ⟨(Nat.le_trans (Nat.le_refl _) g1669), f1671.lt⟩ all0)
  have f1780 : Exa Z h1675 a1557 "com/example/reckoner/reckoner/cli/Report" := (f1679.keep K1670)
  refine own_callVW CW SW1774 (own_wd hw 127 rfl) (own_wd hw 128 rfl) (own_wd hw 130 rfl) (y' := ⟨"com/example/reckoner/reckoner/cli/Report", "add", "(Ljava/lang/String;Ljava/lang/String;)Lcom/example/reckoner/reckoner/cli/Report;"⟩) rfl (own_wd hw 130 rfl) (own_wd hw 129 rfl) (own_wd hw 28 rfl) (own_wd hw 131 rfl) (by decide) (own_ra2 l Z a0 hw hEL wS G1 G3 a1557 a1567 ((0 : Int32) + (1 : Int32)) a1628 k1629 a1625 a1500 a1501 k1502 y1503 a1528 a1529 k1530 y1531 h1675 n0 f1682 g1624 g1752 f1701 f1728 f1733 f1734 f1739 f1740 f1744 f1745 f1749 f1750 f1680 f1690 f1681 f1751 f1691 (Ne.symm n1753) O2 O4 P5 rG3 p1510 p1511 p1538 p1539 p1643) all0 0 (by decide) (by decide) f1780 [(.ref a1500), (.ref a1528)] [] rfl own_pd32 rfl rfl rfl (Nat.le_of_ble_eq_true rfl) (by decide) (by decide) (by decide +kernel) ?_
  rintro T1775 h1776 v1777 SW1778 hg1779 ⟨a1754, a1755, k1756, rfl, g1757, g1758, K1759, f1760, f1761, f1762, f1763, f1764, f1765, f1766, f1767, f1768⟩
  replace SW1778 : own_SW p l e room_1 s m #[(.int i0), (.int i1), (.int i2), (.int i3), (.int i4)] below meth c n0 Z own_EL "com/example/reckoner/reckoner/cli/ReportAddPinLaw" T1775 h1776 [a1668, a1557, a1567, a1582] 41 266 := SW1778
  have hp1781 : ∀ c ∈ (((([] : List Int32) ++ y1503) ++ ([58, 32] : List Int32)) ++ y1531), ¬ c < 0 ∧ ¬ (255 : Int32) < c := own_hpA p1510 p1538
  show own_Go p e below _ T1775 (mkF m 141 #[.val (.int i0), .val (.int i1), .val (.int i2), .val (.int i3), .val (.int i4), .val (.ref a1444), .val (.ref a1472), .val (.ref a1500), .val (.ref a1528), .val (.ref a1557), .val (.ref a1557), .val (.ref a1668), .unset, .unset] [(.ref a1557)])
  refine own_lift CW SW1778 ?_
  intro vm1782 C S1783 rb1784
  refine own_seg C S1783 [(141, .astore 12, 2), (143, .aload 12, 2), (145, .aload 9, 2)] (by decide +kernel) 147 #[.val (.int i0), .val (.int i1), .val (.int i2), .val (.int i3), .val (.int i4), .val (.ref a1444), .val (.ref a1472), .val (.ref a1500), .val (.ref a1528), .val (.ref a1557), .val (.ref a1557), .val (.ref a1668), .val (.ref a1557), .unset] [(.ref a1557), (.ref a1557)] rfl ?_
  refine own_acmp C S1783 (q := .eq) (o := 5) rfl rfl (by decide +kernel) 152 (by decide) (by decide) (fun (q1785 : ((.ref a1557) : Value) = (.ref a1557)) => ?_) (fun (hq : ¬ ((.ref a1557) : Value) = (.ref a1557)) => False.elim (hq rfl))
  refine own_seg C S1783 [(152, .aload 9, 2)] (by decide +kernel) 154 #[.val (.int i0), .val (.int i1), .val (.int i2), .val (.int i3), .val (.int i4), .val (.ref a1444), .val (.ref a1472), .val (.ref a1500), .val (.ref a1528), .val (.ref a1557), .val (.ref a1557), .val (.ref a1668), .val (.ref a1557), .unset] [(.ref a1557)] rfl ?_
  have n1786 : a1557 ≠ a1628 := Nat.ne_of_lt (Nat.lt_of_lt_of_le f1652 g1632)
  have f1787 : Fld Z h1776 a1557 "com/example/reckoner/reckoner/cli/Report" "lines" "Ljava/util/List;" (.ref a1567) := (f1750.keep K1759 (ninS n1665 (ninS n1786 nin0)))
  have f1788 : n0 ≤ h1776.size := (Nat.le_trans f1682 K1759.1)
  have f1800 : Exa Z h1776 a1557 "com/example/reckoner/reckoner/cli/Report" := (f1780.keep K1759)
  refine own_callV C S1783 (own_wd hw 59 rfl) (own_wd hw 60 rfl) (own_wd hw 62 rfl) (y' := ⟨"com/example/reckoner/reckoner/cli/Report", "lines", "()Ljava/util/List;"⟩) rfl (own_wd hw 62 rfl) (own_wd hw 61 rfl) (by decide) (own_Met.pay (own_rl l Z a0 hw a1557 a1567 m1 m2 m3 h1776 n0 f1788 f1787 f1764 M1 M2 M3) C 0 (own_wd hw 63 rfl) (own_wd hw 28 rfl) (by decide) (by decide)) (fun _ _ _ q => q.2) f1800 [] [] rfl own_pd31 rfl rfl rfl (Nat.le_of_ble_eq_true rfl) (by decide) (by decide) (by decide +kernel) ?_
  rintro T1795 h1796 v1797 L1798 S1799 ⟨⟨a1789, rfl, g1790, K1791, f1792, f1793, f1794⟩, -⟩
  replace S1799 : own_S p l e room_1 (s.setVm vm1782) m #[(.int i0), (.int i1), (.int i2), (.int i3), (.int i4)] below meth c n0 T1795 h1796 42 268 := S1799
  show own_Go p e below _ T1795 (mkF m 157 #[.val (.int i0), .val (.int i1), .val (.int i2), .val (.int i3), .val (.int i4), .val (.ref a1444), .val (.ref a1472), .val (.ref a1500), .val (.ref a1528), .val (.ref a1557), .val (.ref a1557), .val (.ref a1668), .val (.ref a1557), .unset] [(.ref a1789)])
  refine own_seg C S1799 [(157, .astore 13, 2), (159, .aload 13, 2)] (by decide +kernel) 161 #[.val (.int i0), .val (.int i1), .val (.int i2), .val (.int i3), .val (.int i4), .val (.ref a1444), .val (.ref a1472), .val (.ref a1500), .val (.ref a1528), .val (.ref a1557), .val (.ref a1557), .val (.ref a1668), .val (.ref a1557), .val (.ref a1789)] [(.ref a1789)] rfl ?_
  have f1801 : Exa Z h1796 a1567 "java/util/ArrayList" := (f1764.keep K1791)
  have f1802 : Fld Z h1796 a1567 "java/util/ArrayList" "size" "I" (.int (((0 : Int32) + (1 : Int32)) + (1 : Int32))) := (f1766.keep K1791 nin0)
  have f1803 : n0 ≤ h1796.size := (Nat.le_trans f1788 K1791.1)
  refine own_callF C S1799 (count := 1) (own_wd hw 107 rfl) (own_wd hw 108 rfl) (own_wd hw 109 rfl) rfl (own_wd hw 110 rfl) (own_wd hw 111 rfl) (own_wd hw 112 rfl) (own_wd hw 113 rfl) (own_wd hw 114 rfl) (by decide) (own_Met.pay (own_us l Z a0 hw a1789 a1567 (((0 : Int32) + (1 : Int32)) + (1 : Int32)) h1796 n0 f1803 f1793 f1801 f1802) C 0 (own_wd hw 115 rfl) (own_wd hw 100 rfl) (by decide) (by decide)) (fun _ _ _ q => q.2) f1792 [] [] rfl own_pd4 rfl rfl rfl (Nat.le_of_ble_eq_true rfl) (by decide) (by decide) (by decide +kernel) ?_
  rintro T1805 h1806 v1807 L1808 S1809 ⟨⟨rfl, e1804⟩, -⟩
  replace S1809 : own_S p l e room_1 (s.setVm vm1782) m #[(.int i0), (.int i1), (.int i2), (.int i3), (.int i4)] below meth c n0 T1805 h1806 42 268 := S1809
  rw [e1804] at S1809; clear e1804
  show own_Go p e below _ T1805 (mkF m 166 #[.val (.int i0), .val (.int i1), .val (.int i2), .val (.int i3), .val (.int i4), .val (.ref a1444), .val (.ref a1472), .val (.ref a1500), .val (.ref a1528), .val (.ref a1557), .val (.ref a1557), .val (.ref a1668), .val (.ref a1557), .val (.ref a1789)] [(.int (((0 : Int32) + (1 : Int32)) + (1 : Int32)))])
  refine own_seg C S1809 [(166, .iconst 2, 1)] (by decide +kernel) 167 #[.val (.int i0), .val (.int i1), .val (.int i2), .val (.int i3), .val (.int i4), .val (.ref a1444), .val (.ref a1472), .val (.ref a1500), .val (.ref a1528), .val (.ref a1557), .val (.ref a1557), .val (.ref a1668), .val (.ref a1557), .val (.ref a1789)] [(.int (2 : Int32)), (.int (((0 : Int32) + (1 : Int32)) + (1 : Int32)))] rfl ?_
  refine own_icmp C S1809 (q := .ne) (o := 49) (by decide +kernel) 216 (by decide) (by decide) (fun (hq : ¬ (((0 : Int32) + (1 : Int32)) + (1 : Int32)) = (2 : Int32)) => False.elim (hq rfl)) (fun (q1810 : (((0 : Int32) + (1 : Int32)) + (1 : Int32)) = (2 : Int32)) => ?_)
  refine own_seg C S1809 [(170, .aload 13, 2), (172, .iconst 0, 1)] (by decide +kernel) 173 #[.val (.int i0), .val (.int i1), .val (.int i2), .val (.int i3), .val (.int i4), .val (.ref a1444), .val (.ref a1472), .val (.ref a1500), .val (.ref a1528), .val (.ref a1557), .val (.ref a1557), .val (.ref a1668), .val (.ref a1557), .val (.ref a1789)] [(.int (0 : Int32)), (.ref a1789)] rfl ?_
  have f1811 : Fld Z h1796 a1567 "java/util/ArrayList" "elementData" "[Ljava/lang/Object;" (.ref a1628) := (f1765.keep K1791 nin0)
  have f1812 : Arv Z h1796 a1628 k1629 (.object "java/lang/Object") (10 : Int32) ([(.ref a1625), (.ref a1754), .null, .null, .null, .null, .null, .null, .null, .null]) .null := (f1768.keep K1791 nin0)
  refine own_callF C S1809 (count := 2) (own_wd hw 275 rfl) (own_wd hw 276 rfl) (own_wd hw 277 rfl) rfl (own_wd hw 278 rfl) (own_wd hw 279 rfl) (own_wd hw 280 rfl) (own_wd hw 281 rfl) (own_wd hw 114 rfl) (by decide) (own_Met.pay (own_ug l Z a0 hw a1789 a1567 (0 : Int32) (((0 : Int32) + (1 : Int32)) + (1 : Int32)) a1628 k1629 ([(.ref a1625), (.ref a1754), .null, .null, .null, .null, .null, .null, .null, .null]) a1625 h1796 n0 f1803 f1794 f1801 f1802 f1811 f1812 (by decide) (by decide) rfl) C 0 (own_wd hw 282 rfl) (own_wd hw 94 rfl) (by decide) (by decide)) (fun _ _ _ q => q.2) f1792 [(.int (0 : Int32))] [] rfl own_pd20 rfl rfl rfl (Nat.le_of_ble_eq_true rfl) (by decide) (by decide) (by decide +kernel) ?_
  rintro T1814 h1815 v1816 L1817 S1818 ⟨⟨rfl, e1813⟩, -⟩
  replace S1818 : own_S p l e room_1 (s.setVm vm1782) m #[(.int i0), (.int i1), (.int i2), (.int i3), (.int i4)] below meth c n0 T1814 h1815 42 268 := S1818
  rw [e1813] at S1818; clear e1813
  show own_Go p e below _ T1814 (mkF m 178 #[.val (.int i0), .val (.int i1), .val (.int i2), .val (.int i3), .val (.int i4), .val (.ref a1444), .val (.ref a1472), .val (.ref a1500), .val (.ref a1528), .val (.ref a1557), .val (.ref a1557), .val (.ref a1668), .val (.ref a1557), .val (.ref a1789)] [(.ref a1625)])
  have f1819 : Exa Z h1796 a1625 "java/lang/String" := ((f1698.keep K1759).keep K1791)
  refine own_cast C S1818 (own_wd hw 4 rfl) (Ins.self f1819) (by decide +kernel) ?_
  intro T1820 S1821
  refine own_seg C S1821 [(181, .aload 5, 2), (183, .aload 6, 2)] (by decide +kernel) 185 #[.val (.int i0), .val (.int i1), .val (.int i2), .val (.int i3), .val (.int i4), .val (.ref a1444), .val (.ref a1472), .val (.ref a1500), .val (.ref a1528), .val (.ref a1557), .val (.ref a1557), .val (.ref a1668), .val (.ref a1557), .val (.ref a1789)] [(.ref a1472), (.ref a1444), (.ref a1625)] rfl ?_
  have f1822 : Old Z n0 h1796 := ((f1701.keep K1759 (allS g1624 (allS g1752 all0))).keep K1791 all0)
  have n1823 : a1567 ≠ a1625 := Nat.ne_of_lt (Nat.lt_of_lt_of_le f1651 g1630)
  have f1824 : Fld Z h1796 a1625 "java/lang/String" "value" "[B" (.ref a1626) := ((f1702.keep K1759 (ninS (Ne.symm n1823) (ninS p1644 nin0))).keep K1791 nin0)
  have f1825 : Fld Z h1796 a1625 "java/lang/String" "coder" "B" (.int 0) := ((f1703.keep K1759 (ninS (Ne.symm n1823) (ninS p1644 nin0))).keep K1791 nin0)
  have n1826 : a1567 ≠ a1626 := Nat.ne_of_lt (Nat.lt_of_lt_of_le f1651 g1631)
  have f1827 : Arv Z h1796 a1626 k1627 .byte (Int32.ofNat (((([] : List Int32) ++ y1447) ++ ([58, 32] : List Int32)) ++ y1475).length) (own_sv (((([] : List Int32) ++ y1447) ++ ([58, 32] : List Int32)) ++ y1475)) (.int 0) := ((f1704.keep K1759 (ninS (Ne.symm n1826) (ninS p1645 nin0))).keep K1791 nin0)
  have f1828 : Exa Z h1796 a1444 "java/lang/String" := ((f1705.keep K1759).keep K1791)
  have f1829 : a1444 < h1589.size := (Nat.lt_of_lt_of_le (Nat.lt_of_lt_of_le f1706 K1569.1) K1584.1)
  have n1830 : a1444 ≠ a1628 := Nat.ne_of_lt (Nat.lt_of_lt_of_le f1829 g1632)
  have f1831 : Fld Z h1796 a1444 "java/lang/String" "value" "[B" (.ref a1445) := ((f1708.keep K1759 (ninS n1707 (ninS n1830 nin0))).keep K1791 nin0)
  have f1832 : Fld Z h1796 a1444 "java/lang/String" "coder" "B" (.int 0) := ((f1709.keep K1759 (ninS n1707 (ninS n1830 nin0))).keep K1791 nin0)
  have f1833 : a1445 < h1589.size := (Nat.lt_of_lt_of_le (Nat.lt_of_lt_of_le f1710 K1569.1) K1584.1)
  have n1834 : a1445 ≠ a1628 := Nat.ne_of_lt (Nat.lt_of_lt_of_le f1833 g1632)
  have f1835 : Arv Z h1796 a1445 k1446 .byte (Int32.ofNat (y1447).length) (own_sv y1447) (.int 0) := ((f1712.keep K1759 (ninS n1711 (ninS n1834 nin0))).keep K1791 nin0)
  have f1836 : Exa Z h1796 a1472 "java/lang/String" := ((f1713.keep K1759).keep K1791)
  have f1837 : a1472 < h1589.size := (Nat.lt_of_lt_of_le (Nat.lt_of_lt_of_le f1714 K1569.1) K1584.1)
  have n1838 : a1472 ≠ a1628 := Nat.ne_of_lt (Nat.lt_of_lt_of_le f1837 g1632)
  have f1839 : Fld Z h1796 a1472 "java/lang/String" "value" "[B" (.ref a1473) := ((f1716.keep K1759 (ninS n1715 (ninS n1838 nin0))).keep K1791 nin0)
  have f1840 : Fld Z h1796 a1472 "java/lang/String" "coder" "B" (.int 0) := ((f1717.keep K1759 (ninS n1715 (ninS n1838 nin0))).keep K1791 nin0)
  have f1841 : a1473 < h1589.size := (Nat.lt_of_lt_of_le (Nat.lt_of_lt_of_le f1718 K1569.1) K1584.1)
  have n1842 : a1473 ≠ a1628 := Nat.ne_of_lt (Nat.lt_of_lt_of_le f1841 g1632)
  have f1843 : Arv Z h1796 a1473 k1474 .byte (Int32.ofNat (y1475).length) (own_sv y1475) (.int 0) := ((f1720.keep K1759 (ninS n1719 (ninS n1842 nin0))).keep K1791 nin0)
  refine own_callS C S1821 (own_wd hw 302 rfl) (own_wd hw 303 rfl) (own_wd hw 2 rfl) (own_wd hw 304 rfl) (by decide) (own_Met.pay (own_lo l Z a0 hw G1 G3 a1625 a1626 k1627 (((([] : List Int32) ++ y1447) ++ ([58, 32] : List Int32)) ++ y1475) a1444 a1445 k1446 y1447 a1472 a1473 k1474 y1475 h1796 n0 f1803 f1822 f1819 f1824 f1825 f1827 f1828 f1831 f1832 f1835 f1836 f1839 f1840 f1843 O2 O4 P5 rG3 hp1660 (by first | decide | (simp only [List.length_append, List.length_cons, List.length_nil]; omega)) p1454 p1455 p1482 p1483 (by simp)) C 0 (own_wd hw 304 rfl) (own_wd hw 2 rfl) (by decide) (by decide)) (fun _ _ _ q => q.2) [(.ref a1625), (.ref a1444), (.ref a1472)] [] rfl own_pd33 rfl rfl rfl (Nat.le_of_ble_eq_true rfl) (by decide) (by decide) (by decide +kernel) ?_
  rintro T1845 h1846 v1847 L1848 S1849 ⟨⟨rfl, e1844⟩, -⟩
  replace S1849 : own_S p l e room_1 (s.setVm vm1782) m #[(.int i0), (.int i1), (.int i2), (.int i3), (.int i4)] below meth c n0 T1845 h1846 42 268 := S1849
  rw [e1844] at S1849; clear e1844
  show own_Go p e below _ T1845 (mkF m 188 #[.val (.int i0), .val (.int i1), .val (.int i2), .val (.int i3), .val (.int i4), .val (.ref a1444), .val (.ref a1472), .val (.ref a1500), .val (.ref a1528), .val (.ref a1557), .val (.ref a1557), .val (.ref a1668), .val (.ref a1557), .val (.ref a1789)] [(.int (1 : Int32))])
  refine own_if C S1849 (q := .eq) (o := 28) (by decide +kernel) 216 (by decide) (by decide) (fun (hq : (1 : Int32) = (0 : Int32)) => False.elim (absurd hq (by decide))) (fun (q1850 : ¬ (1 : Int32) = (0 : Int32)) => ?_)
  refine own_seg C S1849 [(191, .aload 13, 2), (193, .iconst 1, 1)] (by decide +kernel) 194 #[.val (.int i0), .val (.int i1), .val (.int i2), .val (.int i3), .val (.int i4), .val (.ref a1444), .val (.ref a1472), .val (.ref a1500), .val (.ref a1528), .val (.ref a1557), .val (.ref a1557), .val (.ref a1668), .val (.ref a1557), .val (.ref a1789)] [(.int (1 : Int32)), (.ref a1789)] rfl ?_
  refine own_callF C S1849 (count := 2) (own_wd hw 275 rfl) (own_wd hw 276 rfl) (own_wd hw 277 rfl) rfl (own_wd hw 278 rfl) (own_wd hw 279 rfl) (own_wd hw 280 rfl) (own_wd hw 281 rfl) (own_wd hw 114 rfl) (by decide) (own_Met.pay (own_ug l Z a0 hw a1789 a1567 (1 : Int32) (((0 : Int32) + (1 : Int32)) + (1 : Int32)) a1628 k1629 ([(.ref a1625), (.ref a1754), .null, .null, .null, .null, .null, .null, .null, .null]) a1754 h1796 n0 f1803 f1794 f1801 f1802 f1811 f1812 (by decide) (by decide) rfl) C 0 (own_wd hw 282 rfl) (own_wd hw 94 rfl) (by decide) (by decide)) (fun _ _ _ q => q.2) f1792 [(.int (1 : Int32))] [] rfl own_pd20 rfl rfl rfl (Nat.le_of_ble_eq_true rfl) (by decide) (by decide) (by decide +kernel) ?_
  rintro T1852 h1853 v1854 L1855 S1856 ⟨⟨rfl, e1851⟩, -⟩
  replace S1856 : own_S p l e room_1 (s.setVm vm1782) m #[(.int i0), (.int i1), (.int i2), (.int i3), (.int i4)] below meth c n0 T1852 h1853 42 268 := S1856
  rw [e1851] at S1856; clear e1851
  show own_Go p e below _ T1852 (mkF m 199 #[.val (.int i0), .val (.int i1), .val (.int i2), .val (.int i3), .val (.int i4), .val (.ref a1444), .val (.ref a1472), .val (.ref a1500), .val (.ref a1528), .val (.ref a1557), .val (.ref a1557), .val (.ref a1668), .val (.ref a1557), .val (.ref a1789)] [(.ref a1754)])
  have f1857 : Exa Z h1796 a1754 "java/lang/String" := (f1760.keep K1791)
  refine own_cast C S1856 (own_wd hw 4 rfl) (Ins.self f1857) (by decide +kernel) ?_
  intro T1858 S1859
  refine own_seg C S1859 [(202, .aload 7, 2), (204, .aload 8, 2)] (by decide +kernel) 206 #[.val (.int i0), .val (.int i1), .val (.int i2), .val (.int i3), .val (.int i4), .val (.ref a1444), .val (.ref a1472), .val (.ref a1500), .val (.ref a1528), .val (.ref a1557), .val (.ref a1557), .val (.ref a1668), .val (.ref a1557), .val (.ref a1789)] [(.ref a1528), (.ref a1500), (.ref a1754)] rfl ?_
  have f1860 : Fld Z h1796 a1754 "java/lang/String" "value" "[B" (.ref a1755) := (f1762.keep K1791 nin0)
  have f1861 : Fld Z h1796 a1754 "java/lang/String" "coder" "B" (.int 0) := (f1761.keep K1791 nin0)
  have f1862 : Arv Z h1796 a1755 k1756 .byte (Int32.ofNat (((([] : List Int32) ++ y1503) ++ ([58, 32] : List Int32)) ++ y1531).length) (own_sv (((([] : List Int32) ++ y1503) ++ ([58, 32] : List Int32)) ++ y1531)) (.int 0) := (f1763.keep K1791 nin0)
  have f1863 : Exa Z h1796 a1500 "java/lang/String" := ((f1728.keep K1759).keep K1791)
  have f1864 : a1500 < h1589.size := (Nat.lt_of_lt_of_le (Nat.lt_of_lt_of_le f1731 K1569.1) K1584.1)
  have n1865 : a1500 ≠ a1628 := Nat.ne_of_lt (Nat.lt_of_lt_of_le f1864 g1632)
  have f1866 : Fld Z h1796 a1500 "java/lang/String" "value" "[B" (.ref a1501) := ((f1733.keep K1759 (ninS n1732 (ninS n1865 nin0))).keep K1791 nin0)
  have f1867 : Fld Z h1796 a1500 "java/lang/String" "coder" "B" (.int 0) := ((f1734.keep K1759 (ninS n1732 (ninS n1865 nin0))).keep K1791 nin0)
  have f1868 : a1501 < h1589.size := (Nat.lt_of_lt_of_le (Nat.lt_of_lt_of_le f1737 K1569.1) K1584.1)
  have n1869 : a1501 ≠ a1628 := Nat.ne_of_lt (Nat.lt_of_lt_of_le f1868 g1632)
  have f1870 : Arv Z h1796 a1501 k1502 .byte (Int32.ofNat (y1503).length) (own_sv y1503) (.int 0) := ((f1739.keep K1759 (ninS n1738 (ninS n1869 nin0))).keep K1791 nin0)
  have f1871 : Exa Z h1796 a1528 "java/lang/String" := ((f1740.keep K1759).keep K1791)
  have f1872 : a1528 < h1589.size := (Nat.lt_of_lt_of_le (Nat.lt_of_lt_of_le f1742 K1569.1) K1584.1)
  have n1873 : a1528 ≠ a1628 := Nat.ne_of_lt (Nat.lt_of_lt_of_le f1872 g1632)
  have f1874 : Fld Z h1796 a1528 "java/lang/String" "value" "[B" (.ref a1529) := ((f1744.keep K1759 (ninS n1743 (ninS n1873 nin0))).keep K1791 nin0)
  have f1875 : Fld Z h1796 a1528 "java/lang/String" "coder" "B" (.int 0) := ((f1745.keep K1759 (ninS n1743 (ninS n1873 nin0))).keep K1791 nin0)
  have f1876 : a1529 < h1589.size := (Nat.lt_of_lt_of_le (Nat.lt_of_lt_of_le f1747 K1569.1) K1584.1)
  have n1877 : a1529 ≠ a1628 := Nat.ne_of_lt (Nat.lt_of_lt_of_le f1876 g1632)
  have f1878 : Arv Z h1796 a1529 k1530 .byte (Int32.ofNat (y1531).length) (own_sv y1531) (.int 0) := ((f1749.keep K1759 (ninS n1748 (ninS n1877 nin0))).keep K1791 nin0)
  refine own_callS C S1859 (own_wd hw 302 rfl) (own_wd hw 303 rfl) (own_wd hw 2 rfl) (own_wd hw 304 rfl) (by decide) (own_Met.pay (own_lo l Z a0 hw G1 G3 a1754 a1755 k1756 (((([] : List Int32) ++ y1503) ++ ([58, 32] : List Int32)) ++ y1531) a1500 a1501 k1502 y1503 a1528 a1529 k1530 y1531 h1796 n0 f1803 f1822 f1857 f1860 f1861 f1862 f1863 f1866 f1867 f1870 f1871 f1874 f1875 f1878 O2 O4 P5 rG3 hp1781 (by first | decide | (simp only [List.length_append, List.length_cons, List.length_nil]; omega)) p1510 p1511 p1538 p1539 (by simp)) C 0 (own_wd hw 304 rfl) (own_wd hw 2 rfl) (by decide) (by decide)) (fun _ _ _ q => q.2) [(.ref a1754), (.ref a1500), (.ref a1528)] [] rfl own_pd33 rfl rfl rfl (Nat.le_of_ble_eq_true rfl) (by decide) (by decide) (by decide +kernel) ?_
  rintro T1880 h1881 v1882 L1883 S1884 ⟨⟨rfl, e1879⟩, -⟩
  replace S1884 : own_S p l e room_1 (s.setVm vm1782) m #[(.int i0), (.int i1), (.int i2), (.int i3), (.int i4)] below meth c n0 T1880 h1881 42 268 := S1884
  rw [e1879] at S1884; clear e1879
  show own_Go p e below _ T1880 (mkF m 209 #[.val (.int i0), .val (.int i1), .val (.int i2), .val (.int i3), .val (.int i4), .val (.ref a1444), .val (.ref a1472), .val (.ref a1500), .val (.ref a1528), .val (.ref a1557), .val (.ref a1557), .val (.ref a1668), .val (.ref a1557), .val (.ref a1789)] [(.int (1 : Int32))])
  refine own_if C S1884 (q := .eq) (o := 7) (by decide +kernel) 216 (by decide) (by decide) (fun (hq : (1 : Int32) = (0 : Int32)) => False.elim (absurd hq (by decide))) (fun (q1885 : ¬ (1 : Int32) = (0 : Int32)) => ?_)
  refine own_seg C S1884 [(212, .iconst 1, 1), (213, .goto 4, 3)] (by decide +kernel) 217 #[.val (.int i0), .val (.int i1), .val (.int i2), .val (.int i3), .val (.int i4), .val (.ref a1444), .val (.ref a1472), .val (.ref a1500), .val (.ref a1528), .val (.ref a1557), .val (.ref a1557), .val (.ref a1668), .val (.ref a1557), .val (.ref a1789)] [(.int (1 : Int32))] rfl ?_
  have SW1886 : own_SW p l e room_1 s m #[(.int i0), (.int i1), (.int i2), (.int i3), (.int i4)] below meth c n0 Z own_EL "com/example/reckoner/reckoner/cli/ReportAddPinLaw" T1880 h1796 [a1789, a1668, a1557, a1567, a1582] 42 268 := rb1784 _ _ _ _ [] [a1789] S1884 ((Keep.refl _ _).trans K1791 all0) all0 (allS ⟨(Nat.le_trans (Nat.le_refl _) g1790), f1792.lt⟩ all0)
  refine own_retZW CW SW1886 (by decide +kernel) (by decide) (by decide) (by decide) ?_
  rfl
theorem own_sAt : ∀ a ∈ Bundle.stringAtoms, a ∈ tables_1 := by decide +kernel
set_option maxRecDepth 65536 in
theorem own_ELok {Z : State} {a0 : Array Value} (hw : ∀ d ∈ tables_1, d.before a0 Z = true) : EW Z a0 own_EL := (EW.cons (own_wd hw 198 rfl) (by decide) (EW.cons (own_wd hw 18 rfl) (by decide) EW.nil))
set_option maxRecDepth 65536 in
set_option maxHeartbeats 40000000 in
theorem comes_1 {Post : Tables → Env → Array Value → State → Outcome → State → Prop} (hpost : ∀ tb e args s v u, (limb_1_1.after args s (.returned v) u = true ∧ limb_1_2.after args s (.returned v) u = true ∧ True) → Jvm.D.FramedW s (.returned v) u (Jvm.fieldLocs frame_1_writes args s ++ Jvm.arrayLocs frame_1_arrays args s ++ Jvm.staticLocs frame_1_statics s) 64 2368 → Post tb e args s (.returned v) u) :
    ArmFor flags0 classFile x code maxLocals ret World_1 tables_1 room_1 Calls_1 rest_1 Pre_1 Post := by
  intro l hfl _ _ p e ha hc hk s m args below hf hA hF happ hP
  obtain ⟨hcalls, hrest, hpre⟩ := hP
  obtain ⟨-, -, -, hnamed, -, -, -, hat⟩ := (Spec.applies_iff hf).mp happ
  obtain ⟨hg, hn⟩ := and_e (Cond.before_iff.mp (show (Jvm.Cond.and given_1 narrow_1).before args s = true from hpre))
  obtain ⟨hcount, hk0⟩ := and_e hg
  obtain ⟨ha0, hk1⟩ := and_e hk0
  obtain ⟨ha1, hk2⟩ := and_e hk1
  obtain ⟨ha2, hk3⟩ := and_e hk2
  obtain ⟨ha3, hk4⟩ := and_e hk3
  obtain ⟨w0, w1, w2, w3, w4, rfl⟩ : ∃ w0 w1 w2 w3 w4 : Value, args = #[w0, w1, w2, w3, w4] := by
    have hs : args.size = 5 := by simpa [Cond.value, given_1] using hcount
    obtain ⟨L⟩ := args
    match L, hs with
    | [w0, w1, w2, w3, w4], _ => exact ⟨w0, w1, w2, w3, w4, rfl⟩
  have hw := fun d (hd : d ∈ tables_1) => atoms_spec (ws := Jvm.Cond.code x code maxLocals ret :: tables_1) hat d (List.mem_cons_of_mem _ hd)
  obtain ⟨i0, ei0⟩ := is_v ha0
  obtain rfl : w0 = (.int i0) := Option.some.inj ei0
  obtain ⟨i1, ei1⟩ := is_v ha1
  obtain rfl : w1 = (.int i1) := Option.some.inj ei1
  obtain ⟨i2, ei2⟩ := is_v ha2
  obtain rfl : w2 = (.int i2) := Option.some.inj ei2
  obtain ⟨i3, ei3⟩ := is_v ha3
  obtain rfl : w3 = (.int i3) := Option.some.inj ei3
  obtain ⟨i4, ei4⟩ := is_v hk4
  obtain rfl : w4 = (.int i4) := Option.some.inj ei4
  obtain ⟨hsets, hown0⟩ := atoms_of _ (rest_1_c_eq ▸ (show rest_1_c.before _ s = true from hrest))
  have nz := not_v (Cond.before_iff.mp (hsets _ (List.mem_of_getElem? (i := 11) rfl)))
  obtain ⟨g1, eg1⟩ := is_v (Cond.before_iff.mp (hsets _ (List.mem_of_getElem? (i := 10) rfl)))
  have O2 : Sta s s.heap "java/lang/String" "COMPACT_STRINGS" "Z" (.int g1) := Sta.start eg1 (Or.inl (hsets _ (List.mem_of_getElem? (i := 9) rfl)))
  obtain ⟨g3, eg3, rg3⟩ := isR_v (Cond.before_iff.mp (hsets _ (List.mem_of_getElem? (i := 17) rfl)))
  have O4 : Sta s s.heap "jdk/internal/util/Preconditions" "SIOOBE_FORMATTER" "Ljava/util/function/BiFunction;" g3 := Sta.start eg3 (Or.inl (hsets _ (List.mem_of_getElem? (i := 16) rfl)))
  have P5 : ¬ (g1 = (0 : Int32)) := gotF (Cond.eq_ints eg1 (Term.int_eval (0))) nz
  obtain ⟨D0, D0k, eD0, D0K, D0lt⟩ := own_D0 (dv := .null) (hsets _ (List.mem_of_getElem? (i := 6) rfl)) (hsets _ (List.mem_of_getElem? (i := 8) rfl))
  have OD : Sta s s.heap "java/util/ArrayList" "DEFAULTCAPACITY_EMPTY_ELEMENTDATA" "[Ljava/lang/Object;" (.ref D0) := Sta.start eD0 (Or.inr ⟨(own_wd hw 35 rfl), (hsets _ (List.mem_of_getElem? (i := 2) rfl))⟩)
  obtain ⟨m1, M1⟩ := own_mir hcalls.1
  obtain ⟨m2, M2⟩ := own_mir hcalls.2.1
  obtain ⟨m3, M3⟩ := own_mir hcalls.2.2.1
  have hEL : EW s _ own_EL := own_ELok hw
  have wS : ∀ a ∈ Bundle.stringAtoms, a.before _ s = true := fun a ha => hw a (own_sAt a ha)
  have hCH : CHv s own_EL s.vm s.heap := CHv.start hEL (fun p hp => hcalls.2.2.2.1 p hp) (hsets _ (List.mem_of_getElem? (i := 11) rfl)) (own_wd hw 19 rfl) (own_wd hw 5 rfl)
  obtain ⟨n, o, g1, g2, g3, _, L, rfl, ⟨rfl, N⟩, -, hq⟩ := own_law l s _ hw hEL wS  g1 g3 D0 D0k m1 m2 m3 i0 i1 i2 i3 i4 s.heap s.heap.size (Nat.le_refl _) (Old.start s) D0K O2 O4 P5 rg3 OD D0lt M1 M2 M3 tables_1 p e ha hc hk s m _ below hf ((Spec.applies_iff_loose hf).mp happ).1 ⟨rfl, State.Warmed39.refl s, rfl, hCH, all0⟩ trivial
  refine ⟨n, _, g1, g2, g3, hpost _ _ _ _ _ _ ⟨Cond.after_iff.mpr rfl, Cond.after_iff.mpr (eq_i res_at (Term.int_eval (1)) rfl), trivial⟩ ⟨hq.1, hq.2.1, hq.2.2.1, (hq.2.2.2.sift fun y hy => Or.inr (N y hy)).mono (by decide) (by decide)⟩⟩
theorem main_1_1 : Claimed_1_1 := comes_1 fun _ _ _ _ _ _ h hF => ⟨h.1, hF⟩
theorem main_1_2 : Claimed_1_2 := comes_1 fun _ _ _ _ _ _ h hF => ⟨h.2.1, hF⟩
end Jvm.Pilot.@@N@@
namespace Jvm.Pilot.@@N@@
open Jvm Jvm.ClassFile Sem Op Lib Jvm.Free Jvm.Stand Jvm.Pilot.@@N@@.Jvm.D
/-! MADE BY PROGRAM (witnessworld.py) out of the Statement's table words and the real class files: 41 classes; the members and pool entries that the words name. The judged class is class 1, her method 1. -/
namespace start1
open Jvm.ClassFile
def u (s : String) : CpInfo := .utf8 (stringToUtf16 s)
/-- a pool by its gaps: so many unusable entries, then the entry; so many at the end -/
def gap : Nat → List CpInfo → List CpInfo
  | 0, r => r
  | n + 1, r => .unusable :: gap n r
def poolList (es : List (Nat × CpInfo)) (last : Nat) : List CpInfo := es.foldr (fun e r => gap e.1 (e.2 :: r)) (gap last [])
def pool (es : List (Nat × CpInfo)) (last : Nat) : Array CpInfo := ⟨poolList es last⟩
def fileOf (pool : Array CpInfo) (this : Nat) (attrs : Array Attribute := #[]) (ms : Array MethodInfo := #[]) (fl : Nat := 33) (sup : Nat := 0) (ifs : Array Nat := #[]) (fds : Array FieldInfo := #[]) : ClassFile where
  minorVersion := 0
  majorVersion := 65
  constantPool := pool
  accessFlags := fl
  thisClass := this
  superClass := sup
  interfaces := ifs
  fields := fds
  methods := ms
  attributes := attrs
def plain (name : String) (sup : Option ClassId) : Class where
  name := name
  kind := .ordinary
  loader := none
  accessFlags := 33
  super := sup
  interfaces := #[]
  cf := none
  fields := #[]
  methods := #[]
  instanceTypes := #[]
  staticTypes := #[]
  resolved := #[]
  callSites := []
  init := .initialized
  statics := none
  mirror := none

def pool0 : Array CpInfo := pool [(5, u "<init>"), (0, u "()V"), (1, .class_ 10), (1, u "java/lang/Object"), (0, u "getClass"), (0, u "()Ljava/lang/Class;")] 111

def k0c0 : Code := { maxStack := 0, maxLocals := 1, code := object_method_1_code, exceptionTable := #[], attributes := #[] }
def k0m0 : Method := { name := "<init>", desc := "()V", sig := { parameters := [], returnType := none }, accessFlags := 1, code := some k0c0 }
def k0m1 : Method := { name := "getClass", desc := "()Ljava/lang/Class;", sig := { parameters := [], returnType := some (.object "java/lang/Class") }, accessFlags := 273, code := none }
/-- java/lang/Object -/
def k0 : Class := { plain "java/lang/Object" none with
  accessFlags := 33
  interfaces := #[]
  cf := some (fileOf pool0 8 #[] #[{ accessFlags := 1, nameIndex := 5, descriptorIndex := 6, attributes := #[] }, { accessFlags := 273, nameIndex := 11, descriptorIndex := 12, attributes := #[] }] 33 0 #[] #[])
  fields := #[]
  methods := #[k0m0, k0m1]
  instanceTypes := #[]
  staticTypes := #[]
  resolved := Array.replicate 124 none
  statics := none }

def pool1 : Array CpInfo := pool [(2, .class_ 4), (0, .nameAndType 5 6), (0, u "java/lang/Object"), (0, u "<init>"), (0, u "()V"), (0, .methodref 8 9), (0, .class_ 10), (0, .nameAndType 11 12), (0, u "com/example/reckoner/reckoner/cli/ReportAddPinLaw"), (0, u "str"), (0, u "(II)Ljava/lang/String;"), (0, .class_ 14), (0, u "com/example/reckoner/reckoner/cli/Report"), (0, .methodref 13 3), (0, .methodref 13 17), (0, .nameAndType 18 19), (0, u "lines"), (0, u "()Ljava/util/List;"), (0, .interfaceMethodref 21 22), (0, .class_ 23), (0, .nameAndType 24 25), (0, u "java/util/List"), (0, u "size"), (0, u "()I"), (0, .methodref 13 27), (0, .nameAndType 28 29), (0, u "add"), (0, u "(Ljava/lang/String;Ljava/lang/String;)Lcom/example/reckoner/reckoner/cli/Report;"), (0, .interfaceMethodref 21 31), (0, .nameAndType 32 33), (0, u "get"), (0, u "(I)Ljava/lang/Object;"), (0, .class_ 35), (0, u "java/lang/String"), (0, .methodref 8 37), (0, .nameAndType 38 39), (0, u "lineOk"), (0, u "(Ljava/lang/String;Ljava/lang/String;Ljava/lang/String;)Z"), (0, .methodref 34 41), (0, .nameAndType 5 42), (0, u "([C)V"), (0, .methodref 34 44), (0, .nameAndType 45 25), (0, u "length"), (0, .methodref 34 47), (0, .nameAndType 48 49), (0, u "charAt"), (0, u "(I)C"), (0, .methodref 8 51), (0, .nameAndType 52 53), (0, u "exp"), (0, u "(Ljava/lang/String;Ljava/lang/String;I)C"), (2, u "law"), (0, u "(IIIII)Z")] 3

def k1m0 : Method := { name := "<init>", desc := "()V", sig := { parameters := [], returnType := none }, accessFlags := 1, code := none }
def k1c1 : Code := { maxStack := 3, maxLocals := 14, code := code, exceptionTable := #[], attributes := #[] }
def k1m1 : Method := { name := "law", desc := "(IIIII)Z", sig := { parameters := [.int, .int, .int, .int, .int], returnType := some .boolean }, accessFlags := 9, code := some k1c1 }
def k1c2 : Code := { maxStack := 6, maxLocals := 4, code := method_3_code, exceptionTable := #[], attributes := #[] }
def k1m2 : Method := { name := "str", desc := "(II)Ljava/lang/String;", sig := { parameters := [.int, .int], returnType := some (.object "java/lang/String") }, accessFlags := 10, code := some k1c2 }
def k1c3 : Code := { maxStack := 3, maxLocals := 4, code := method_4_code, exceptionTable := #[], attributes := #[] }
def k1m3 : Method := { name := "exp", desc := "(Ljava/lang/String;Ljava/lang/String;I)C", sig := { parameters := [(.object "java/lang/String"), (.object "java/lang/String"), .int], returnType := some .char }, accessFlags := 10, code := some k1c3 }
def k1c4 : Code := { maxStack := 4, maxLocals := 4, code := method_5_code, exceptionTable := #[], attributes := #[] }
def k1m4 : Method := { name := "lineOk", desc := "(Ljava/lang/String;Ljava/lang/String;Ljava/lang/String;)Z", sig := { parameters := [(.object "java/lang/String"), (.object "java/lang/String"), (.object "java/lang/String")], returnType := some .boolean }, accessFlags := 10, code := some k1c4 }
/-- com/example/reckoner/reckoner/cli/ReportAddPinLaw -/
def k1 : Class := { plain "com/example/reckoner/reckoner/cli/ReportAddPinLaw" (some 0) with
  accessFlags := 49
  interfaces := #[]
  cf := some (fileOf pool1 8 #[] #[{ accessFlags := 1, nameIndex := 5, descriptorIndex := 6, attributes := #[] }, { accessFlags := 9, nameIndex := 56, descriptorIndex := 57, attributes := #[] }, { accessFlags := 10, nameIndex := 11, descriptorIndex := 12, attributes := #[] }, { accessFlags := 10, nameIndex := 52, descriptorIndex := 53, attributes := #[] }, { accessFlags := 10, nameIndex := 38, descriptorIndex := 39, attributes := #[] }] 49 2 #[] #[])
  fields := #[]
  methods := #[k1m0, k1m1, k1m2, k1m3, k1m4]
  instanceTypes := #[]
  staticTypes := #[]
  resolved := Array.replicate 61 none
  statics := none }

def pool2 : Array CpInfo := pool [(1, .class_ 2), (0, u "java/io/Serializable"), (0, .class_ 4), (0, u "java/lang/Object")] 2

/-- java/io/Serializable -/
def k2 : Class := { plain "java/io/Serializable" (some 0) with
  accessFlags := 1537
  interfaces := #[]
  cf := some (fileOf pool2 1 #[] #[] 1537 3 #[] #[])
  fields := #[]
  methods := #[]
  instanceTypes := #[]
  staticTypes := #[]
  resolved := Array.replicate 7 none
  statics := none }

def pool3 : Array CpInfo := pool [(1, .class_ 2), (0, u "java/lang/Comparable"), (0, .class_ 4), (0, u "java/lang/Object")] 7

/-- java/lang/Comparable -/
def k3 : Class := { plain "java/lang/Comparable" (some 0) with
  accessFlags := 1537
  interfaces := #[]
  cf := some (fileOf pool3 1 #[] #[] 1537 3 #[] #[])
  fields := #[]
  methods := #[]
  instanceTypes := #[]
  staticTypes := #[]
  resolved := Array.replicate 12 none
  statics := none }

def pool4 : Array CpInfo := pool [(2, .class_ 4), (1, u "java/lang/CharSequence"), (42, .class_ 48), (0, u "java/lang/CharSequence$1CodePointIterator"), (10, .class_ 60), (0, u "java/lang/CharSequence$1CharIterator"), (5, .class_ 67), (0, u "java/lang/Object")] 63

/-- java/lang/CharSequence -/
def k4 : Class := { plain "java/lang/CharSequence" (some 0) with
  accessFlags := 1537
  interfaces := #[]
  cf := some (fileOf pool4 2 #[.nestMembers #[47, 59]] #[] 1537 66 #[] #[])
  fields := #[]
  methods := #[]
  instanceTypes := #[]
  staticTypes := #[]
  resolved := Array.replicate 131 none
  statics := none }

def pool5 : Array CpInfo := pool [(1, .class_ 2), (0, u "java/lang/constant/Constable"), (0, .class_ 4), (0, u "java/lang/Object")] 6

/-- java/lang/constant/Constable -/
def k5 : Class := { plain "java/lang/constant/Constable" (some 0) with
  accessFlags := 1537
  interfaces := #[]
  cf := some (fileOf pool5 1 #[] #[] 1537 3 #[] #[])
  fields := #[]
  methods := #[]
  instanceTypes := #[]
  staticTypes := #[]
  resolved := Array.replicate 11 none
  statics := none }

def pool6 : Array CpInfo := pool [(1, .class_ 2), (0, u "java/lang/constant/ConstantDesc"), (0, .class_ 4), (0, u "java/lang/Object")] 32

/-- java/lang/constant/ConstantDesc -/
def k6 : Class := { plain "java/lang/constant/ConstantDesc" (some 0) with
  accessFlags := 1537
  interfaces := #[]
  cf := some (fileOf pool6 1 #[] #[] 1537 3 #[] #[])
  fields := #[]
  methods := #[]
  instanceTypes := #[]
  staticTypes := #[]
  resolved := Array.replicate 37 none
  statics := none }

def pool7 : Array CpInfo := pool [(1, .methodref 2 3), (0, .class_ 4), (0, .nameAndType 5 6), (0, u "java/lang/Object"), (0, u "<init>"), (0, u "()V"), (0, .string 8), (0, u ""), (0, .fieldref 10 11), (0, .class_ 12), (0, .nameAndType 13 14), (0, u "java/lang/String"), (0, u "value"), (0, u "[B"), (0, .fieldref 10 16), (0, .nameAndType 17 18), (0, u "coder"), (0, u "B"), (2, u "hash"), (0, u "I"), (2, u "hashIsZero"), (0, u "Z"), (0, .methodref 10 28), (0, .nameAndType 5 29), (0, u "([CIILjava/lang/Void;)V"), (8, .fieldref 10 39), (0, .nameAndType 40 26), (0, u "COMPACT_STRINGS"), (1, .class_ 44), (1, u "java/lang/StringUTF16"), (0, u "compress"), (1, .methodref 42 48), (0, .nameAndType 49 50), (0, u "coderFromArrayLen"), (0, u "([BI)B"), (3, .methodref 55 56), (0, .class_ 57), (0, .nameAndType 58 59), (0, u "java/util/Arrays"), (0, u "copyOfRange"), (0, u "([BII)[B"), (47, .class_ 109), (1, u "java/lang/StringLatin1"), (32, u "()Z"), (34, .methodref 42 178), (0, .nameAndType 45 179), (0, u "([CII)[B"), (13, .class_ 195), (1, u "java/lang/System"), (16, .methodref 193 213), (0, .nameAndType 214 215), (0, u "arraycopy"), (0, u "(Ljava/lang/Object;ILjava/lang/Object;II)V"), (118, u "()I"), (0, .methodref 10 336), (0, .nameAndType 17 337), (0, u "()B"), (2, u "()[B"), (22, u "([BI)C"), (27, u "(II)V"), (35, u "(I)C"), (61, .methodref 10 490), (0, .nameAndType 5 491), (0, u "(Ljava/lang/AbstractStringBuilder;Ljava/lang/Void;)V"), (0, .methodref 10 493), (0, .nameAndType 494 142), (0, u "isLatin1"), (0, .methodref 107 496), (0, .nameAndType 497 363), (0, u "charAt"), (3, u "checkIndex"), (4, .nameAndType 507 334), (0, u "length"), (24, u "getBytes"), (16, .methodref 550 506), (0, .class_ 551), (0, u "java/lang/AbstractStringBuilder"), (0, .methodref 550 553), (0, .nameAndType 554 340), (0, u "getValue"), (20, .class_ 576), (0, u "java/lang/CharSequence"), (22, u "CASE_INSENSITIVE_ORDER"), (0, u "Ljava/util/Comparator;"), (220, u "([BIB)V"), (188, u "([C)V"), (36, .methodref 550 493), (5, .fieldref 1054 1055), (0, .class_ 1056), (0, .nameAndType 1057 1058), (0, u "jdk/internal/util/Preconditions"), (0, u "SIOOBE_FORMATTER"), (0, u "Ljava/util/function/BiFunction;"), (0, .methodref 1054 1060), (0, .nameAndType 501 1061), (0, u "(IILjava/util/function/BiFunction;)I"), (39, u "serialPersistentFields"), (0, u "[Ljava/io/ObjectStreamField;"), (0, .class_ 1104), (0, u "java/lang/String$CaseInsensitiveComparator"), (1, .class_ 1107), (0, u "java/io/Serializable"), (0, .class_ 1109), (0, u "java/lang/Comparable"), (0, .class_ 1111), (0, u "java/lang/constant/Constable"), (0, .class_ 1113), (0, u "java/lang/constant/ConstantDesc"), (2, u "serialVersionUID"), (0, u "J"), (3, u "REPL"), (0, u "C"), (2, u "LATIN1"), (1, u "UTF16"), (105, u "(Ljava/lang/StringBuilder;)V")] 217

def k7m0 : Method := { name := "<init>", desc := "()V", sig := { parameters := [], returnType := none }, accessFlags := 1, code := none }
def k7c1 : Code := { maxStack := 5, maxLocals := 2, code := jdk_42_method_3_code, exceptionTable := #[], attributes := #[] }
def k7m1 : Method := { name := "<init>", desc := "([C)V", sig := { parameters := [(.array .char)], returnType := none }, accessFlags := 1, code := some k7c1 }
def k7c2 : Code := { maxStack := 3, maxLocals := 2, code := jdk_42_method_53_code, exceptionTable := #[], attributes := #[] }
def k7m2 : Method := { name := "<init>", desc := "(Ljava/lang/StringBuilder;)V", sig := { parameters := [(.object "java/lang/StringBuilder")], returnType := none }, accessFlags := 1, code := some k7c2 }
def k7c3 : Code := { maxStack := 2, maxLocals := 1, code := jdk_42_method_54_code, exceptionTable := #[], attributes := #[] }
def k7m3 : Method := { name := "length", desc := "()I", sig := { parameters := [], returnType := some .int }, accessFlags := 1, code := some k7c3 }
def k7c4 : Code := { maxStack := 2, maxLocals := 2, code := jdk_42_method_56_code, exceptionTable := #[], attributes := #[] }
def k7m4 : Method := { name := "charAt", desc := "(I)C", sig := { parameters := [.int], returnType := some .char }, accessFlags := 1, code := some k7c4 }
def k7c5 : Code := { maxStack := 5, maxLocals := 4, code := jdk_42_method_147_code, exceptionTable := #[], attributes := #[] }
def k7m5 : Method := { name := "getBytes", desc := "([BIB)V", sig := { parameters := [(.array .byte), .int, .byte], returnType := none }, accessFlags := 0, code := some k7c5 }
def k7c6 : Code := { maxStack := 4, maxLocals := 6, code := jdk_42_method_149_code, exceptionTable := #[], attributes := #[] }
def k7m6 : Method := { name := "<init>", desc := "([CIILjava/lang/Void;)V", sig := { parameters := [(.array .char), .int, .int, (.object "java/lang/Void")], returnType := none }, accessFlags := 2, code := some k7c6 }
def k7c7 : Code := { maxStack := 5, maxLocals := 5, code := jdk_42_method_150_code, exceptionTable := #[], attributes := #[] }
def k7m7 : Method := { name := "<init>", desc := "(Ljava/lang/AbstractStringBuilder;Ljava/lang/Void;)V", sig := { parameters := [(.object "java/lang/AbstractStringBuilder"), (.object "java/lang/Void")], returnType := none }, accessFlags := 0, code := some k7c7 }
def k7c8 : Code := { maxStack := 1, maxLocals := 1, code := jdk_42_method_152_code, exceptionTable := #[], attributes := #[] }
def k7m8 : Method := { name := "coder", desc := "()B", sig := { parameters := [], returnType := some .byte }, accessFlags := 0, code := some k7c8 }
def k7c9 : Code := { maxStack := 1, maxLocals := 1, code := jdk_42_method_154_code, exceptionTable := #[], attributes := #[] }
def k7m9 : Method := { name := "isLatin1", desc := "()Z", sig := { parameters := [], returnType := some .boolean }, accessFlags := 0, code := some k7c9 }
def k7c10 : Code := { maxStack := 3, maxLocals := 2, code := jdk_42_method_155_code, exceptionTable := #[], attributes := #[] }
def k7m10 : Method := { name := "checkIndex", desc := "(II)V", sig := { parameters := [.int, .int], returnType := none }, accessFlags := 8, code := some k7c10 }
/-- java/lang/String -/
def k7 : Class := { plain "java/lang/String" (some 0) with
  accessFlags := 49
  interfaces := #[2, 3, 4, 5, 6]
  cf := some (fileOf pool7 10 #[.nestMembers #[1103]] #[{ accessFlags := 1, nameIndex := 5, descriptorIndex := 6, attributes := #[] }, { accessFlags := 1, nameIndex := 5, descriptorIndex := 1010, attributes := #[] }, { accessFlags := 1, nameIndex := 5, descriptorIndex := 1233, attributes := #[] }, { accessFlags := 1, nameIndex := 507, descriptorIndex := 334, attributes := #[] }, { accessFlags := 1, nameIndex := 497, descriptorIndex := 427, attributes := #[] }, { accessFlags := 0, nameIndex := 532, descriptorIndex := 821, attributes := #[] }, { accessFlags := 2, nameIndex := 5, descriptorIndex := 29, attributes := #[] }, { accessFlags := 0, nameIndex := 5, descriptorIndex := 491, attributes := #[] }, { accessFlags := 0, nameIndex := 17, descriptorIndex := 337, attributes := #[] }, { accessFlags := 0, nameIndex := 494, descriptorIndex := 142, attributes := #[] }, { accessFlags := 8, nameIndex := 501, descriptorIndex := 391, attributes := #[] }] 49 2 #[1106, 1108, 575, 1110, 1112] #[{ accessFlags := 18, nameIndex := 13, descriptorIndex := 14, attributes := #[] }, { accessFlags := 18, nameIndex := 17, descriptorIndex := 18, attributes := #[] }, { accessFlags := 2, nameIndex := 21, descriptorIndex := 22, attributes := #[] }, { accessFlags := 2, nameIndex := 25, descriptorIndex := 26, attributes := #[] }, { accessFlags := 26, nameIndex := 1116, descriptorIndex := 1117, attributes := #[] }, { accessFlags := 24, nameIndex := 40, descriptorIndex := 26, attributes := #[] }, { accessFlags := 26, nameIndex := 1101, descriptorIndex := 1102, attributes := #[] }, { accessFlags := 26, nameIndex := 1121, descriptorIndex := 1122, attributes := #[] }, { accessFlags := 25, nameIndex := 599, descriptorIndex := 600, attributes := #[] }, { accessFlags := 24, nameIndex := 1125, descriptorIndex := 18, attributes := #[] }, { accessFlags := 24, nameIndex := 1127, descriptorIndex := 18, attributes := #[] }])
  fields := #[{ name := "value", type := (.array .byte), accessFlags := 18, slot := 0, constantValue := 0 }, { name := "coder", type := .byte, accessFlags := 18, slot := 1, constantValue := 0 }, { name := "hash", type := .int, accessFlags := 2, slot := 2, constantValue := 0 }, { name := "hashIsZero", type := .boolean, accessFlags := 2, slot := 3, constantValue := 0 }, { name := "serialVersionUID", type := .long, accessFlags := 26, slot := 0, constantValue := 0 }, { name := "COMPACT_STRINGS", type := .boolean, accessFlags := 24, slot := 1, constantValue := 0 }, { name := "serialPersistentFields", type := (.array (.object "java/io/ObjectStreamField")), accessFlags := 26, slot := 2, constantValue := 0 }, { name := "REPL", type := .char, accessFlags := 26, slot := 3, constantValue := 0 }, { name := "CASE_INSENSITIVE_ORDER", type := (.object "java/util/Comparator"), accessFlags := 25, slot := 4, constantValue := 0 }, { name := "LATIN1", type := .byte, accessFlags := 24, slot := 5, constantValue := 0 }, { name := "UTF16", type := .byte, accessFlags := 24, slot := 6, constantValue := 0 }]
  methods := #[k7m0, k7m1, k7m2, k7m3, k7m4, k7m5, k7m6, k7m7, k7m8, k7m9, k7m10]
  instanceTypes := #[(.array .byte), .byte, .int, .boolean]
  staticTypes := #[.long, .boolean, (.array (.object "java/io/ObjectStreamField")), .char, (.object "java/util/Comparator"), .byte, .byte]
  resolved := Array.replicate 1451 none
  statics := some 0 }

def pool8 : Array CpInfo := pool [(1, .methodref 2 3), (0, .class_ 4), (0, .nameAndType 5 6), (0, u "java/lang/Object"), (0, u "<init>"), (0, u "()V"), (0, .class_ 8), (0, u "java/util/ArrayList"), (0, .methodref 7 3), (0, .fieldref 11 12), (0, .class_ 13), (0, .nameAndType 14 15), (0, u "com/example/reckoner/reckoner/cli/Report"), (0, u "lines"), (0, u "Ljava/util/List;"), (0, .class_ 17), (0, u "java/lang/StringBuilder"), (0, .methodref 16 3), (0, .methodref 16 20), (0, .nameAndType 21 22), (0, u "append"), (0, u "(Ljava/lang/String;)Ljava/lang/StringBuilder;"), (0, .string 24), (0, u ": "), (0, .methodref 16 26), (0, .nameAndType 27 28), (0, u "toString"), (0, u "()Ljava/lang/String;"), (0, .interfaceMethodref 30 31), (0, .class_ 32), (0, .nameAndType 33 34), (0, u "java/util/List"), (0, u "add"), (0, u "(Ljava/lang/Object;)Z"), (7, u "(Ljava/lang/String;Ljava/lang/String;)Lcom/example/reckoner/reckoner/cli/Report;"), (135, .methodref 179 180), (0, .class_ 181), (0, .nameAndType 182 183), (0, u "java/util/Collections"), (0, u "unmodifiableList"), (0, u "(Ljava/util/List;)Ljava/util/List;"), (3, u "WEIGHTED_PRICE"), (0, u "Ljava/lang/String;"), (3, u "AMOUNT"), (0, u "EXPORT_KWH"), (0, u "BUYBACK"), (0, u "NET"), (19, u "()Ljava/util/List;")] 3

def k8c0 : Code := { maxStack := 3, maxLocals := 1, code := prog_2_method_1_code, exceptionTable := #[], attributes := #[] }
def k8m0 : Method := { name := "<init>", desc := "()V", sig := { parameters := [], returnType := none }, accessFlags := 1, code := some k8c0 }
def k8c1 : Code := { maxStack := 3, maxLocals := 3, code := prog_2_method_2_code, exceptionTable := #[], attributes := #[] }
def k8m1 : Method := { name := "add", desc := "(Ljava/lang/String;Ljava/lang/String;)Lcom/example/reckoner/reckoner/cli/Report;", sig := { parameters := [(.object "java/lang/String"), (.object "java/lang/String")], returnType := some (.object "com/example/reckoner/reckoner/cli/Report") }, accessFlags := 1, code := some k8c1 }
def k8c2 : Code := { maxStack := 1, maxLocals := 1, code := prog_2_method_16_code, exceptionTable := #[], attributes := #[] }
def k8m2 : Method := { name := "lines", desc := "()Ljava/util/List;", sig := { parameters := [], returnType := some (.object "java/util/List") }, accessFlags := 1, code := some k8c2 }
/-- com/example/reckoner/reckoner/cli/Report -/
def k8 : Class := { plain "com/example/reckoner/reckoner/cli/Report" (some 0) with
  accessFlags := 49
  interfaces := #[]
  cf := some (fileOf pool8 11 #[] #[{ accessFlags := 1, nameIndex := 5, descriptorIndex := 6, attributes := #[] }, { accessFlags := 1, nameIndex := 33, descriptorIndex := 42, attributes := #[] }, { accessFlags := 1, nameIndex := 14, descriptorIndex := 215, attributes := #[] }] 49 2 #[] #[{ accessFlags := 24, nameIndex := 187, descriptorIndex := 188, attributes := #[] }, { accessFlags := 26, nameIndex := 192, descriptorIndex := 188, attributes := #[] }, { accessFlags := 26, nameIndex := 193, descriptorIndex := 188, attributes := #[] }, { accessFlags := 26, nameIndex := 194, descriptorIndex := 188, attributes := #[] }, { accessFlags := 26, nameIndex := 195, descriptorIndex := 188, attributes := #[] }, { accessFlags := 18, nameIndex := 14, descriptorIndex := 15, attributes := #[] }])
  fields := #[{ name := "WEIGHTED_PRICE", type := (.object "java/lang/String"), accessFlags := 24, slot := 0, constantValue := 0 }, { name := "AMOUNT", type := (.object "java/lang/String"), accessFlags := 26, slot := 1, constantValue := 0 }, { name := "EXPORT_KWH", type := (.object "java/lang/String"), accessFlags := 26, slot := 2, constantValue := 0 }, { name := "BUYBACK", type := (.object "java/lang/String"), accessFlags := 26, slot := 3, constantValue := 0 }, { name := "NET", type := (.object "java/lang/String"), accessFlags := 26, slot := 4, constantValue := 0 }, { name := "lines", type := (.object "java/util/List"), accessFlags := 18, slot := 0, constantValue := 0 }]
  methods := #[k8m0, k8m1, k8m2]
  instanceTypes := #[(.object "java/util/List")]
  staticTypes := #[(.object "java/lang/String"), (.object "java/lang/String"), (.object "java/lang/String"), (.object "java/lang/String"), (.object "java/lang/String")]
  resolved := Array.replicate 219 none
  statics := none }

def pool9 : Array CpInfo := pool [(8, .class_ 10), (1, u "java/lang/Iterable"), (24, .class_ 36), (0, u "java/lang/Object")] 25

/-- java/lang/Iterable -/
def k9 : Class := { plain "java/lang/Iterable" (some 0) with
  accessFlags := 1537
  interfaces := #[]
  cf := some (fileOf pool9 8 #[] #[] 1537 35 #[] #[])
  fields := #[]
  methods := #[]
  instanceTypes := #[]
  staticTypes := #[]
  resolved := Array.replicate 62 none
  statics := none }

def pool10 : Array CpInfo := pool [(10, .class_ 12), (1, u "java/util/Collection"), (47, .class_ 61), (0, u "java/lang/Object"), (0, .class_ 63), (0, u "java/lang/Iterable"), (0, u "size"), (0, u "()I")] 49

def k10m0 : Method := { name := "size", desc := "()I", sig := { parameters := [], returnType := some .int }, accessFlags := 1025, code := none }
/-- java/util/Collection -/
def k10 : Class := { plain "java/util/Collection" (some 0) with
  accessFlags := 1537
  interfaces := #[9]
  cf := some (fileOf pool10 10 #[] #[{ accessFlags := 1025, nameIndex := 64, descriptorIndex := 65, attributes := #[] }] 1537 60 #[62] #[])
  fields := #[]
  methods := #[k10m0]
  instanceTypes := #[]
  staticTypes := #[]
  resolved := Array.replicate 115 none
  statics := none }

def pool11 : Array CpInfo := pool [(1, .methodref 2 3), (0, .class_ 4), (0, .nameAndType 5 6), (0, u "java/lang/Object"), (0, u "<init>"), (0, u "()V"), (1, .class_ 10), (1, u "java/util/AbstractCollection"), (66, .class_ 78), (0, u "java/util/Collection")] 81

def k11c0 : Code := { maxStack := 1, maxLocals := 1, code := jdk_22_method_1_code, exceptionTable := #[], attributes := #[] }
def k11m0 : Method := { name := "<init>", desc := "()V", sig := { parameters := [], returnType := none }, accessFlags := 4, code := some k11c0 }
/-- java/util/AbstractCollection -/
def k11 : Class := { plain "java/util/AbstractCollection" (some 0) with
  accessFlags := 1057
  interfaces := #[10]
  cf := some (fileOf pool11 8 #[] #[{ accessFlags := 4, nameIndex := 5, descriptorIndex := 6, attributes := #[] }] 1057 2 #[77] #[])
  fields := #[]
  methods := #[k11m0]
  instanceTypes := #[]
  staticTypes := #[]
  resolved := Array.replicate 160 none
  statics := none }

def pool12 : Array CpInfo := pool [(8, .class_ 10), (1, u "java/util/SequencedCollection"), (15, .class_ 27), (0, u "java/lang/Object"), (0, .class_ 29), (0, u "java/util/Collection")] 27

/-- java/util/SequencedCollection -/
def k12 : Class := { plain "java/util/SequencedCollection" (some 0) with
  accessFlags := 1537
  interfaces := #[10]
  cf := some (fileOf pool12 8 #[] #[] 1537 26 #[28] #[])
  fields := #[]
  methods := #[]
  instanceTypes := #[]
  staticTypes := #[]
  resolved := Array.replicate 57 none
  statics := none }

def pool13 : Array CpInfo := pool [(8, .class_ 10), (1, u "java/util/List"), (49, u "add"), (3, u "(Ljava/lang/Object;)Z"), (10, u "get"), (0, u "(I)Ljava/lang/Object;"), (2, u "size"), (0, u "()I"), (22, .class_ 104), (0, u "java/lang/Object"), (15, .class_ 121), (0, u "java/util/SequencedCollection")] 129

def k13m0 : Method := { name := "size", desc := "()I", sig := { parameters := [], returnType := some .int }, accessFlags := 1025, code := none }
def k13m1 : Method := { name := "add", desc := "(Ljava/lang/Object;)Z", sig := { parameters := [(.object "java/lang/Object")], returnType := some .boolean }, accessFlags := 1025, code := none }
def k13m2 : Method := { name := "get", desc := "(I)Ljava/lang/Object;", sig := { parameters := [.int], returnType := some (.object "java/lang/Object") }, accessFlags := 1025, code := none }
/-- java/util/List -/
def k13 : Class := { plain "java/util/List" (some 0) with
  accessFlags := 1537
  interfaces := #[12]
  cf := some (fileOf pool13 8 #[] #[{ accessFlags := 1025, nameIndex := 79, descriptorIndex := 80, attributes := #[] }, { accessFlags := 1025, nameIndex := 60, descriptorIndex := 64, attributes := #[] }, { accessFlags := 1025, nameIndex := 75, descriptorIndex := 76, attributes := #[] }] 1537 103 #[120] #[])
  fields := #[]
  methods := #[k13m0, k13m1, k13m2]
  instanceTypes := #[]
  staticTypes := #[]
  resolved := Array.replicate 251 none
  statics := none }

def pool14 : Array CpInfo := pool [(1, .methodref 2 3), (0, .class_ 4), (0, .nameAndType 5 6), (0, u "java/util/AbstractCollection"), (0, u "<init>"), (0, u "()V"), (0, .fieldref 8 9), (0, .class_ 10), (0, .nameAndType 11 12), (0, u "java/util/AbstractList"), (0, u "modCount"), (0, u "I"), (64, .class_ 78), (0, u "java/util/AbstractList$Itr"), (3, .class_ 83), (0, u "java/util/AbstractList$ListItr"), (9, .class_ 94), (0, u "java/util/AbstractList$RandomAccessSubList"), (3, .class_ 99), (0, u "java/util/AbstractList$SubList"), (33, .class_ 134), (0, u "java/util/List"), (73, .class_ 209), (0, u "java/util/AbstractList$SubList$1"), (0, .class_ 211), (0, u "java/util/AbstractList$RandomAccessSpliterator")] 6

def k14c0 : Code := { maxStack := 2, maxLocals := 1, code := jdk_39_method_1_code, exceptionTable := #[], attributes := #[] }
def k14m0 : Method := { name := "<init>", desc := "()V", sig := { parameters := [], returnType := none }, accessFlags := 4, code := some k14c0 }
/-- java/util/AbstractList -/
def k14 : Class := { plain "java/util/AbstractList" (some 11) with
  accessFlags := 1057
  interfaces := #[13]
  cf := some (fileOf pool14 8 #[.nestMembers #[93, 98, 208, 210, 82, 77]] #[{ accessFlags := 4, nameIndex := 5, descriptorIndex := 6, attributes := #[] }] 1057 2 #[133] #[{ accessFlags := 132, nameIndex := 11, descriptorIndex := 12, attributes := #[] }])
  fields := #[{ name := "modCount", type := .int, accessFlags := 132, slot := 0, constantValue := 0 }]
  methods := #[k14m0]
  instanceTypes := #[.int]
  staticTypes := #[]
  resolved := Array.replicate 218 none
  statics := none }

def pool15 : Array CpInfo := pool [(1, .class_ 2), (0, u "java/util/RandomAccess"), (0, .class_ 4), (0, u "java/lang/Object")] 2

/-- java/util/RandomAccess -/
def k15 : Class := { plain "java/util/RandomAccess" (some 0) with
  accessFlags := 1537
  interfaces := #[]
  cf := some (fileOf pool15 1 #[] #[] 1537 3 #[] #[])
  fields := #[]
  methods := #[]
  instanceTypes := #[]
  staticTypes := #[]
  resolved := Array.replicate 7 none
  statics := none }

def pool16 : Array CpInfo := pool [(1, .class_ 2), (0, u "java/lang/Cloneable"), (0, .class_ 4), (0, u "java/lang/Object")] 2

/-- java/lang/Cloneable -/
def k16 : Class := { plain "java/lang/Cloneable" (some 0) with
  accessFlags := 1537
  interfaces := #[]
  cf := some (fileOf pool16 1 #[] #[] 1537 3 #[] #[])
  fields := #[]
  methods := #[]
  instanceTypes := #[]
  staticTypes := #[]
  resolved := Array.replicate 7 none
  statics := none }

def pool17 : Array CpInfo := pool [(1, .methodref 2 3), (0, .class_ 4), (0, .nameAndType 5 6), (0, u "java/util/AbstractList"), (0, u "<init>"), (0, u "()V"), (0, .class_ 8), (0, u "java/lang/Object"), (0, .fieldref 10 11), (0, .class_ 12), (0, .nameAndType 13 14), (0, u "java/util/ArrayList"), (0, u "elementData"), (0, u "[Ljava/lang/Object;"), (2, u "EMPTY_ELEMENTDATA"), (21, .fieldref 10 40), (0, .nameAndType 41 14), (0, u "DEFAULTCAPACITY_EMPTY_ELEMENTDATA"), (5, u "()[Ljava/lang/Object;"), (0, .fieldref 10 49), (0, .nameAndType 50 51), (0, u "size"), (0, u "I"), (11, .fieldref 10 64), (0, .nameAndType 65 51), (0, u "modCount"), (3, .methodref 10 70), (0, .nameAndType 71 72), (0, u "grow"), (0, u "(I)[Ljava/lang/Object;"), (6, .methodref 80 81), (0, .class_ 82), (0, .nameAndType 83 84), (0, u "java/lang/Math"), (0, u "max"), (0, u "(II)I"), (11, u "(Ljava/lang/Object;)Z"), (21, .methodref 119 120), (0, .class_ 121), (0, .nameAndType 122 84), (0, u "java/util/Objects"), (0, u "checkIndex"), (0, .methodref 10 124), (0, .nameAndType 13 125), (0, u "(I)Ljava/lang/Object;"), (3, .methodref 10 130), (0, .nameAndType 71 47), (0, .methodref 10 132), (0, .nameAndType 133 134), (0, u "add"), (0, u "(Ljava/lang/Object;[Ljava/lang/Object;I)V"), (13, .class_ 149), (0, u "java/util/List"), (36, u "()I"), (75, .class_ 263), (0, u "java/util/ArrayList$ListItr"), (3, .class_ 268), (0, u "java/util/ArrayList$Itr"), (7, .class_ 277), (0, u "java/util/ArrayList$SubList"), (12, .class_ 291), (0, u "java/util/ArrayList$ArrayListSpliterator"), (37, .class_ 330), (0, u "java/util/RandomAccess"), (0, .class_ 332), (0, u "java/lang/Cloneable"), (0, .class_ 334), (0, u "java/io/Serializable"), (0, u "serialVersionUID"), (0, u "J"), (3, u "DEFAULT_CAPACITY"), (40, u "get"), (118, .class_ 501), (0, u "java/util/ArrayList$SubList$2"), (0, .class_ 503), (0, u "java/util/ArrayList$SubList$1")] 5

def k17c0 : Code := { maxStack := 2, maxLocals := 1, code := jdk_38_method_2_code, exceptionTable := #[], attributes := #[] }
def k17m0 : Method := { name := "<init>", desc := "()V", sig := { parameters := [], returnType := none }, accessFlags := 1, code := some k17c0 }
def k17c1 : Code := { maxStack := 4, maxLocals := 4, code := jdk_38_method_6_code, exceptionTable := #[], attributes := #[] }
def k17m1 : Method := { name := "grow", desc := "(I)[Ljava/lang/Object;", sig := { parameters := [.int], returnType := some (.array (.object "java/lang/Object")) }, accessFlags := 2, code := some k17c1 }
def k17c2 : Code := { maxStack := 3, maxLocals := 1, code := jdk_38_method_7_code, exceptionTable := #[], attributes := #[] }
def k17m2 : Method := { name := "grow", desc := "()[Ljava/lang/Object;", sig := { parameters := [], returnType := some (.array (.object "java/lang/Object")) }, accessFlags := 2, code := some k17c2 }
def k17c3 : Code := { maxStack := 1, maxLocals := 1, code := jdk_38_method_8_code, exceptionTable := #[], attributes := #[] }
def k17m3 : Method := { name := "size", desc := "()I", sig := { parameters := [], returnType := some .int }, accessFlags := 1, code := some k17c3 }
def k17c4 : Code := { maxStack := 2, maxLocals := 2, code := jdk_38_method_18_code, exceptionTable := #[], attributes := #[] }
def k17m4 : Method := { name := "elementData", desc := "(I)Ljava/lang/Object;", sig := { parameters := [.int], returnType := some (.object "java/lang/Object") }, accessFlags := 0, code := some k17c4 }
def k17c5 : Code := { maxStack := 2, maxLocals := 2, code := jdk_38_method_20_code, exceptionTable := #[], attributes := #[] }
def k17m5 : Method := { name := "get", desc := "(I)Ljava/lang/Object;", sig := { parameters := [.int], returnType := some (.object "java/lang/Object") }, accessFlags := 1, code := some k17c5 }
def k17c6 : Code := { maxStack := 3, maxLocals := 4, code := jdk_38_method_24_code, exceptionTable := #[], attributes := #[] }
def k17m6 : Method := { name := "add", desc := "(Ljava/lang/Object;[Ljava/lang/Object;I)V", sig := { parameters := [(.object "java/lang/Object"), (.array (.object "java/lang/Object")), .int], returnType := none }, accessFlags := 2, code := some k17c6 }
def k17c7 : Code := { maxStack := 4, maxLocals := 2, code := jdk_38_method_25_code, exceptionTable := #[], attributes := #[] }
def k17m7 : Method := { name := "add", desc := "(Ljava/lang/Object;)Z", sig := { parameters := [(.object "java/lang/Object")], returnType := some .boolean }, accessFlags := 1, code := some k17c7 }
/-- java/util/ArrayList -/
def k17 : Class := { plain "java/util/ArrayList" (some 14) with
  accessFlags := 33
  interfaces := #[13, 15, 16, 2]
  cf := some (fileOf pool17 10 #[.nestMembers #[290, 276, 500, 502, 262, 267]] #[{ accessFlags := 1, nameIndex := 5, descriptorIndex := 6, attributes := #[] }, { accessFlags := 2, nameIndex := 71, descriptorIndex := 72, attributes := #[] }, { accessFlags := 2, nameIndex := 71, descriptorIndex := 47, attributes := #[] }, { accessFlags := 1, nameIndex := 50, descriptorIndex := 186, attributes := #[] }, { accessFlags := 0, nameIndex := 13, descriptorIndex := 125, attributes := #[] }, { accessFlags := 1, nameIndex := 381, descriptorIndex := 125, attributes := #[] }, { accessFlags := 2, nameIndex := 133, descriptorIndex := 134, attributes := #[] }, { accessFlags := 1, nameIndex := 133, descriptorIndex := 96, attributes := #[] }] 33 2 #[148, 329, 331, 333] #[{ accessFlags := 26, nameIndex := 335, descriptorIndex := 336, attributes := #[] }, { accessFlags := 26, nameIndex := 340, descriptorIndex := 51, attributes := #[] }, { accessFlags := 26, nameIndex := 17, descriptorIndex := 14, attributes := #[] }, { accessFlags := 26, nameIndex := 41, descriptorIndex := 14, attributes := #[] }, { accessFlags := 128, nameIndex := 13, descriptorIndex := 14, attributes := #[] }, { accessFlags := 2, nameIndex := 50, descriptorIndex := 51, attributes := #[] }])
  fields := #[{ name := "serialVersionUID", type := .long, accessFlags := 26, slot := 0, constantValue := 0 }, { name := "DEFAULT_CAPACITY", type := .int, accessFlags := 26, slot := 1, constantValue := 0 }, { name := "EMPTY_ELEMENTDATA", type := (.array (.object "java/lang/Object")), accessFlags := 26, slot := 2, constantValue := 0 }, { name := "DEFAULTCAPACITY_EMPTY_ELEMENTDATA", type := (.array (.object "java/lang/Object")), accessFlags := 26, slot := 3, constantValue := 0 }, { name := "elementData", type := (.array (.object "java/lang/Object")), accessFlags := 128, slot := 1, constantValue := 0 }, { name := "size", type := .int, accessFlags := 2, slot := 2, constantValue := 0 }]
  methods := #[k17m0, k17m1, k17m2, k17m3, k17m4, k17m5, k17m6, k17m7]
  instanceTypes := #[.int, (.array (.object "java/lang/Object")), .int]
  staticTypes := #[.long, .int, (.array (.object "java/lang/Object")), (.array (.object "java/lang/Object"))]
  resolved := Array.replicate 509 none
  mirror := some 3
  statics := some 1 }

def pool18 : Array CpInfo := pool [(2, .class_ 4), (1, u "java/lang/Object"), (0, u "<init>"), (0, u "()V"), (1, .class_ 10), (1, u "java/util/List"), (2, .class_ 14), (0, u "java/util/RandomAccess"), (4, .class_ 20), (0, u "java/util/Collections"), (63, u "r"), (0, u "Ljava/util/Random;"), (67, u "(Ljava/util/List;)V"), (9, .nameAndType 164 165), (0, u "getClass"), (0, u "()Ljava/lang/Class;"), (0, .class_ 167), (0, u "java/util/Collections$UnmodifiableCollection"), (6, .class_ 175), (0, u "java/util/Collections$UnmodifiableSequencedCollection"), (6, .class_ 183), (0, u "java/util/Collections$UnmodifiableSet"), (6, .class_ 191), (0, u "java/util/Collections$UnmodifiableSequencedSet"), (6, .class_ 199), (0, u "java/util/Collections$UnmodifiableSortedSet"), (6, .class_ 207), (0, u "java/util/Collections$UnmodifiableNavigableSet"), (3, .interfaceMethodref 8 163), (0, .class_ 213), (0, u "java/util/Collections$UnmodifiableList"), (0, .interfaceMethodref 8 163), (0, .class_ 216), (0, u "java/util/Collections$UnmodifiableRandomAccessList"), (0, .methodref 215 218), (0, .nameAndType 5 153), (4, .class_ 224), (0, u "java/util/Collections$UnmodifiableMap"), (6, .class_ 232), (0, u "java/util/Collections$UnmodifiableSequencedMap"), (4, .class_ 238), (0, u "java/util/Collections$UnmodifiableSortedMap"), (6, .class_ 246), (0, u "java/util/Collections$UnmodifiableNavigableMap"), (3, .class_ 251), (0, u "java/util/Collections$SynchronizedCollection"), (4, .class_ 257), (0, u "java/util/Collections$SynchronizedSet"), (4, .class_ 263), (0, u "java/util/Collections$SynchronizedSortedSet"), (1, .class_ 266), (0, u "java/util/Collections$SynchronizedNavigableSet"), (1, .class_ 269), (0, u "java/util/Collections$SynchronizedRandomAccessList"), (1, .class_ 272), (0, u "java/util/Collections$SynchronizedList"), (5, .class_ 279), (0, u "java/util/Collections$SynchronizedMap"), (1, .class_ 282), (0, u "java/util/Collections$SynchronizedSortedMap"), (1, .class_ 285), (0, u "java/util/Collections$SynchronizedNavigableMap"), (1, .class_ 288), (0, u "java/util/Collections$CheckedCollection"), (11, .class_ 301), (0, u "java/util/Collections$CheckedQueue"), (3, .class_ 306), (0, u "java/util/Collections$CheckedSet"), (3, .class_ 311), (0, u "java/util/Collections$CheckedSortedSet"), (3, .class_ 316), (0, u "java/util/Collections$CheckedNavigableSet"), (3, .class_ 321), (0, u "java/util/Collections$CheckedRandomAccessList"), (3, .class_ 326), (0, u "java/util/Collections$CheckedList"), (1, .class_ 329), (0, u "java/util/Collections$CheckedMap"), (3, .class_ 334), (0, u "java/util/Collections$CheckedSortedMap"), (3, .class_ 339), (0, u "java/util/Collections$CheckedNavigableMap"), (4, .class_ 346), (1, u "java/util/Collections$EmptyIterator"), (3, .class_ 352), (1, u "java/util/Collections$EmptyListIterator"), (2, .class_ 357), (1, u "java/util/Collections$EmptyEnumeration"), (4, u "EMPTY_SET"), (0, u "Ljava/util/Set;"), (6, u "EMPTY_LIST"), (0, u "Ljava/util/List;"), (2, u "EMPTY_MAP"), (0, u "Ljava/util/Map;"), (4, .class_ 381), (0, u "java/util/Collections$SingletonSet"), (2, .class_ 385), (0, u "java/util/Collections$1"), (1, .class_ 388), (0, u "java/util/Collections$2"), (1, .class_ 391), (0, u "java/util/Collections$SingletonList"), (1, .class_ 394), (0, u "java/util/Collections$SingletonMap"), (22, .class_ 418), (0, u "java/util/Collections$CopiesList"), (4, .class_ 425), (1, u "java/util/Collections$ReverseComparator"), (8, .class_ 435), (0, u "java/util/Collections$ReverseComparator2"), (6, .class_ 443), (0, u "java/util/Collections$3"), (25, .class_ 470), (0, u "java/util/Collections$SetFromMap"), (2, .class_ 474), (0, u "java/util/Collections$SequencedSetFromMap"), (3, .class_ 479), (0, u "java/util/Collections$AsLIFOQueue"), (11, .class_ 492), (0, u "java/util/Collections$EmptySet"), (1, .class_ 495), (0, u "java/util/Collections$EmptyList"), (1, .class_ 498), (0, u "java/util/Collections$EmptyMap"), (1, u "BINARYSEARCH_THRESHOLD"), (0, u "I"), (2, u "REVERSE_THRESHOLD"), (1, u "SHUFFLE_THRESHOLD"), (1, u "FILL_THRESHOLD"), (1, u "ROTATE_THRESHOLD"), (1, u "COPY_THRESHOLD"), (1, u "REPLACEALL_THRESHOLD"), (1, u "INDEXOFSUBLIST_THRESHOLD"), (129, u "unmodifiableList"), (0, u "(Ljava/util/List;)Ljava/util/List;"), (202, .class_ 851), (0, u "java/util/Collections$CheckedMap$CheckedEntrySet"), (0, .class_ 853), (0, u "java/util/Collections$CheckedMap$CheckedEntrySet$CheckedEntry"), (0, .class_ 855), (0, u "java/util/Collections$CheckedMap$CheckedEntrySet$1"), (0, .class_ 857), (0, u "java/util/Collections$CheckedList$1"), (0, .class_ 859), (0, u "java/util/Collections$CheckedCollection$1"), (0, .class_ 861), (0, u "java/util/Collections$UnmodifiableNavigableMap$EmptyNavigableMap"), (0, .class_ 863), (0, u "java/util/Collections$UnmodifiableMap$UnmodifiableEntrySet"), (0, .class_ 865), (0, u "java/util/Collections$UnmodifiableMap$UnmodifiableEntrySet$UnmodifiableEntry"), (0, .class_ 867), (0, u "java/util/Collections$UnmodifiableMap$UnmodifiableEntrySet$UnmodifiableEntrySetSpliterator"), (0, .class_ 869), (0, u "java/util/Collections$UnmodifiableMap$UnmodifiableEntrySet$1"), (0, .class_ 871), (0, u "java/util/Collections$UnmodifiableList$1"), (0, .class_ 873), (0, u "java/util/Collections$UnmodifiableNavigableSet$EmptyNavigableSet"), (0, .class_ 875), (0, u "java/util/Collections$UnmodifiableCollection$1")] 57

def k18m0 : Method := { name := "<init>", desc := "()V", sig := { parameters := [], returnType := none }, accessFlags := 2, code := none }
def k18c1 : Code := { maxStack := 3, maxLocals := 1, code := jdk_79_method_35_code, exceptionTable := #[], attributes := #[] }
def k18m1 : Method := { name := "unmodifiableList", desc := "(Ljava/util/List;)Ljava/util/List;", sig := { parameters := [(.object "java/util/List")], returnType := some (.object "java/util/List") }, accessFlags := 9, code := some k18c1 }
/-- java/util/Collections -/
def k18 : Class := { plain "java/util/Collections" (some 0) with
  accessFlags := 33
  interfaces := #[]
  cf := some (fileOf pool18 19 #[.nestMembers #[478, 473, 469, 434, 423, 417, 393, 390, 380, 497, 494, 491, 355, 350, 344, 338, 333, 328, 850, 852, 854, 320, 325, 856, 315, 310, 305, 300, 287, 858, 284, 281, 278, 268, 271, 265, 262, 256, 250, 245, 860, 237, 231, 223, 862, 864, 866, 868, 215, 212, 870, 206, 872, 198, 190, 182, 174, 166, 874, 442, 387, 384]] #[{ accessFlags := 2, nameIndex := 5, descriptorIndex := 6, attributes := #[] }, { accessFlags := 9, nameIndex := 646, descriptorIndex := 647, attributes := #[] }] 33 2 #[] #[{ accessFlags := 26, nameIndex := 500, descriptorIndex := 501, attributes := #[] }, { accessFlags := 26, nameIndex := 504, descriptorIndex := 501, attributes := #[] }, { accessFlags := 26, nameIndex := 506, descriptorIndex := 501, attributes := #[] }, { accessFlags := 26, nameIndex := 508, descriptorIndex := 501, attributes := #[] }, { accessFlags := 26, nameIndex := 510, descriptorIndex := 501, attributes := #[] }, { accessFlags := 26, nameIndex := 512, descriptorIndex := 501, attributes := #[] }, { accessFlags := 26, nameIndex := 514, descriptorIndex := 501, attributes := #[] }, { accessFlags := 26, nameIndex := 516, descriptorIndex := 501, attributes := #[] }, { accessFlags := 10, nameIndex := 84, descriptorIndex := 85, attributes := #[] }, { accessFlags := 25, nameIndex := 362, descriptorIndex := 363, attributes := #[] }, { accessFlags := 25, nameIndex := 370, descriptorIndex := 371, attributes := #[] }, { accessFlags := 25, nameIndex := 374, descriptorIndex := 375, attributes := #[] }])
  fields := #[{ name := "BINARYSEARCH_THRESHOLD", type := .int, accessFlags := 26, slot := 0, constantValue := 0 }, { name := "REVERSE_THRESHOLD", type := .int, accessFlags := 26, slot := 1, constantValue := 0 }, { name := "SHUFFLE_THRESHOLD", type := .int, accessFlags := 26, slot := 2, constantValue := 0 }, { name := "FILL_THRESHOLD", type := .int, accessFlags := 26, slot := 3, constantValue := 0 }, { name := "ROTATE_THRESHOLD", type := .int, accessFlags := 26, slot := 4, constantValue := 0 }, { name := "COPY_THRESHOLD", type := .int, accessFlags := 26, slot := 5, constantValue := 0 }, { name := "REPLACEALL_THRESHOLD", type := .int, accessFlags := 26, slot := 6, constantValue := 0 }, { name := "INDEXOFSUBLIST_THRESHOLD", type := .int, accessFlags := 26, slot := 7, constantValue := 0 }, { name := "r", type := (.object "java/util/Random"), accessFlags := 10, slot := 8, constantValue := 0 }, { name := "EMPTY_SET", type := (.object "java/util/Set"), accessFlags := 25, slot := 9, constantValue := 0 }, { name := "EMPTY_LIST", type := (.object "java/util/List"), accessFlags := 25, slot := 10, constantValue := 0 }, { name := "EMPTY_MAP", type := (.object "java/util/Map"), accessFlags := 25, slot := 11, constantValue := 0 }]
  methods := #[k18m0, k18m1]
  instanceTypes := #[]
  staticTypes := #[.int, .int, .int, .int, .int, .int, .int, .int, (.object "java/util/Random"), (.object "java/util/Set"), (.object "java/util/List"), (.object "java/util/Map")]
  resolved := Array.replicate 933 none
  statics := none }

def pool19 : Array CpInfo := pool [(1, .methodref 2 3), (0, .class_ 4), (0, .nameAndType 5 6), (0, u "java/lang/Object"), (0, u "<init>"), (0, u "()V"), (3, .fieldref 11 12), (0, .class_ 13), (0, .nameAndType 14 15), (0, u "java/util/Collections$UnmodifiableCollection"), (0, u "c"), (0, u "Ljava/util/Collection;"), (0, .interfaceMethodref 17 18), (0, .class_ 19), (0, .nameAndType 20 21), (0, u "java/util/Collection"), (0, u "size"), (0, u "()I"), (49, .class_ 72), (0, u "java/io/Serializable"), (0, u "serialVersionUID"), (0, u "J"), (5, u "(Ljava/util/Collection;)V"), (51, .class_ 133), (0, u "java/util/Collections")] 2

def k19c0 : Code := { maxStack := 2, maxLocals := 2, code := jdk_119_method_1_code, exceptionTable := #[], attributes := #[] }
def k19m0 : Method := { name := "<init>", desc := "(Ljava/util/Collection;)V", sig := { parameters := [(.object "java/util/Collection")], returnType := none }, accessFlags := 0, code := some k19c0 }
def k19c1 : Code := { maxStack := 1, maxLocals := 1, code := jdk_119_method_2_code, exceptionTable := #[], attributes := #[] }
def k19m1 : Method := { name := "size", desc := "()I", sig := { parameters := [], returnType := some .int }, accessFlags := 1, code := some k19c1 }
/-- java/util/Collections$UnmodifiableCollection -/
def k19 : Class := { plain "java/util/Collections$UnmodifiableCollection" (some 0) with
  accessFlags := 32
  interfaces := #[10, 2]
  cf := some (fileOf pool19 11 #[.nestHost 132] #[{ accessFlags := 0, nameIndex := 5, descriptorIndex := 80, attributes := #[] }, { accessFlags := 1, nameIndex := 20, descriptorIndex := 21, attributes := #[] }] 32 2 #[17, 71] #[{ accessFlags := 26, nameIndex := 73, descriptorIndex := 74, attributes := #[] }, { accessFlags := 16, nameIndex := 14, descriptorIndex := 15, attributes := #[] }])
  fields := #[{ name := "serialVersionUID", type := .long, accessFlags := 26, slot := 0, constantValue := 0 }, { name := "c", type := (.object "java/util/Collection"), accessFlags := 16, slot := 0, constantValue := 0 }]
  methods := #[k19m0, k19m1]
  instanceTypes := #[(.object "java/util/Collection")]
  staticTypes := #[.long]
  resolved := Array.replicate 136 none
  statics := none }

def pool20 : Array CpInfo := pool [(1, .methodref 2 3), (0, .class_ 4), (0, .nameAndType 5 6), (0, u "java/util/Collections$UnmodifiableCollection"), (0, u "<init>"), (0, u "(Ljava/util/Collection;)V"), (0, .fieldref 8 9), (0, .class_ 10), (0, .nameAndType 11 12), (0, u "java/util/Collections$UnmodifiableList"), (0, u "list"), (0, u "Ljava/util/List;"), (1, .class_ 16), (1, u "java/util/List"), (6, .interfaceMethodref 14 24), (0, .nameAndType 25 26), (0, u "get"), (0, u "(I)Ljava/lang/Object;"), (27, u "(Ljava/util/List;)V"), (5, u "serialVersionUID"), (0, u "J"), (59, .class_ 122), (0, u "java/util/Collections")] 4

def k20c0 : Code := { maxStack := 2, maxLocals := 2, code := jdk_120_method_1_code, exceptionTable := #[], attributes := #[] }
def k20m0 : Method := { name := "<init>", desc := "(Ljava/util/List;)V", sig := { parameters := [(.object "java/util/List")], returnType := none }, accessFlags := 0, code := some k20c0 }
def k20c1 : Code := { maxStack := 2, maxLocals := 2, code := jdk_120_method_4_code, exceptionTable := #[], attributes := #[] }
def k20m1 : Method := { name := "get", desc := "(I)Ljava/lang/Object;", sig := { parameters := [.int], returnType := some (.object "java/lang/Object") }, accessFlags := 1, code := some k20c1 }
/-- java/util/Collections$UnmodifiableList -/
def k20 : Class := { plain "java/util/Collections$UnmodifiableList" (some 19) with
  accessFlags := 32
  interfaces := #[13]
  cf := some (fileOf pool20 8 #[.nestHost 121] #[{ accessFlags := 0, nameIndex := 5, descriptorIndex := 54, attributes := #[] }, { accessFlags := 1, nameIndex := 25, descriptorIndex := 26, attributes := #[] }] 32 2 #[14] #[{ accessFlags := 26, nameIndex := 60, descriptorIndex := 61, attributes := #[] }, { accessFlags := 16, nameIndex := 11, descriptorIndex := 12, attributes := #[] }])
  fields := #[{ name := "serialVersionUID", type := .long, accessFlags := 26, slot := 0, constantValue := 0 }, { name := "list", type := (.object "java/util/List"), accessFlags := 16, slot := 1, constantValue := 0 }]
  methods := #[k20m0, k20m1]
  instanceTypes := #[(.object "java/util/Collection"), (.object "java/util/List")]
  staticTypes := #[.long]
  resolved := Array.replicate 127 none
  mirror := some 4
  statics := none }

def pool21 : Array CpInfo := pool [(1, .methodref 2 3), (0, .class_ 4), (0, .nameAndType 5 6), (0, u "java/util/Collections$UnmodifiableList"), (0, u "<init>"), (0, u "(Ljava/util/List;)V"), (0, .class_ 8), (0, u "java/util/Collections$UnmodifiableRandomAccessList"), (11, .class_ 21), (0, u "java/util/RandomAccess"), (0, u "serialVersionUID"), (0, u "J"), (23, .class_ 48), (0, u "java/util/Collections")] 3

def k21c0 : Code := { maxStack := 2, maxLocals := 2, code := jdk_121_method_1_code, exceptionTable := #[], attributes := #[] }
def k21m0 : Method := { name := "<init>", desc := "(Ljava/util/List;)V", sig := { parameters := [(.object "java/util/List")], returnType := none }, accessFlags := 0, code := some k21c0 }
/-- java/util/Collections$UnmodifiableRandomAccessList -/
def k21 : Class := { plain "java/util/Collections$UnmodifiableRandomAccessList" (some 20) with
  accessFlags := 32
  interfaces := #[15]
  cf := some (fileOf pool21 7 #[.nestHost 47] #[{ accessFlags := 0, nameIndex := 5, descriptorIndex := 6, attributes := #[] }] 32 2 #[20] #[{ accessFlags := 26, nameIndex := 22, descriptorIndex := 23, attributes := #[] }])
  fields := #[{ name := "serialVersionUID", type := .long, accessFlags := 26, slot := 0, constantValue := 0 }]
  methods := #[k21m0]
  instanceTypes := #[(.object "java/util/Collection"), (.object "java/util/List")]
  staticTypes := #[.long]
  resolved := Array.replicate 52 none
  mirror := some 5
  statics := none }

def pool22 : Array CpInfo := pool [(1, .class_ 2), (0, u "java/lang/Appendable"), (0, .class_ 4), (0, u "java/lang/Object")] 9

/-- java/lang/Appendable -/
def k22 : Class := { plain "java/lang/Appendable" (some 0) with
  accessFlags := 1537
  interfaces := #[]
  cf := some (fileOf pool22 1 #[] #[] 1537 3 #[] #[])
  fields := #[]
  methods := #[]
  instanceTypes := #[]
  staticTypes := #[]
  resolved := Array.replicate 14 none
  statics := none }

def pool23 : Array CpInfo := pool [(1, .class_ 2), (0, u "java/lang/String"), (0, .methodref 4 5), (0, .class_ 6), (0, .nameAndType 7 8), (0, u "java/lang/Object"), (0, u "<init>"), (0, u "()V"), (1, .class_ 12), (1, u "java/lang/AbstractStringBuilder"), (0, u "EMPTYVALUE"), (0, u "[B"), (0, .fieldref 10 16), (0, .nameAndType 17 14), (0, u "value"), (0, .fieldref 1 19), (0, .nameAndType 20 21), (0, u "COMPACT_STRINGS"), (0, u "Z"), (0, .fieldref 10 23), (0, .nameAndType 24 25), (0, u "coder"), (0, u "B"), (6, .methodref 1 33), (0, .nameAndType 34 35), (0, u "length"), (0, u "()I"), (4, .methodref 1 41), (0, .nameAndType 24 42), (0, u "()B"), (2, u "append"), (0, u "(Ljava/lang/String;)Ljava/lang/AbstractStringBuilder;"), (1, .class_ 49), (0, u "java/lang/CharSequence"), (19, u "(Ljava/lang/String;)V"), (5, u "maybeLatin1"), (3, .fieldref 10 80), (0, .nameAndType 81 82), (0, u "count"), (0, u "I"), (2, u "isLatin1"), (0, u "()Z"), (13, .methodref 10 101), (0, .nameAndType 102 103), (0, u "ensureCapacityInternal"), (0, u "(I)V"), (104, .methodref 10 209), (0, .nameAndType 210 211), (0, u "putStringAt"), (0, u "(ILjava/lang/String;)V"), (5, u "inflateIfNeededFor"), (2, .nameAndType 221 222), (0, u "getBytes"), (0, u "([BIB)V"), (174, .methodref 10 398), (0, .nameAndType 217 69), (0, .methodref 1 220), (3, u "()[B"), (40, .class_ 445), (0, u "java/lang/Appendable"), (106, u "getValue")] 56

def k23m0 : Method := { name := "<init>", desc := "()V", sig := { parameters := [], returnType := none }, accessFlags := 0, code := none }
def k23c1 : Code := { maxStack := 2, maxLocals := 2, code := jdk_68_method_2_code, exceptionTable := #[], attributes := #[] }
def k23m1 : Method := { name := "<init>", desc := "(I)V", sig := { parameters := [.int], returnType := none }, accessFlags := 0, code := some k23c1 }
def k23c2 : Code := { maxStack := 1, maxLocals := 1, code := jdk_68_method_6_code, exceptionTable := #[], attributes := #[] }
def k23m2 : Method := { name := "length", desc := "()I", sig := { parameters := [], returnType := some .int }, accessFlags := 1, code := some k23c2 }
def k23c3 : Code := { maxStack := 4, maxLocals := 3, code := jdk_68_method_9_code, exceptionTable := #[], attributes := #[] }
def k23m3 : Method := { name := "ensureCapacityInternal", desc := "(I)V", sig := { parameters := [.int], returnType := none }, accessFlags := 2, code := some k23c3 }
def k23c4 : Code := { maxStack := 3, maxLocals := 3, code := jdk_68_method_22_code, exceptionTable := #[], attributes := #[] }
def k23m4 : Method := { name := "append", desc := "(Ljava/lang/String;)Ljava/lang/AbstractStringBuilder;", sig := { parameters := [(.object "java/lang/String")], returnType := some (.object "java/lang/AbstractStringBuilder") }, accessFlags := 1, code := some k23c4 }
def k23c5 : Code := { maxStack := 1, maxLocals := 1, code := jdk_68_method_64_code, exceptionTable := #[], attributes := #[] }
def k23m5 : Method := { name := "getValue", desc := "()[B", sig := { parameters := [], returnType := some (.array .byte) }, accessFlags := 16, code := some k23c5 }
def k23c6 : Code := { maxStack := 1, maxLocals := 1, code := jdk_68_method_68_code, exceptionTable := #[], attributes := #[] }
def k23m6 : Method := { name := "isLatin1", desc := "()Z", sig := { parameters := [], returnType := some .boolean }, accessFlags := 16, code := some k23c6 }
def k23c7 : Code := { maxStack := 2, maxLocals := 2, code := jdk_68_method_71_code, exceptionTable := #[], attributes := #[] }
def k23m7 : Method := { name := "inflateIfNeededFor", desc := "(Ljava/lang/String;)V", sig := { parameters := [(.object "java/lang/String")], returnType := none }, accessFlags := 2, code := some k23c7 }
def k23c8 : Code := { maxStack := 4, maxLocals := 3, code := jdk_68_method_73_code, exceptionTable := #[], attributes := #[] }
def k23m8 : Method := { name := "putStringAt", desc := "(ILjava/lang/String;)V", sig := { parameters := [.int, (.object "java/lang/String")], returnType := none }, accessFlags := 2, code := some k23c8 }
/-- java/lang/AbstractStringBuilder -/
def k23 : Class := { plain "java/lang/AbstractStringBuilder" (some 0) with
  accessFlags := 1056
  interfaces := #[22, 4]
  cf := some (fileOf pool23 10 #[] #[{ accessFlags := 0, nameIndex := 7, descriptorIndex := 8, attributes := #[] }, { accessFlags := 0, nameIndex := 7, descriptorIndex := 103, attributes := #[] }, { accessFlags := 1, nameIndex := 34, descriptorIndex := 35, attributes := #[] }, { accessFlags := 2, nameIndex := 102, descriptorIndex := 103, attributes := #[] }, { accessFlags := 1, nameIndex := 45, descriptorIndex := 46, attributes := #[] }, { accessFlags := 16, nameIndex := 552, descriptorIndex := 403, attributes := #[] }, { accessFlags := 16, nameIndex := 85, descriptorIndex := 86, attributes := #[] }, { accessFlags := 2, nameIndex := 217, descriptorIndex := 69, attributes := #[] }, { accessFlags := 2, nameIndex := 210, descriptorIndex := 211, attributes := #[] }] 1056 4 #[444, 48] #[{ accessFlags := 0, nameIndex := 17, descriptorIndex := 14, attributes := #[] }, { accessFlags := 0, nameIndex := 24, descriptorIndex := 25, attributes := #[] }, { accessFlags := 0, nameIndex := 75, descriptorIndex := 21, attributes := #[] }, { accessFlags := 0, nameIndex := 81, descriptorIndex := 82, attributes := #[] }, { accessFlags := 26, nameIndex := 13, descriptorIndex := 14, attributes := #[] }])
  fields := #[{ name := "value", type := (.array .byte), accessFlags := 0, slot := 0, constantValue := 0 }, { name := "coder", type := .byte, accessFlags := 0, slot := 1, constantValue := 0 }, { name := "maybeLatin1", type := .boolean, accessFlags := 0, slot := 2, constantValue := 0 }, { name := "count", type := .int, accessFlags := 0, slot := 3, constantValue := 0 }, { name := "EMPTYVALUE", type := (.array .byte), accessFlags := 26, slot := 0, constantValue := 0 }]
  methods := #[k23m0, k23m1, k23m2, k23m3, k23m4, k23m5, k23m6, k23m7, k23m8]
  instanceTypes := #[(.array .byte), .byte, .boolean, .int]
  staticTypes := #[(.array .byte)]
  resolved := Array.replicate 609 none
  statics := none }

def pool24 : Array CpInfo := pool [(1, .methodref 2 3), (0, .class_ 4), (0, .nameAndType 5 6), (0, u "java/lang/AbstractStringBuilder"), (0, u "<init>"), (0, u "(I)V"), (11, .class_ 20), (1, u "java/lang/String"), (3, .class_ 26), (1, u "java/lang/StringBuilder"), (0, u "append"), (0, u "(Ljava/lang/String;)Ljava/lang/StringBuilder;"), (0, .methodref 2 30), (0, .nameAndType 27 31), (0, u "(Ljava/lang/String;)Ljava/lang/AbstractStringBuilder;"), (105, .methodref 18 138), (0, .nameAndType 5 139), (0, u "(Ljava/lang/StringBuilder;)V"), (5, u "()V"), (10, u "()I"), (186, .methodref 2 344), (0, .nameAndType 345 156), (0, u "length"), (3, .class_ 350), (0, u "java/lang/Appendable"), (0, .class_ 352), (0, u "java/io/Serializable"), (0, .class_ 354), (0, u "java/lang/Comparable"), (0, .class_ 356), (0, u "java/lang/CharSequence"), (0, u "serialVersionUID"), (0, u "J"), (40, u "toString"), (0, u "()Ljava/lang/String;")] 21

def k24c0 : Code := { maxStack := 2, maxLocals := 1, code := jdk_67_method_1_code, exceptionTable := #[], attributes := #[] }
def k24m0 : Method := { name := "<init>", desc := "()V", sig := { parameters := [], returnType := none }, accessFlags := 1, code := some k24c0 }
def k24c1 : Code := { maxStack := 2, maxLocals := 2, code := jdk_67_method_7_code, exceptionTable := #[], attributes := #[] }
def k24m1 : Method := { name := "append", desc := "(Ljava/lang/String;)Ljava/lang/StringBuilder;", sig := { parameters := [(.object "java/lang/String")], returnType := some (.object "java/lang/StringBuilder") }, accessFlags := 1, code := some k24c1 }
def k24c2 : Code := { maxStack := 3, maxLocals := 1, code := jdk_67_method_42_code, exceptionTable := #[], attributes := #[] }
def k24m2 : Method := { name := "toString", desc := "()Ljava/lang/String;", sig := { parameters := [], returnType := some (.object "java/lang/String") }, accessFlags := 1, code := some k24c2 }
def k24c3 : Code := { maxStack := 1, maxLocals := 1, code := jdk_67_method_93_code, exceptionTable := #[], attributes := #[] }
def k24m3 : Method := { name := "length", desc := "()I", sig := { parameters := [], returnType := some .int }, accessFlags := 4161, code := some k24c3 }
/-- java/lang/StringBuilder -/
def k24 : Class := { plain "java/lang/StringBuilder" (some 23) with
  accessFlags := 49
  interfaces := #[22, 2, 3, 4]
  cf := some (fileOf pool24 24 #[] #[{ accessFlags := 1, nameIndex := 5, descriptorIndex := 145, attributes := #[] }, { accessFlags := 1, nameIndex := 27, descriptorIndex := 28, attributes := #[] }, { accessFlags := 1, nameIndex := 399, descriptorIndex := 400, attributes := #[] }, { accessFlags := 4161, nameIndex := 345, descriptorIndex := 156, attributes := #[] }] 49 2 #[349, 351, 353, 355] #[{ accessFlags := 24, nameIndex := 357, descriptorIndex := 358, attributes := #[] }])
  fields := #[{ name := "serialVersionUID", type := .long, accessFlags := 24, slot := 0, constantValue := 0 }]
  methods := #[k24m0, k24m1, k24m2, k24m3]
  instanceTypes := #[(.array .byte), .byte, .boolean, .int]
  staticTypes := #[.long]
  resolved := Array.replicate 422 none
  statics := none }

def pool25 : Array CpInfo := pool [(2, .class_ 4), (1, u "java/lang/Object"), (0, u "<init>"), (0, u "()V"), (1, .class_ 10), (1, u "java/lang/System"), (0, u "allowSecurityManager"), (0, u "I"), (16, u "cons"), (0, u "Ljava/io/Console;"), (77, .class_ 110), (1, u "java/lang/System$CallersHolder"), (43, u "initialErrStream"), (0, u "Ljava/io/PrintStream;"), (19, u "security"), (0, u "Ljava/lang/SecurityManager;"), (31, .class_ 209), (0, u "java/lang/System$1"), (7, u "props"), (0, u "Ljava/util/Properties;"), (2, u "lineSeparator"), (0, u "Ljava/lang/String;"), (96, .class_ 321), (1, u "java/lang/System$LoggerFinder"), (5, .class_ 328), (0, u "java/lang/System$Logger"), (67, u "err"), (2, u "out"), (91, u "notSupportedJnuEncoding"), (15, u "in"), (17, u "initialIn"), (0, u "Ljava/io/InputStream;"), (35, u "bootLayer"), (0, u "Ljava/lang/ModuleLayer;"), (99, .class_ 664), (0, u "java/lang/System$2"), (9, u "NEVER"), (2, u "MAYBE"), (49, u "arraycopy"), (0, u "(Ljava/lang/Object;ILjava/lang/Object;II)V"), (72, .class_ 802), (0, u "java/lang/System$Logger$Level")] 31

def k25m0 : Method := { name := "<init>", desc := "()V", sig := { parameters := [], returnType := none }, accessFlags := 2, code := none }
def k25m1 : Method := { name := "arraycopy", desc := "(Ljava/lang/Object;ILjava/lang/Object;II)V", sig := { parameters := [(.object "java/lang/Object"), .int, (.object "java/lang/Object"), .int, .int], returnType := none }, accessFlags := 265, code := none }
/-- java/lang/System -/
def k25 : Class := { plain "java/lang/System" (some 0) with
  accessFlags := 49
  interfaces := #[]
  cf := some (fileOf pool25 8 #[.nestMembers #[319, 327, 801, 108, 663, 208]] #[{ accessFlags := 2, nameIndex := 5, descriptorIndex := 6, attributes := #[] }, { accessFlags := 265, nameIndex := 727, descriptorIndex := 728, attributes := #[] }] 49 2 #[] #[{ accessFlags := 25, nameIndex := 507, descriptorIndex := 526, attributes := #[] }, { accessFlags := 25, nameIndex := 399, descriptorIndex := 155, attributes := #[] }, { accessFlags := 25, nameIndex := 396, descriptorIndex := 155, attributes := #[] }, { accessFlags := 10, nameIndex := 525, descriptorIndex := 526, attributes := #[] }, { accessFlags := 26, nameIndex := 674, descriptorIndex := 12, attributes := #[] }, { accessFlags := 26, nameIndex := 677, descriptorIndex := 12, attributes := #[] }, { accessFlags := 10, nameIndex := 11, descriptorIndex := 12, attributes := #[] }, { accessFlags := 74, nameIndex := 175, descriptorIndex := 176, attributes := #[] }, { accessFlags := 10, nameIndex := 491, descriptorIndex := 222, attributes := #[] }, { accessFlags := 74, nameIndex := 29, descriptorIndex := 30, attributes := #[] }, { accessFlags := 74, nameIndex := 154, descriptorIndex := 155, attributes := #[] }, { accessFlags := 10, nameIndex := 217, descriptorIndex := 218, attributes := #[] }, { accessFlags := 10, nameIndex := 221, descriptorIndex := 222, attributes := #[] }, { accessFlags := 8, nameIndex := 562, descriptorIndex := 563, attributes := #[] }])
  fields := #[{ name := "in", type := (.object "java/io/InputStream"), accessFlags := 25, slot := 0, constantValue := 0 }, { name := "out", type := (.object "java/io/PrintStream"), accessFlags := 25, slot := 1, constantValue := 0 }, { name := "err", type := (.object "java/io/PrintStream"), accessFlags := 25, slot := 2, constantValue := 0 }, { name := "initialIn", type := (.object "java/io/InputStream"), accessFlags := 10, slot := 3, constantValue := 0 }, { name := "NEVER", type := .int, accessFlags := 26, slot := 4, constantValue := 0 }, { name := "MAYBE", type := .int, accessFlags := 26, slot := 5, constantValue := 0 }, { name := "allowSecurityManager", type := .int, accessFlags := 10, slot := 6, constantValue := 0 }, { name := "security", type := (.object "java/lang/SecurityManager"), accessFlags := 74, slot := 7, constantValue := 0 }, { name := "notSupportedJnuEncoding", type := (.object "java/lang/String"), accessFlags := 10, slot := 8, constantValue := 0 }, { name := "cons", type := (.object "java/io/Console"), accessFlags := 74, slot := 9, constantValue := 0 }, { name := "initialErrStream", type := (.object "java/io/PrintStream"), accessFlags := 74, slot := 10, constantValue := 0 }, { name := "props", type := (.object "java/util/Properties"), accessFlags := 10, slot := 11, constantValue := 0 }, { name := "lineSeparator", type := (.object "java/lang/String"), accessFlags := 10, slot := 12, constantValue := 0 }, { name := "bootLayer", type := (.object "java/lang/ModuleLayer"), accessFlags := 8, slot := 13, constantValue := 0 }]
  methods := #[k25m0, k25m1]
  instanceTypes := #[]
  staticTypes := #[(.object "java/io/InputStream"), (.object "java/io/PrintStream"), (.object "java/io/PrintStream"), (.object "java/io/InputStream"), .int, .int, .int, (.object "java/lang/SecurityManager"), (.object "java/lang/String"), (.object "java/io/Console"), (.object "java/io/PrintStream"), (.object "java/util/Properties"), (.object "java/lang/String"), (.object "java/lang/ModuleLayer")]
  resolved := Array.replicate 834 none
  statics := none }

def pool26 : Array CpInfo := pool [(2, .class_ 4), (1, u "java/lang/Object"), (0, u "<init>"), (0, u "()V"), (7, .class_ 16), (1, u "java/util/Arrays"), (57, .class_ 76), (1, u "java/util/Arrays$NaturalOrder"), (36, .class_ 115), (1, u "java/util/Arrays$LegacyMergeSort"), (1, u "Z"), (21, u "copyOfRange"), (10, .methodref 151 152), (0, .class_ 153), (0, .nameAndType 154 155), (0, u "java/lang/System"), (0, u "arraycopy"), (0, u "(Ljava/lang/Object;ILjava/lang/Object;II)V"), (148, .methodref 305 306), (0, .class_ 307), (0, .nameAndType 308 309), (0, u "java/lang/Math"), (0, u "min"), (0, u "(II)I"), (29, .methodref 14 340), (0, .nameAndType 341 342), (0, u "copyOfRangeByte"), (0, u "([BII)[B"), (0, .methodref 14 344), (0, .nameAndType 345 346), (0, u "checkLength"), (0, u "(II)V"), (28, .class_ 376), (0, u "java/util/Arrays$ArrayList"), (68, u "$assertionsDisabled"), (269, u "MIN_ARRAY_SORT_GRAN"), (0, u "I"), (2, u "INSERTIONSORT_THRESHOLD"), (255, .class_ 976), (0, u "java/util/Arrays$ArrayItr")] 52

def k26m0 : Method := { name := "<init>", desc := "()V", sig := { parameters := [], returnType := none }, accessFlags := 2, code := none }
def k26c1 : Code := { maxStack := 4, maxLocals := 2, code := jdk_65_method_131_code, exceptionTable := #[], attributes := #[] }
def k26m1 : Method := { name := "checkLength", desc := "(II)V", sig := { parameters := [.int, .int], returnType := none }, accessFlags := 10, code := some k26c1 }
def k26c2 : Code := { maxStack := 3, maxLocals := 3, code := jdk_65_method_132_code, exceptionTable := #[], attributes := #[] }
def k26m2 : Method := { name := "copyOfRange", desc := "([BII)[B", sig := { parameters := [(.array .byte), .int, .int], returnType := some (.array .byte) }, accessFlags := 9, code := some k26c2 }
def k26c3 : Code := { maxStack := 6, maxLocals := 5, code := jdk_65_method_133_code, exceptionTable := #[], attributes := #[] }
def k26m3 : Method := { name := "copyOfRangeByte", desc := "([BII)[B", sig := { parameters := [(.array .byte), .int, .int], returnType := some (.array .byte) }, accessFlags := 10, code := some k26c3 }
/-- java/util/Arrays -/
def k26 : Class := { plain "java/util/Arrays" (some 0) with
  accessFlags := 49
  interfaces := #[]
  cf := some (fileOf pool26 14 #[.nestMembers #[975, 375, 113, 74]] #[{ accessFlags := 2, nameIndex := 5, descriptorIndex := 6, attributes := #[] }, { accessFlags := 10, nameIndex := 345, descriptorIndex := 346, attributes := #[] }, { accessFlags := 9, nameIndex := 139, descriptorIndex := 342, attributes := #[] }, { accessFlags := 10, nameIndex := 341, descriptorIndex := 342, attributes := #[] }] 49 2 #[] #[{ accessFlags := 26, nameIndex := 715, descriptorIndex := 716, attributes := #[] }, { accessFlags := 26, nameIndex := 719, descriptorIndex := 716, attributes := #[] }, { accessFlags := 4120, nameIndex := 445, descriptorIndex := 117, attributes := #[] }])
  fields := #[{ name := "MIN_ARRAY_SORT_GRAN", type := .int, accessFlags := 26, slot := 0, constantValue := 0 }, { name := "INSERTIONSORT_THRESHOLD", type := .int, accessFlags := 26, slot := 1, constantValue := 0 }, { name := "$assertionsDisabled", type := .boolean, accessFlags := 4120, slot := 2, constantValue := 0 }]
  methods := #[k26m0, k26m1, k26m2, k26m3]
  instanceTypes := #[]
  staticTypes := #[.int, .int, .boolean]
  resolved := Array.replicate 1029 none
  statics := none }

def pool27 : Array CpInfo := pool [(1, .class_ 2), (0, u "java/lang/Math"), (1, .class_ 6), (1, u "java/lang/Object"), (0, u "<init>"), (0, u "()V"), (89, .class_ 100), (1, u "java/lang/Math$RandomNumberGeneratorHolder"), (71, u "negativeZeroFloatBits"), (0, u "J"), (2, u "negativeZeroDoubleBits"), (21, u "max"), (2, u "min"), (43, u "$assertionsDisabled"), (0, u "Z"), (88, u "(II)I"), (2, u "twoToTheDoubleScaleDown"), (0, u "D"), (4, u "twoToTheDoubleScaleUp"), (9, u "E"), (3, u "PI"), (2, u "TAU"), (2, u "DEGREES_TO_RADIANS"), (0, u "RADIANS_TO_DEGREES")] 94

def k27m0 : Method := { name := "<init>", desc := "()V", sig := { parameters := [], returnType := none }, accessFlags := 2, code := none }
def k27c1 : Code := { maxStack := 2, maxLocals := 2, code := jdk_29_method_65_code, exceptionTable := #[], attributes := #[] }
def k27m1 : Method := { name := "max", desc := "(II)I", sig := { parameters := [.int, .int], returnType := some .int }, accessFlags := 9, code := some k27c1 }
def k27c2 : Code := { maxStack := 2, maxLocals := 2, code := jdk_29_method_69_code, exceptionTable := #[], attributes := #[] }
def k27m2 : Method := { name := "min", desc := "(II)I", sig := { parameters := [.int, .int], returnType := some .int }, accessFlags := 9, code := some k27c2 }
/-- java/lang/Math -/
def k27 : Class := { plain "java/lang/Math" (some 0) with
  accessFlags := 49
  interfaces := #[]
  cf := some (fileOf pool27 1 #[.nestMembers #[98]] #[{ accessFlags := 2, nameIndex := 7, descriptorIndex := 8, attributes := #[] }, { accessFlags := 9, nameIndex := 198, descriptorIndex := 335, attributes := #[] }, { accessFlags := 9, nameIndex := 201, descriptorIndex := 335, attributes := #[] }] 49 4 #[] #[{ accessFlags := 25, nameIndex := 354, descriptorIndex := 339, attributes := #[] }, { accessFlags := 25, nameIndex := 358, descriptorIndex := 339, attributes := #[] }, { accessFlags := 25, nameIndex := 361, descriptorIndex := 339, attributes := #[] }, { accessFlags := 26, nameIndex := 364, descriptorIndex := 339, attributes := #[] }, { accessFlags := 26, nameIndex := 365, descriptorIndex := 339, attributes := #[] }, { accessFlags := 26, nameIndex := 172, descriptorIndex := 173, attributes := #[] }, { accessFlags := 26, nameIndex := 176, descriptorIndex := 173, attributes := #[] }, { accessFlags := 8, nameIndex := 344, descriptorIndex := 339, attributes := #[] }, { accessFlags := 8, nameIndex := 338, descriptorIndex := 339, attributes := #[] }, { accessFlags := 4120, nameIndex := 245, descriptorIndex := 246, attributes := #[] }])
  fields := #[{ name := "E", type := .double, accessFlags := 25, slot := 0, constantValue := 0 }, { name := "PI", type := .double, accessFlags := 25, slot := 1, constantValue := 0 }, { name := "TAU", type := .double, accessFlags := 25, slot := 2, constantValue := 0 }, { name := "DEGREES_TO_RADIANS", type := .double, accessFlags := 26, slot := 3, constantValue := 0 }, { name := "RADIANS_TO_DEGREES", type := .double, accessFlags := 26, slot := 4, constantValue := 0 }, { name := "negativeZeroFloatBits", type := .long, accessFlags := 26, slot := 5, constantValue := 0 }, { name := "negativeZeroDoubleBits", type := .long, accessFlags := 26, slot := 6, constantValue := 0 }, { name := "twoToTheDoubleScaleUp", type := .double, accessFlags := 8, slot := 7, constantValue := 0 }, { name := "twoToTheDoubleScaleDown", type := .double, accessFlags := 8, slot := 8, constantValue := 0 }, { name := "$assertionsDisabled", type := .boolean, accessFlags := 4120, slot := 9, constantValue := 0 }]
  methods := #[k27m0, k27m1, k27m2]
  instanceTypes := #[]
  staticTypes := #[.double, .double, .double, .double, .double, .long, .long, .double, .double, .boolean]
  resolved := Array.replicate 460 none
  statics := none }

def pool28 : Array CpInfo := pool [(2, .class_ 4), (1, u "java/lang/Object"), (0, u "<init>"), (0, u "()V"), (35, .class_ 44), (1, u "java/util/Objects"), (60, .methodref 106 107), (0, .class_ 108), (0, .nameAndType 109 110), (0, u "jdk/internal/util/Preconditions"), (0, u "checkIndex"), (0, u "(IILjava/util/function/BiFunction;)I"), (60, u "(II)I")] 12

def k28m0 : Method := { name := "<init>", desc := "()V", sig := { parameters := [], returnType := none }, accessFlags := 2, code := none }
def k28c1 : Code := { maxStack := 3, maxLocals := 2, code := jdk_31_method_17_code, exceptionTable := #[], attributes := #[] }
def k28m1 : Method := { name := "checkIndex", desc := "(II)I", sig := { parameters := [.int, .int], returnType := some .int }, accessFlags := 9, code := some k28c1 }
/-- java/util/Objects -/
def k28 : Class := { plain "java/util/Objects" (some 0) with
  accessFlags := 49
  interfaces := #[]
  cf := some (fileOf pool28 42 #[] #[{ accessFlags := 2, nameIndex := 5, descriptorIndex := 6, attributes := #[] }, { accessFlags := 9, nameIndex := 109, descriptorIndex := 171, attributes := #[] }] 49 2 #[] #[])
  fields := #[]
  methods := #[k28m0, k28m1]
  instanceTypes := #[]
  staticTypes := #[]
  resolved := Array.replicate 184 none
  statics := none }

def pool29 : Array CpInfo := pool [(2, .class_ 4), (1, u "java/lang/Object"), (0, u "<init>"), (0, u "()V"), (17, .class_ 26), (1, u "jdk/internal/util/Preconditions"), (6, u "checkIndex"), (21, .class_ 56), (0, u "jdk/internal/util/Preconditions$4"), (57, .class_ 115), (0, u "jdk/internal/util/Preconditions$1"), (7, u "SIOOBE_FORMATTER"), (0, u "Ljava/util/function/BiFunction;"), (0, .class_ 126), (0, u "jdk/internal/util/Preconditions$2"), (3, u "AIOOBE_FORMATTER"), (0, .class_ 132), (0, u "jdk/internal/util/Preconditions$3"), (3, u "IOOBE_FORMATTER"), (41, u "(IILjava/util/function/BiFunction;)I")] 15

def k29m0 : Method := { name := "<init>", desc := "()V", sig := { parameters := [], returnType := none }, accessFlags := 1, code := none }
def k29c1 : Code := { maxStack := 3, maxLocals := 3, code := jdk_41_method_11_code, exceptionTable := #[], attributes := #[] }
def k29m1 : Method := { name := "checkIndex", desc := "(IILjava/util/function/BiFunction;)I", sig := { parameters := [.int, .int, (.object "java/util/function/BiFunction")], returnType := some .int }, accessFlags := 9, code := some k29c1 }
/-- jdk/internal/util/Preconditions -/
def k29 : Class := { plain "jdk/internal/util/Preconditions" (some 0) with
  accessFlags := 33
  interfaces := #[]
  cf := some (fileOf pool29 24 #[.nestMembers #[55, 131, 125, 114]] #[{ accessFlags := 1, nameIndex := 5, descriptorIndex := 6, attributes := #[] }, { accessFlags := 9, nameIndex := 33, descriptorIndex := 178, attributes := #[] }] 33 2 #[] #[{ accessFlags := 25, nameIndex := 123, descriptorIndex := 124, attributes := #[] }, { accessFlags := 25, nameIndex := 130, descriptorIndex := 124, attributes := #[] }, { accessFlags := 25, nameIndex := 136, descriptorIndex := 124, attributes := #[] }])
  fields := #[{ name := "SIOOBE_FORMATTER", type := (.object "java/util/function/BiFunction"), accessFlags := 25, slot := 0, constantValue := 0 }, { name := "AIOOBE_FORMATTER", type := (.object "java/util/function/BiFunction"), accessFlags := 25, slot := 1, constantValue := 0 }, { name := "IOOBE_FORMATTER", type := (.object "java/util/function/BiFunction"), accessFlags := 25, slot := 2, constantValue := 0 }]
  methods := #[k29m0, k29m1]
  instanceTypes := #[]
  staticTypes := #[(.object "java/util/function/BiFunction"), (.object "java/util/function/BiFunction"), (.object "java/util/function/BiFunction")]
  resolved := Array.replicate 194 none
  statics := some 2 }

def pool30 : Array CpInfo := pool [(1, .class_ 2), (0, u "java/lang/String"), (1, .class_ 6), (1, u "java/lang/Object"), (0, u "<init>"), (0, u "()V"), (0, .methodref 1 10), (0, .nameAndType 11 12), (0, u "checkIndex"), (0, u "(II)V"), (1, .class_ 16), (1, u "java/lang/StringLatin1"), (36, u "([BI)C"), (67, u "$assertionsDisabled"), (0, u "Z"), (98, .class_ 223), (1, u "java/lang/StringLatin1$LinesSpliterator"), (28, u "charAt"), (137, .class_ 391), (0, u "java/lang/StringLatin1$CharsSpliterator")] 3

def k30m0 : Method := { name := "<init>", desc := "()V", sig := { parameters := [], returnType := none }, accessFlags := 0, code := none }
def k30c1 : Code := { maxStack := 2, maxLocals := 2, code := jdk_43_method_2_code, exceptionTable := #[], attributes := #[] }
def k30m1 : Method := { name := "charAt", desc := "([BI)C", sig := { parameters := [(.array .byte), .int], returnType := some .char }, accessFlags := 9, code := some k30c1 }
/-- java/lang/StringLatin1 -/
def k30 : Class := { plain "java/lang/StringLatin1" (some 0) with
  accessFlags := 48
  interfaces := #[]
  cf := some (fileOf pool30 14 #[.nestMembers #[390, 221]] #[{ accessFlags := 0, nameIndex := 7, descriptorIndex := 8, attributes := #[] }, { accessFlags := 9, nameIndex := 252, descriptorIndex := 53, attributes := #[] }] 48 4 #[] #[{ accessFlags := 4120, nameIndex := 121, descriptorIndex := 122, attributes := #[] }])
  fields := #[{ name := "$assertionsDisabled", type := .boolean, accessFlags := 4120, slot := 0, constantValue := 0 }]
  methods := #[k30m0, k30m1]
  instanceTypes := #[]
  staticTypes := #[.boolean]
  resolved := Array.replicate 395 none
  statics := none }

def pool31 : Array CpInfo := pool [(6, .class_ 8), (1, u "java/lang/Object"), (0, u "<init>"), (0, u "()V"), (1, .class_ 14), (1, u "java/lang/StringUTF16"), (31, u "$assertionsDisabled"), (0, u "Z"), (13, u "HI_BYTE_SHIFT"), (0, u "I"), (2, u "LO_BYTE_SHIFT"), (49, .methodref 12 116), (0, .nameAndType 117 118), (0, u "compress"), (0, u "([CI[BII)I"), (3, u "([CII)[B"), (138, u "coderFromArrayLen"), (0, u "([BI)B"), (106, .class_ 371), (1, u "java/lang/StringUTF16$LinesSpliterator"), (58, u "MAX_LENGTH"), (196, .class_ 628), (0, u "java/lang/StringUTF16$CodePointsSpliterator"), (0, .class_ 630), (0, u "java/lang/StringUTF16$CharsSpliterator")] 4

def k31m0 : Method := { name := "<init>", desc := "()V", sig := { parameters := [], returnType := none }, accessFlags := 0, code := none }
def k31c1 : Code := { maxStack := 2, maxLocals := 2, code := jdk_52_method_15_code, exceptionTable := #[], attributes := #[] }
def k31m1 : Method := { name := "coderFromArrayLen", desc := "([BI)B", sig := { parameters := [(.array .byte), .int], returnType := some .byte }, accessFlags := 8, code := some k31c1 }
def k31c2 : Code := { maxStack := 5, maxLocals := 6, code := jdk_52_method_16_code, exceptionTable := #[], attributes := #[] }
def k31m2 : Method := { name := "compress", desc := "([CII)[B", sig := { parameters := [(.array .char), .int, .int], returnType := some (.array .byte) }, accessFlags := 9, code := some k31c2 }
def k31c3 : Code := { maxStack := 3, maxLocals := 7, code := jdk_52_method_21_code, exceptionTable := #[], attributes := #[] }
def k31m3 : Method := { name := "compress", desc := "([CI[BII)I", sig := { parameters := [(.array .char), .int, (.array .byte), .int, .int], returnType := some .int }, accessFlags := 9, code := some k31c3 }
/-- java/lang/StringUTF16 -/
def k31 : Class := { plain "java/lang/StringUTF16" (some 0) with
  accessFlags := 48
  interfaces := #[]
  cf := some (fileOf pool31 12 #[.nestMembers #[627, 629, 369]] #[{ accessFlags := 0, nameIndex := 9, descriptorIndex := 10, attributes := #[] }, { accessFlags := 8, nameIndex := 261, descriptorIndex := 262, attributes := #[] }, { accessFlags := 9, nameIndex := 117, descriptorIndex := 122, attributes := #[] }, { accessFlags := 9, nameIndex := 117, descriptorIndex := 118, attributes := #[] }] 48 6 #[] #[{ accessFlags := 26, nameIndex := 61, descriptorIndex := 62, attributes := #[] }, { accessFlags := 26, nameIndex := 65, descriptorIndex := 62, attributes := #[] }, { accessFlags := 24, nameIndex := 430, descriptorIndex := 62, attributes := #[] }, { accessFlags := 4120, nameIndex := 46, descriptorIndex := 47, attributes := #[] }])
  fields := #[{ name := "HI_BYTE_SHIFT", type := .int, accessFlags := 26, slot := 0, constantValue := 0 }, { name := "LO_BYTE_SHIFT", type := .int, accessFlags := 26, slot := 1, constantValue := 0 }, { name := "MAX_LENGTH", type := .int, accessFlags := 24, slot := 2, constantValue := 0 }, { name := "$assertionsDisabled", type := .boolean, accessFlags := 4120, slot := 3, constantValue := 0 }]
  methods := #[k31m0, k31m1, k31m2, k31m3]
  instanceTypes := #[]
  staticTypes := #[.int, .int, .int, .boolean]
  resolved := Array.replicate 635 none
  statics := none }

def pool32 : Array CpInfo := pool [(9, u "<init>"), (6, .class_ 18), (1, u "java/lang/Object"), (0, u "()V"), (1, .class_ 23), (1, u "jdk/internal/util/ArraysSupport"), (0, u "LOG2_ARRAY_LONG_INDEX_SCALE"), (0, u "I"), (2, u "U"), (0, u "Ljdk/internal/misc/Unsafe;"), (8, u "BIG_ENDIAN"), (0, u "Z"), (8, u "LOG2_BYTE_BIT_SIZE"), (4, u "LOG2_ARRAY_INT_INDEX_SCALE"), (54, u "JLA"), (0, u "Ljdk/internal/access/JavaLangAccess;"), (11, u "LOG2_ARRAY_BOOLEAN_INDEX_SCALE"), (9, u "LOG2_ARRAY_BYTE_INDEX_SCALE"), (5, u "LOG2_ARRAY_CHAR_INDEX_SCALE"), (5, u "LOG2_ARRAY_SHORT_INDEX_SCALE"), (18, u "LOG2_ARRAY_FLOAT_INDEX_SCALE"), (24, u "LOG2_ARRAY_DOUBLE_INDEX_SCALE"), (89, u "T_BOOLEAN"), (2, u "T_CHAR"), (1, u "T_FLOAT"), (1, u "T_DOUBLE"), (1, u "T_BYTE"), (1, u "T_SHORT"), (1, u "T_INT"), (1, u "T_LONG"), (1, u "SOFT_MAX_ARRAY_LENGTH")] 83

def k32m0 : Method := { name := "<init>", desc := "()V", sig := { parameters := [], returnType := none }, accessFlags := 2, code := none }
/-- jdk/internal/util/ArraysSupport -/
def k32 : Class := { plain "jdk/internal/util/ArraysSupport" (some 0) with
  accessFlags := 33
  interfaces := #[]
  cf := some (fileOf pool32 21 #[] #[{ accessFlags := 2, nameIndex := 9, descriptorIndex := 19, attributes := #[] }] 33 16 #[] #[{ accessFlags := 24, nameIndex := 28, descriptorIndex := 29, attributes := #[] }, { accessFlags := 26, nameIndex := 38, descriptorIndex := 39, attributes := #[] }, { accessFlags := 25, nameIndex := 121, descriptorIndex := 25, attributes := #[] }, { accessFlags := 25, nameIndex := 131, descriptorIndex := 25, attributes := #[] }, { accessFlags := 25, nameIndex := 137, descriptorIndex := 25, attributes := #[] }, { accessFlags := 25, nameIndex := 143, descriptorIndex := 25, attributes := #[] }, { accessFlags := 25, nameIndex := 53, descriptorIndex := 25, attributes := #[] }, { accessFlags := 25, nameIndex := 24, descriptorIndex := 25, attributes := #[] }, { accessFlags := 25, nameIndex := 162, descriptorIndex := 25, attributes := #[] }, { accessFlags := 25, nameIndex := 187, descriptorIndex := 25, attributes := #[] }, { accessFlags := 26, nameIndex := 48, descriptorIndex := 25, attributes := #[] }, { accessFlags := 25, nameIndex := 277, descriptorIndex := 25, attributes := #[] }, { accessFlags := 25, nameIndex := 280, descriptorIndex := 25, attributes := #[] }, { accessFlags := 25, nameIndex := 282, descriptorIndex := 25, attributes := #[] }, { accessFlags := 25, nameIndex := 284, descriptorIndex := 25, attributes := #[] }, { accessFlags := 25, nameIndex := 286, descriptorIndex := 25, attributes := #[] }, { accessFlags := 25, nameIndex := 288, descriptorIndex := 25, attributes := #[] }, { accessFlags := 25, nameIndex := 290, descriptorIndex := 25, attributes := #[] }, { accessFlags := 25, nameIndex := 292, descriptorIndex := 25, attributes := #[] }, { accessFlags := 26, nameIndex := 108, descriptorIndex := 109, attributes := #[] }, { accessFlags := 25, nameIndex := 294, descriptorIndex := 25, attributes := #[] }])
  fields := #[{ name := "U", type := (.object "jdk/internal/misc/Unsafe"), accessFlags := 24, slot := 0, constantValue := 0 }, { name := "BIG_ENDIAN", type := .boolean, accessFlags := 26, slot := 1, constantValue := 0 }, { name := "LOG2_ARRAY_BOOLEAN_INDEX_SCALE", type := .int, accessFlags := 25, slot := 2, constantValue := 0 }, { name := "LOG2_ARRAY_BYTE_INDEX_SCALE", type := .int, accessFlags := 25, slot := 3, constantValue := 0 }, { name := "LOG2_ARRAY_CHAR_INDEX_SCALE", type := .int, accessFlags := 25, slot := 4, constantValue := 0 }, { name := "LOG2_ARRAY_SHORT_INDEX_SCALE", type := .int, accessFlags := 25, slot := 5, constantValue := 0 }, { name := "LOG2_ARRAY_INT_INDEX_SCALE", type := .int, accessFlags := 25, slot := 6, constantValue := 0 }, { name := "LOG2_ARRAY_LONG_INDEX_SCALE", type := .int, accessFlags := 25, slot := 7, constantValue := 0 }, { name := "LOG2_ARRAY_FLOAT_INDEX_SCALE", type := .int, accessFlags := 25, slot := 8, constantValue := 0 }, { name := "LOG2_ARRAY_DOUBLE_INDEX_SCALE", type := .int, accessFlags := 25, slot := 9, constantValue := 0 }, { name := "LOG2_BYTE_BIT_SIZE", type := .int, accessFlags := 26, slot := 10, constantValue := 0 }, { name := "T_BOOLEAN", type := .int, accessFlags := 25, slot := 11, constantValue := 0 }, { name := "T_CHAR", type := .int, accessFlags := 25, slot := 12, constantValue := 0 }, { name := "T_FLOAT", type := .int, accessFlags := 25, slot := 13, constantValue := 0 }, { name := "T_DOUBLE", type := .int, accessFlags := 25, slot := 14, constantValue := 0 }, { name := "T_BYTE", type := .int, accessFlags := 25, slot := 15, constantValue := 0 }, { name := "T_SHORT", type := .int, accessFlags := 25, slot := 16, constantValue := 0 }, { name := "T_INT", type := .int, accessFlags := 25, slot := 17, constantValue := 0 }, { name := "T_LONG", type := .int, accessFlags := 25, slot := 18, constantValue := 0 }, { name := "JLA", type := (.object "jdk/internal/access/JavaLangAccess"), accessFlags := 26, slot := 19, constantValue := 0 }, { name := "SOFT_MAX_ARRAY_LENGTH", type := .int, accessFlags := 25, slot := 20, constantValue := 0 }]
  methods := #[k32m0]
  instanceTypes := #[]
  staticTypes := #[(.object "jdk/internal/misc/Unsafe"), .boolean, .int, .int, .int, .int, .int, .int, .int, .int, .int, .int, .int, .int, .int, .int, .int, .int, .int, (.object "jdk/internal/access/JavaLangAccess"), .int]
  resolved := Array.replicate 378 none
  statics := none }

def pool33 : Array CpInfo := pool [(1, u "java/lang/Class"), (0, .class_ 1), (0, u "java/lang/Object"), (0, .class_ 3)] 3

/-- java/lang/Class -/
def k33 : Class := { plain "java/lang/Class" (some 0) with
  accessFlags := 49
  interfaces := #[]
  cf := some (fileOf pool33 2 #[] #[] 49 4 #[] #[])
  fields := #[]
  methods := #[]
  instanceTypes := #[]
  staticTypes := #[]
  resolved := Array.replicate 8 none
  statics := none }

/-- the primitive byte -/
def k34 : Class := { plain "byte" none with kind := .primitive 'B', accessFlags := 0x411 }
/-- [B -/
def k35 : Class := { plain "[B" (some 0) with kind := .array 34 .byte, interfaces := #[16, 2], accessFlags := 1041 }

/-- the primitive char -/
def k36 : Class := { plain "char" none with kind := .primitive 'C', accessFlags := 0x411 }
/-- [C -/
def k37 : Class := { plain "[C" (some 0) with kind := .array 36 .char, interfaces := #[16, 2], accessFlags := 1041 }

/-- the primitive int -/
def k38 : Class := { plain "int" none with kind := .primitive 'I', accessFlags := 0x411 }
/-- [I -/
def k39 : Class := { plain "[I" (some 0) with kind := .array 38 .int, interfaces := #[16, 2], accessFlags := 1041 }

/-- [Ljava/lang/Object; -/
def k40 : Class := { plain "[Ljava/lang/Object;" (some 0) with kind := .array 0 (.object "java/lang/Object"), interfaces := #[16, 2], accessFlags := 1041 }

def heap : Heap := #[{ cls := 7, slots := #[.long 0, .int 1, .null, .int 0, .null, .int 0, .int 0], vm := .statics 7 },
  { cls := 17, slots := #[.long 0, .int 0, .ref 6, .ref 7], vm := .statics 17 },
  { cls := 29, slots := #[.null, .null, .null], vm := .statics 29 },
  { cls := 33, slots := #[], vm := .mirror 17 },
  { cls := 33, slots := #[], vm := .mirror 20 },
  { cls := 33, slots := #[], vm := .mirror 21 },
  { cls := 40, slots := #[], vm := .none },
  { cls := 40, slots := #[], vm := .none }]
def classes : Array Class := #[k0, k1, k2, k3, k4, k5, k6, k7, k8, k9, k10, k11, k12, k13, k14, k15, k16, k17, k18, k19, k20, k21, k22, k23, k24, k25, k26, k27, k28, k29, k30, k31, k32, k33, k34, k35, k36, k37, k38, k39, k40]
def interned : List (Array UInt16 × Addr) := []
def slotsUsed : Nat := 14
def theMethod : MethodId := ⟨1, 1⟩
def args0 : Array Value := #[.int 25185, .int 25699, .int 26213, .int 26727, .int 85]
def aboutOver (below : List Frame) : State where
  vm := { classes := classes, interned := interned.toArray }
  heap := heap
  slotsUsed := slotsUsed
  threads := #[{ frames := .invoking theMethod args0 :: below }]
def below0 : List Frame := [.native { method := ⟨0, 0⟩, args := #[] }]
def about1 : State := aboutOver below0
def p0 : Program := .bare "" "" ""
def e0 : Env := launch0.env 0 0 0
theorem w_frames : about1.frames = Frame.invoking theMethod args0 :: below0 := rfl
set_option maxRecDepth 65536 in
theorem w_args : argsFit about1.vm theMethod args0 = true := by decide +kernel
set_option maxRecDepth 65536 in
theorem w_heap : heapFits about1 = true := by decide +kernel
set_option maxRecDepth 65536 in
theorem w_runnable : about1.curStatus? = some .runnable := by decide +kernel
set_option maxRecDepth 65536 in
theorem w_alone : about1.alone = true := by decide +kernel
set_option maxRecDepth 65536 in
theorem w_named : about1.methodNamed? x = some theMethod := by decide +kernel
set_option maxRecDepth 65536 in
theorem w_hears : about1.hears theMethod below0 = true := by decide +kernel
set_option maxRecDepth 65536 in
theorem w_ripe : about1.ripe theMethod args0 below0 = true := by decide +kernel
theorem w_running : about1.status = .running := rfl
set_option maxRecDepth 65536 in
theorem w_room : about1.hasRoom e0.platform room_1 = true :=
  launch0.hasRoom_least _ room_1 (by decide +kernel) (by decide +kernel) (by decide +kernel) (by decide +kernel) (by decide +kernel) (by decide +kernel)
theorem allAtoms_all (ts : List Jvm.Cond) (a : Array Jvm.Value) (st : Jvm.State) : (allAtoms ts).before a st = ts.all (fun c => c.before a st) := by
  induction ts with
  | nil => rfl
  | cons c t ih =>
    show (Jvm.Cond.and c (allAtoms t)).before a st = _
    rw [Jvm.Cond.before_and, ih, List.all_cons]
def words1 : List Jvm.Cond := Jvm.Cond.code x code maxLocals ret :: tables_1
/-- a 'code' word, met by the world's own term for the bytes: nothing is compared byte by byte -/
theorem code_word {y : MethodName} {bytes : ByteArray} {mx : Nat} {rt : Option FieldType} {a : Array Value} {s : State} {m : MethodId} {meth : Method} {c : Code} (h1 : s.methodNamed? y = some m) (h2 : s.vm.method? m = some meth) (h3 : meth.code = some c) (h4 : c.code = bytes)
    (h5 : (c.maxLocals == mx && c.exceptionTable.isEmpty && decide (c.maxStack ≤ mostOperands) && decide (meth.sig.returnType = rt) && !meth.locks && decide (parseMethodDescriptor y.desc = some meth.sig)) = true) : (Jvm.Cond.code y bytes mx rt).before a s = true := by
  simp only [Bool.and_eq_true, beq_iff_eq, Bool.not_eq_true', decide_eq_true_eq] at h5
  obtain ⟨⟨⟨⟨⟨g1, g2⟩, g3⟩, g4⟩, g5⟩, g6⟩ := h5
  simp [Cond.before, Cond.holds, Cond.value, h1, h2, h3, h4, g1, g2, g3, g4, g5, g6]
def isCode : Jvm.Cond → Bool
  | .code _ _ _ _ => true
  | _ => false
theorem all_split {L : List Jvm.Cond} {P : Jvm.Cond → Bool} (h1 : L.all (fun c => isCode c || P c) = true) (h2 : ∀ c ∈ L.filter isCode, P c = true) : L.all P = true := by
  refine List.all_eq_true.mpr fun c hc => ?_
  have h := List.all_eq_true.mp h1 c hc
  rcases Bool.eq_false_or_eq_true (isCode c) with hi | hi
  · exact h2 c (List.mem_filter.mpr ⟨hc, hi⟩)
  · simpa [hi] using h
set_option maxRecDepth 65536 in
theorem w_c0 : (Jvm.Cond.code x code maxLocals ret).before args0 about1 = true := code_word (m := ⟨1, 1⟩) (meth := k1m1) (c := k1c1) (by decide +kernel) rfl rfl rfl (by decide +kernel)
set_option maxRecDepth 65536 in
theorem w_c1 : (Jvm.Cond.code ({ cls := "com/example/reckoner/reckoner/cli/ReportAddPinLaw", name := "str", desc := "(II)Ljava/lang/String;" } : Jvm.MethodName) method_3_code (4 : Nat) (Option.some (Jvm.ClassFile.FieldType.object "java/lang/String"))).before args0 about1 = true := code_word (m := ⟨1, 2⟩) (meth := k1m2) (c := k1c2) (by decide +kernel) rfl rfl rfl (by decide +kernel)
set_option maxRecDepth 65536 in
theorem w_c2 : (Jvm.Cond.code ({ cls := "java/lang/String", name := "<init>", desc := "([C)V" } : Jvm.MethodName) jdk_42_method_3_code (2 : Nat) (Option.none : Option Jvm.ClassFile.FieldType)).before args0 about1 = true := code_word (m := ⟨7, 1⟩) (meth := k7m1) (c := k7c1) (by decide +kernel) rfl rfl rfl (by decide +kernel)
set_option maxRecDepth 65536 in
theorem w_c3 : (Jvm.Cond.code ({ cls := "java/lang/String", name := "<init>", desc := "([CIILjava/lang/Void;)V" } : Jvm.MethodName) jdk_42_method_149_code (6 : Nat) (Option.none : Option Jvm.ClassFile.FieldType)).before args0 about1 = true := code_word (m := ⟨7, 6⟩) (meth := k7m6) (c := k7c6) (by decide +kernel) rfl rfl rfl (by decide +kernel)
set_option maxRecDepth 65536 in
theorem w_c4 : (Jvm.Cond.code ({ cls := "java/lang/Object", name := "<init>", desc := "()V" } : Jvm.MethodName) object_method_1_code (1 : Nat) (Option.none : Option Jvm.ClassFile.FieldType)).before args0 about1 = true := code_word (m := ⟨0, 0⟩) (meth := k0m0) (c := k0c0) (by decide +kernel) rfl rfl rfl (by decide +kernel)
set_option maxRecDepth 65536 in
theorem w_c5 : (Jvm.Cond.code ({ cls := "com/example/reckoner/reckoner/cli/Report", name := "<init>", desc := "()V" } : Jvm.MethodName) prog_2_method_1_code (1 : Nat) (Option.none : Option Jvm.ClassFile.FieldType)).before args0 about1 = true := code_word (m := ⟨8, 0⟩) (meth := k8m0) (c := k8c0) (by decide +kernel) rfl rfl rfl (by decide +kernel)
set_option maxRecDepth 65536 in
theorem w_c6 : (Jvm.Cond.code ({ cls := "java/util/ArrayList", name := "<init>", desc := "()V" } : Jvm.MethodName) jdk_38_method_2_code (1 : Nat) (Option.none : Option Jvm.ClassFile.FieldType)).before args0 about1 = true := code_word (m := ⟨17, 0⟩) (meth := k17m0) (c := k17c0) (by decide +kernel) rfl rfl rfl (by decide +kernel)
set_option maxRecDepth 65536 in
theorem w_c7 : (Jvm.Cond.code ({ cls := "java/util/AbstractList", name := "<init>", desc := "()V" } : Jvm.MethodName) jdk_39_method_1_code (1 : Nat) (Option.none : Option Jvm.ClassFile.FieldType)).before args0 about1 = true := code_word (m := ⟨14, 0⟩) (meth := k14m0) (c := k14c0) (by decide +kernel) rfl rfl rfl (by decide +kernel)
set_option maxRecDepth 65536 in
theorem w_c8 : (Jvm.Cond.code ({ cls := "java/util/AbstractCollection", name := "<init>", desc := "()V" } : Jvm.MethodName) jdk_22_method_1_code (1 : Nat) (Option.none : Option Jvm.ClassFile.FieldType)).before args0 about1 = true := code_word (m := ⟨11, 0⟩) (meth := k11m0) (c := k11c0) (by decide +kernel) rfl rfl rfl (by decide +kernel)
set_option maxRecDepth 65536 in
theorem w_c9 : (Jvm.Cond.code ({ cls := "com/example/reckoner/reckoner/cli/Report", name := "lines", desc := "()Ljava/util/List;" } : Jvm.MethodName) prog_2_method_16_code (1 : Nat) (Option.some (Jvm.ClassFile.FieldType.object "java/util/List"))).before args0 about1 = true := code_word (m := ⟨8, 2⟩) (meth := k8m2) (c := k8c2) (by decide +kernel) rfl rfl rfl (by decide +kernel)
set_option maxRecDepth 65536 in
theorem w_c10 : (Jvm.Cond.code ({ cls := "java/util/Collections", name := "unmodifiableList", desc := "(Ljava/util/List;)Ljava/util/List;" } : Jvm.MethodName) jdk_79_method_35_code (1 : Nat) (Option.some (Jvm.ClassFile.FieldType.object "java/util/List"))).before args0 about1 = true := code_word (m := ⟨18, 1⟩) (meth := k18m1) (c := k18c1) (by decide +kernel) rfl rfl rfl (by decide +kernel)
set_option maxRecDepth 65536 in
theorem w_c11 : (Jvm.Cond.code ({ cls := "java/util/Collections$UnmodifiableRandomAccessList", name := "<init>", desc := "(Ljava/util/List;)V" } : Jvm.MethodName) jdk_121_method_1_code (2 : Nat) (Option.none : Option Jvm.ClassFile.FieldType)).before args0 about1 = true := code_word (m := ⟨21, 0⟩) (meth := k21m0) (c := k21c0) (by decide +kernel) rfl rfl rfl (by decide +kernel)
set_option maxRecDepth 65536 in
theorem w_c12 : (Jvm.Cond.code ({ cls := "java/util/Collections$UnmodifiableList", name := "<init>", desc := "(Ljava/util/List;)V" } : Jvm.MethodName) jdk_120_method_1_code (2 : Nat) (Option.none : Option Jvm.ClassFile.FieldType)).before args0 about1 = true := code_word (m := ⟨20, 0⟩) (meth := k20m0) (c := k20c0) (by decide +kernel) rfl rfl rfl (by decide +kernel)
set_option maxRecDepth 65536 in
theorem w_c13 : (Jvm.Cond.code ({ cls := "java/util/Collections$UnmodifiableCollection", name := "<init>", desc := "(Ljava/util/Collection;)V" } : Jvm.MethodName) jdk_119_method_1_code (2 : Nat) (Option.none : Option Jvm.ClassFile.FieldType)).before args0 about1 = true := code_word (m := ⟨19, 0⟩) (meth := k19m0) (c := k19c0) (by decide +kernel) rfl rfl rfl (by decide +kernel)
set_option maxRecDepth 65536 in
theorem w_c14 : (Jvm.Cond.code ({ cls := "java/util/Collections$UnmodifiableCollection", name := "size", desc := "()I" } : Jvm.MethodName) jdk_119_method_2_code (1 : Nat) (Option.some Jvm.ClassFile.FieldType.int)).before args0 about1 = true := code_word (m := ⟨19, 1⟩) (meth := k19m1) (c := k19c1) (by decide +kernel) rfl rfl rfl (by decide +kernel)
set_option maxRecDepth 65536 in
theorem w_c15 : (Jvm.Cond.code ({ cls := "java/util/ArrayList", name := "size", desc := "()I" } : Jvm.MethodName) jdk_38_method_8_code (1 : Nat) (Option.some Jvm.ClassFile.FieldType.int)).before args0 about1 = true := code_word (m := ⟨17, 3⟩) (meth := k17m3) (c := k17c3) (by decide +kernel) rfl rfl rfl (by decide +kernel)
set_option maxRecDepth 65536 in
theorem w_c16 : (Jvm.Cond.code ({ cls := "com/example/reckoner/reckoner/cli/Report", name := "add", desc := "(Ljava/lang/String;Ljava/lang/String;)Lcom/example/reckoner/reckoner/cli/Report;" } : Jvm.MethodName) prog_2_method_2_code (3 : Nat) (Option.some (Jvm.ClassFile.FieldType.object "com/example/reckoner/reckoner/cli/Report"))).before args0 about1 = true := code_word (m := ⟨8, 1⟩) (meth := k8m1) (c := k8c1) (by decide +kernel) rfl rfl rfl (by decide +kernel)
set_option maxRecDepth 65536 in
theorem w_c17 : (Jvm.Cond.code ({ cls := "java/lang/StringBuilder", name := "<init>", desc := "()V" } : Jvm.MethodName) jdk_67_method_1_code (1 : Nat) (Option.none : Option Jvm.ClassFile.FieldType)).before args0 about1 = true := code_word (m := ⟨24, 0⟩) (meth := k24m0) (c := k24c0) (by decide +kernel) rfl rfl rfl (by decide +kernel)
set_option maxRecDepth 65536 in
theorem w_c18 : (Jvm.Cond.code ({ cls := "java/lang/AbstractStringBuilder", name := "<init>", desc := "(I)V" } : Jvm.MethodName) jdk_68_method_2_code (2 : Nat) (Option.none : Option Jvm.ClassFile.FieldType)).before args0 about1 = true := code_word (m := ⟨23, 1⟩) (meth := k23m1) (c := k23c1) (by decide +kernel) rfl rfl rfl (by decide +kernel)
set_option maxRecDepth 65536 in
theorem w_c19 : (Jvm.Cond.code ({ cls := "java/lang/StringBuilder", name := "append", desc := "(Ljava/lang/String;)Ljava/lang/StringBuilder;" } : Jvm.MethodName) jdk_67_method_7_code (2 : Nat) (Option.some (Jvm.ClassFile.FieldType.object "java/lang/StringBuilder"))).before args0 about1 = true := code_word (m := ⟨24, 1⟩) (meth := k24m1) (c := k24c1) (by decide +kernel) rfl rfl rfl (by decide +kernel)
set_option maxRecDepth 65536 in
theorem w_c20 : (Jvm.Cond.code ({ cls := "java/lang/AbstractStringBuilder", name := "append", desc := "(Ljava/lang/String;)Ljava/lang/AbstractStringBuilder;" } : Jvm.MethodName) jdk_68_method_22_code (3 : Nat) (Option.some (Jvm.ClassFile.FieldType.object "java/lang/AbstractStringBuilder"))).before args0 about1 = true := code_word (m := ⟨23, 4⟩) (meth := k23m4) (c := k23c4) (by decide +kernel) rfl rfl rfl (by decide +kernel)
set_option maxRecDepth 65536 in
theorem w_c21 : (Jvm.Cond.code ({ cls := "java/lang/String", name := "length", desc := "()I" } : Jvm.MethodName) jdk_42_method_54_code (1 : Nat) (Option.some Jvm.ClassFile.FieldType.int)).before args0 about1 = true := code_word (m := ⟨7, 3⟩) (meth := k7m3) (c := k7c3) (by decide +kernel) rfl rfl rfl (by decide +kernel)
set_option maxRecDepth 65536 in
theorem w_c22 : (Jvm.Cond.code ({ cls := "java/lang/String", name := "coder", desc := "()B" } : Jvm.MethodName) jdk_42_method_152_code (1 : Nat) (Option.some Jvm.ClassFile.FieldType.byte)).before args0 about1 = true := code_word (m := ⟨7, 8⟩) (meth := k7m8) (c := k7c8) (by decide +kernel) rfl rfl rfl (by decide +kernel)
set_option maxRecDepth 65536 in
theorem w_c23 : (Jvm.Cond.code ({ cls := "java/lang/AbstractStringBuilder", name := "ensureCapacityInternal", desc := "(I)V" } : Jvm.MethodName) jdk_68_method_9_code (3 : Nat) (Option.none : Option Jvm.ClassFile.FieldType)).before args0 about1 = true := code_word (m := ⟨23, 3⟩) (meth := k23m3) (c := k23c3) (by decide +kernel) rfl rfl rfl (by decide +kernel)
set_option maxRecDepth 65536 in
theorem w_c24 : (Jvm.Cond.code ({ cls := "java/lang/AbstractStringBuilder", name := "putStringAt", desc := "(ILjava/lang/String;)V" } : Jvm.MethodName) jdk_68_method_73_code (3 : Nat) (Option.none : Option Jvm.ClassFile.FieldType)).before args0 about1 = true := code_word (m := ⟨23, 8⟩) (meth := k23m8) (c := k23c8) (by decide +kernel) rfl rfl rfl (by decide +kernel)
set_option maxRecDepth 65536 in
theorem w_c25 : (Jvm.Cond.code ({ cls := "java/lang/AbstractStringBuilder", name := "inflateIfNeededFor", desc := "(Ljava/lang/String;)V" } : Jvm.MethodName) jdk_68_method_71_code (2 : Nat) (Option.none : Option Jvm.ClassFile.FieldType)).before args0 about1 = true := code_word (m := ⟨23, 7⟩) (meth := k23m7) (c := k23c7) (by decide +kernel) rfl rfl rfl (by decide +kernel)
set_option maxRecDepth 65536 in
theorem w_c26 : (Jvm.Cond.code ({ cls := "java/lang/String", name := "getBytes", desc := "([BIB)V" } : Jvm.MethodName) jdk_42_method_147_code (4 : Nat) (Option.none : Option Jvm.ClassFile.FieldType)).before args0 about1 = true := code_word (m := ⟨7, 5⟩) (meth := k7m5) (c := k7c5) (by decide +kernel) rfl rfl rfl (by decide +kernel)
set_option maxRecDepth 65536 in
theorem w_c27 : (Jvm.Cond.code ({ cls := "java/lang/StringBuilder", name := "toString", desc := "()Ljava/lang/String;" } : Jvm.MethodName) jdk_67_method_42_code (1 : Nat) (Option.some (Jvm.ClassFile.FieldType.object "java/lang/String"))).before args0 about1 = true := code_word (m := ⟨24, 2⟩) (meth := k24m2) (c := k24c2) (by decide +kernel) rfl rfl rfl (by decide +kernel)
set_option maxRecDepth 65536 in
theorem w_c28 : (Jvm.Cond.code ({ cls := "java/lang/String", name := "<init>", desc := "(Ljava/lang/StringBuilder;)V" } : Jvm.MethodName) jdk_42_method_53_code (2 : Nat) (Option.none : Option Jvm.ClassFile.FieldType)).before args0 about1 = true := code_word (m := ⟨7, 2⟩) (meth := k7m2) (c := k7c2) (by decide +kernel) rfl rfl rfl (by decide +kernel)
set_option maxRecDepth 65536 in
theorem w_c29 : (Jvm.Cond.code ({ cls := "java/lang/String", name := "<init>", desc := "(Ljava/lang/AbstractStringBuilder;Ljava/lang/Void;)V" } : Jvm.MethodName) jdk_42_method_150_code (5 : Nat) (Option.none : Option Jvm.ClassFile.FieldType)).before args0 about1 = true := code_word (m := ⟨7, 7⟩) (meth := k7m7) (c := k7c7) (by decide +kernel) rfl rfl rfl (by decide +kernel)
set_option maxRecDepth 65536 in
theorem w_c30 : (Jvm.Cond.code ({ cls := "java/lang/AbstractStringBuilder", name := "getValue", desc := "()[B" } : Jvm.MethodName) jdk_68_method_64_code (1 : Nat) (Option.some (Jvm.ClassFile.FieldType.array Jvm.ClassFile.FieldType.byte))).before args0 about1 = true := code_word (m := ⟨23, 5⟩) (meth := k23m5) (c := k23c5) (by decide +kernel) rfl rfl rfl (by decide +kernel)
set_option maxRecDepth 65536 in
theorem w_c31 : (Jvm.Cond.code ({ cls := "java/lang/StringBuilder", name := "length", desc := "()I" } : Jvm.MethodName) jdk_67_method_93_code (1 : Nat) (Option.some Jvm.ClassFile.FieldType.int)).before args0 about1 = true := code_word (m := ⟨24, 3⟩) (meth := k24m3) (c := k24c3) (by decide +kernel) rfl rfl rfl (by decide +kernel)
set_option maxRecDepth 65536 in
theorem w_c32 : (Jvm.Cond.code ({ cls := "java/lang/AbstractStringBuilder", name := "length", desc := "()I" } : Jvm.MethodName) jdk_68_method_6_code (1 : Nat) (Option.some Jvm.ClassFile.FieldType.int)).before args0 about1 = true := code_word (m := ⟨23, 2⟩) (meth := k23m2) (c := k23c2) (by decide +kernel) rfl rfl rfl (by decide +kernel)
set_option maxRecDepth 65536 in
theorem w_c33 : (Jvm.Cond.code ({ cls := "java/lang/AbstractStringBuilder", name := "isLatin1", desc := "()Z" } : Jvm.MethodName) jdk_68_method_68_code (1 : Nat) (Option.some Jvm.ClassFile.FieldType.boolean)).before args0 about1 = true := code_word (m := ⟨23, 6⟩) (meth := k23m6) (c := k23c6) (by decide +kernel) rfl rfl rfl (by decide +kernel)
set_option maxRecDepth 65536 in
theorem w_c34 : (Jvm.Cond.code ({ cls := "java/util/Arrays", name := "copyOfRange", desc := "([BII)[B" } : Jvm.MethodName) jdk_65_method_132_code (3 : Nat) (Option.some (Jvm.ClassFile.FieldType.array Jvm.ClassFile.FieldType.byte))).before args0 about1 = true := code_word (m := ⟨26, 2⟩) (meth := k26m2) (c := k26c2) (by decide +kernel) rfl rfl rfl (by decide +kernel)
set_option maxRecDepth 65536 in
theorem w_c35 : (Jvm.Cond.code ({ cls := "java/util/Arrays", name := "copyOfRangeByte", desc := "([BII)[B" } : Jvm.MethodName) jdk_65_method_133_code (5 : Nat) (Option.some (Jvm.ClassFile.FieldType.array Jvm.ClassFile.FieldType.byte))).before args0 about1 = true := code_word (m := ⟨26, 3⟩) (meth := k26m3) (c := k26c3) (by decide +kernel) rfl rfl rfl (by decide +kernel)
set_option maxRecDepth 65536 in
theorem w_c36 : (Jvm.Cond.code ({ cls := "java/util/Arrays", name := "checkLength", desc := "(II)V" } : Jvm.MethodName) jdk_65_method_131_code (2 : Nat) (Option.none : Option Jvm.ClassFile.FieldType)).before args0 about1 = true := code_word (m := ⟨26, 1⟩) (meth := k26m1) (c := k26c1) (by decide +kernel) rfl rfl rfl (by decide +kernel)
set_option maxRecDepth 65536 in
theorem w_c37 : (Jvm.Cond.code ({ cls := "java/lang/Math", name := "min", desc := "(II)I" } : Jvm.MethodName) jdk_29_method_69_code (2 : Nat) (Option.some Jvm.ClassFile.FieldType.int)).before args0 about1 = true := code_word (m := ⟨27, 2⟩) (meth := k27m2) (c := k27c2) (by decide +kernel) rfl rfl rfl (by decide +kernel)
set_option maxRecDepth 65536 in
theorem w_c38 : (Jvm.Cond.code ({ cls := "java/util/ArrayList", name := "add", desc := "(Ljava/lang/Object;)Z" } : Jvm.MethodName) jdk_38_method_25_code (2 : Nat) (Option.some Jvm.ClassFile.FieldType.boolean)).before args0 about1 = true := code_word (m := ⟨17, 7⟩) (meth := k17m7) (c := k17c7) (by decide +kernel) rfl rfl rfl (by decide +kernel)
set_option maxRecDepth 65536 in
theorem w_c39 : (Jvm.Cond.code ({ cls := "java/util/ArrayList", name := "add", desc := "(Ljava/lang/Object;[Ljava/lang/Object;I)V" } : Jvm.MethodName) jdk_38_method_24_code (4 : Nat) (Option.none : Option Jvm.ClassFile.FieldType)).before args0 about1 = true := code_word (m := ⟨17, 6⟩) (meth := k17m6) (c := k17c6) (by decide +kernel) rfl rfl rfl (by decide +kernel)
set_option maxRecDepth 65536 in
theorem w_c40 : (Jvm.Cond.code ({ cls := "java/util/ArrayList", name := "grow", desc := "()[Ljava/lang/Object;" } : Jvm.MethodName) jdk_38_method_7_code (1 : Nat) (Option.some (Jvm.ClassFile.FieldType.array (Jvm.ClassFile.FieldType.object "java/lang/Object")))).before args0 about1 = true := code_word (m := ⟨17, 2⟩) (meth := k17m2) (c := k17c2) (by decide +kernel) rfl rfl rfl (by decide +kernel)
set_option maxRecDepth 65536 in
theorem w_c41 : (Jvm.Cond.code ({ cls := "java/util/ArrayList", name := "grow", desc := "(I)[Ljava/lang/Object;" } : Jvm.MethodName) jdk_38_method_6_code (4 : Nat) (Option.some (Jvm.ClassFile.FieldType.array (Jvm.ClassFile.FieldType.object "java/lang/Object")))).before args0 about1 = true := code_word (m := ⟨17, 1⟩) (meth := k17m1) (c := k17c1) (by decide +kernel) rfl rfl rfl (by decide +kernel)
set_option maxRecDepth 65536 in
theorem w_c42 : (Jvm.Cond.code ({ cls := "java/lang/Math", name := "max", desc := "(II)I" } : Jvm.MethodName) jdk_29_method_65_code (2 : Nat) (Option.some Jvm.ClassFile.FieldType.int)).before args0 about1 = true := code_word (m := ⟨27, 1⟩) (meth := k27m1) (c := k27c1) (by decide +kernel) rfl rfl rfl (by decide +kernel)
set_option maxRecDepth 65536 in
theorem w_c43 : (Jvm.Cond.code ({ cls := "java/util/Collections$UnmodifiableList", name := "get", desc := "(I)Ljava/lang/Object;" } : Jvm.MethodName) jdk_120_method_4_code (2 : Nat) (Option.some (Jvm.ClassFile.FieldType.object "java/lang/Object"))).before args0 about1 = true := code_word (m := ⟨20, 1⟩) (meth := k20m1) (c := k20c1) (by decide +kernel) rfl rfl rfl (by decide +kernel)
set_option maxRecDepth 65536 in
theorem w_c44 : (Jvm.Cond.code ({ cls := "java/util/ArrayList", name := "get", desc := "(I)Ljava/lang/Object;" } : Jvm.MethodName) jdk_38_method_20_code (2 : Nat) (Option.some (Jvm.ClassFile.FieldType.object "java/lang/Object"))).before args0 about1 = true := code_word (m := ⟨17, 5⟩) (meth := k17m5) (c := k17c5) (by decide +kernel) rfl rfl rfl (by decide +kernel)
set_option maxRecDepth 65536 in
theorem w_c45 : (Jvm.Cond.code ({ cls := "java/util/Objects", name := "checkIndex", desc := "(II)I" } : Jvm.MethodName) jdk_31_method_17_code (2 : Nat) (Option.some Jvm.ClassFile.FieldType.int)).before args0 about1 = true := code_word (m := ⟨28, 1⟩) (meth := k28m1) (c := k28c1) (by decide +kernel) rfl rfl rfl (by decide +kernel)
set_option maxRecDepth 65536 in
theorem w_c46 : (Jvm.Cond.code ({ cls := "jdk/internal/util/Preconditions", name := "checkIndex", desc := "(IILjava/util/function/BiFunction;)I" } : Jvm.MethodName) jdk_41_method_11_code (3 : Nat) (Option.some Jvm.ClassFile.FieldType.int)).before args0 about1 = true := code_word (m := ⟨29, 1⟩) (meth := k29m1) (c := k29c1) (by decide +kernel) rfl rfl rfl (by decide +kernel)
set_option maxRecDepth 65536 in
theorem w_c47 : (Jvm.Cond.code ({ cls := "java/util/ArrayList", name := "elementData", desc := "(I)Ljava/lang/Object;" } : Jvm.MethodName) jdk_38_method_18_code (2 : Nat) (Option.some (Jvm.ClassFile.FieldType.object "java/lang/Object"))).before args0 about1 = true := code_word (m := ⟨17, 4⟩) (meth := k17m4) (c := k17c4) (by decide +kernel) rfl rfl rfl (by decide +kernel)
set_option maxRecDepth 65536 in
theorem w_c48 : (Jvm.Cond.code ({ cls := "com/example/reckoner/reckoner/cli/ReportAddPinLaw", name := "lineOk", desc := "(Ljava/lang/String;Ljava/lang/String;Ljava/lang/String;)Z" } : Jvm.MethodName) method_5_code (4 : Nat) (Option.some Jvm.ClassFile.FieldType.boolean)).before args0 about1 = true := code_word (m := ⟨1, 4⟩) (meth := k1m4) (c := k1c4) (by decide +kernel) rfl rfl rfl (by decide +kernel)
set_option maxRecDepth 65536 in
theorem w_c49 : (Jvm.Cond.code ({ cls := "java/lang/String", name := "charAt", desc := "(I)C" } : Jvm.MethodName) jdk_42_method_56_code (2 : Nat) (Option.some Jvm.ClassFile.FieldType.char)).before args0 about1 = true := code_word (m := ⟨7, 4⟩) (meth := k7m4) (c := k7c4) (by decide +kernel) rfl rfl rfl (by decide +kernel)
set_option maxRecDepth 65536 in
theorem w_c50 : (Jvm.Cond.code ({ cls := "java/lang/String", name := "isLatin1", desc := "()Z" } : Jvm.MethodName) jdk_42_method_154_code (1 : Nat) (Option.some Jvm.ClassFile.FieldType.boolean)).before args0 about1 = true := code_word (m := ⟨7, 9⟩) (meth := k7m9) (c := k7c9) (by decide +kernel) rfl rfl rfl (by decide +kernel)
set_option maxRecDepth 65536 in
theorem w_c51 : (Jvm.Cond.code ({ cls := "java/lang/StringLatin1", name := "charAt", desc := "([BI)C" } : Jvm.MethodName) jdk_43_method_2_code (2 : Nat) (Option.some Jvm.ClassFile.FieldType.char)).before args0 about1 = true := code_word (m := ⟨30, 1⟩) (meth := k30m1) (c := k30c1) (by decide +kernel) rfl rfl rfl (by decide +kernel)
set_option maxRecDepth 65536 in
theorem w_c52 : (Jvm.Cond.code ({ cls := "java/lang/String", name := "checkIndex", desc := "(II)V" } : Jvm.MethodName) jdk_42_method_155_code (2 : Nat) (Option.none : Option Jvm.ClassFile.FieldType)).before args0 about1 = true := code_word (m := ⟨7, 10⟩) (meth := k7m10) (c := k7c10) (by decide +kernel) rfl rfl rfl (by decide +kernel)
set_option maxRecDepth 65536 in
theorem w_c53 : (Jvm.Cond.code ({ cls := "com/example/reckoner/reckoner/cli/ReportAddPinLaw", name := "exp", desc := "(Ljava/lang/String;Ljava/lang/String;I)C" } : Jvm.MethodName) method_4_code (4 : Nat) (Option.some Jvm.ClassFile.FieldType.char)).before args0 about1 = true := code_word (m := ⟨1, 3⟩) (meth := k1m3) (c := k1c3) (by decide +kernel) rfl rfl rfl (by decide +kernel)
set_option maxRecDepth 65536 in
theorem w_c54 : (Jvm.Cond.code ({ cls := "java/lang/StringUTF16", name := "compress", desc := "([CII)[B" } : Jvm.MethodName) jdk_52_method_16_code (6 : Nat) (Option.some (Jvm.ClassFile.FieldType.array Jvm.ClassFile.FieldType.byte))).before args0 about1 = true := code_word (m := ⟨31, 2⟩) (meth := k31m2) (c := k31c2) (by decide +kernel) rfl rfl rfl (by decide +kernel)
set_option maxRecDepth 65536 in
theorem w_c55 : (Jvm.Cond.code ({ cls := "java/lang/StringUTF16", name := "compress", desc := "([CI[BII)I" } : Jvm.MethodName) jdk_52_method_21_code (7 : Nat) (Option.some Jvm.ClassFile.FieldType.int)).before args0 about1 = true := code_word (m := ⟨31, 3⟩) (meth := k31m3) (c := k31c3) (by decide +kernel) rfl rfl rfl (by decide +kernel)
set_option maxRecDepth 65536 in
theorem w_c56 : (Jvm.Cond.code ({ cls := "java/lang/StringUTF16", name := "coderFromArrayLen", desc := "([BI)B" } : Jvm.MethodName) jdk_52_method_15_code (2 : Nat) (Option.some Jvm.ClassFile.FieldType.byte)).before args0 about1 = true := code_word (m := ⟨31, 1⟩) (meth := k31m1) (c := k31c1) (by decide +kernel) rfl rfl rfl (by decide +kernel)
def codes1 : List Jvm.Cond := [Jvm.Cond.code x code maxLocals ret, Jvm.Cond.code ({ cls := "com/example/reckoner/reckoner/cli/ReportAddPinLaw", name := "str", desc := "(II)Ljava/lang/String;" } : Jvm.MethodName) method_3_code (4 : Nat) (Option.some (Jvm.ClassFile.FieldType.object "java/lang/String")), Jvm.Cond.code ({ cls := "java/lang/String", name := "<init>", desc := "([C)V" } : Jvm.MethodName) jdk_42_method_3_code (2 : Nat) (Option.none : Option Jvm.ClassFile.FieldType), Jvm.Cond.code ({ cls := "java/lang/String", name := "<init>", desc := "([CIILjava/lang/Void;)V" } : Jvm.MethodName) jdk_42_method_149_code (6 : Nat) (Option.none : Option Jvm.ClassFile.FieldType), Jvm.Cond.code ({ cls := "java/lang/Object", name := "<init>", desc := "()V" } : Jvm.MethodName) object_method_1_code (1 : Nat) (Option.none : Option Jvm.ClassFile.FieldType), Jvm.Cond.code ({ cls := "com/example/reckoner/reckoner/cli/Report", name := "<init>", desc := "()V" } : Jvm.MethodName) prog_2_method_1_code (1 : Nat) (Option.none : Option Jvm.ClassFile.FieldType), Jvm.Cond.code ({ cls := "java/util/ArrayList", name := "<init>", desc := "()V" } : Jvm.MethodName) jdk_38_method_2_code (1 : Nat) (Option.none : Option Jvm.ClassFile.FieldType), Jvm.Cond.code ({ cls := "java/util/AbstractList", name := "<init>", desc := "()V" } : Jvm.MethodName) jdk_39_method_1_code (1 : Nat) (Option.none : Option Jvm.ClassFile.FieldType), Jvm.Cond.code ({ cls := "java/util/AbstractCollection", name := "<init>", desc := "()V" } : Jvm.MethodName) jdk_22_method_1_code (1 : Nat) (Option.none : Option Jvm.ClassFile.FieldType), Jvm.Cond.code ({ cls := "com/example/reckoner/reckoner/cli/Report", name := "lines", desc := "()Ljava/util/List;" } : Jvm.MethodName) prog_2_method_16_code (1 : Nat) (Option.some (Jvm.ClassFile.FieldType.object "java/util/List")), Jvm.Cond.code ({ cls := "java/util/Collections", name := "unmodifiableList", desc := "(Ljava/util/List;)Ljava/util/List;" } : Jvm.MethodName) jdk_79_method_35_code (1 : Nat) (Option.some (Jvm.ClassFile.FieldType.object "java/util/List")), Jvm.Cond.code ({ cls := "java/util/Collections$UnmodifiableRandomAccessList", name := "<init>", desc := "(Ljava/util/List;)V" } : Jvm.MethodName) jdk_121_method_1_code (2 : Nat) (Option.none : Option Jvm.ClassFile.FieldType), Jvm.Cond.code ({ cls := "java/util/Collections$UnmodifiableList", name := "<init>", desc := "(Ljava/util/List;)V" } : Jvm.MethodName) jdk_120_method_1_code (2 : Nat) (Option.none : Option Jvm.ClassFile.FieldType), Jvm.Cond.code ({ cls := "java/util/Collections$UnmodifiableCollection", name := "<init>", desc := "(Ljava/util/Collection;)V" } : Jvm.MethodName) jdk_119_method_1_code (2 : Nat) (Option.none : Option Jvm.ClassFile.FieldType), Jvm.Cond.code ({ cls := "java/util/Collections$UnmodifiableCollection", name := "size", desc := "()I" } : Jvm.MethodName) jdk_119_method_2_code (1 : Nat) (Option.some Jvm.ClassFile.FieldType.int), Jvm.Cond.code ({ cls := "java/util/ArrayList", name := "size", desc := "()I" } : Jvm.MethodName) jdk_38_method_8_code (1 : Nat) (Option.some Jvm.ClassFile.FieldType.int), Jvm.Cond.code ({ cls := "com/example/reckoner/reckoner/cli/Report", name := "add", desc := "(Ljava/lang/String;Ljava/lang/String;)Lcom/example/reckoner/reckoner/cli/Report;" } : Jvm.MethodName) prog_2_method_2_code (3 : Nat) (Option.some (Jvm.ClassFile.FieldType.object "com/example/reckoner/reckoner/cli/Report")), Jvm.Cond.code ({ cls := "java/lang/StringBuilder", name := "<init>", desc := "()V" } : Jvm.MethodName) jdk_67_method_1_code (1 : Nat) (Option.none : Option Jvm.ClassFile.FieldType), Jvm.Cond.code ({ cls := "java/lang/AbstractStringBuilder", name := "<init>", desc := "(I)V" } : Jvm.MethodName) jdk_68_method_2_code (2 : Nat) (Option.none : Option Jvm.ClassFile.FieldType), Jvm.Cond.code ({ cls := "java/lang/StringBuilder", name := "append", desc := "(Ljava/lang/String;)Ljava/lang/StringBuilder;" } : Jvm.MethodName) jdk_67_method_7_code (2 : Nat) (Option.some (Jvm.ClassFile.FieldType.object "java/lang/StringBuilder")), Jvm.Cond.code ({ cls := "java/lang/AbstractStringBuilder", name := "append", desc := "(Ljava/lang/String;)Ljava/lang/AbstractStringBuilder;" } : Jvm.MethodName) jdk_68_method_22_code (3 : Nat) (Option.some (Jvm.ClassFile.FieldType.object "java/lang/AbstractStringBuilder")), Jvm.Cond.code ({ cls := "java/lang/String", name := "length", desc := "()I" } : Jvm.MethodName) jdk_42_method_54_code (1 : Nat) (Option.some Jvm.ClassFile.FieldType.int), Jvm.Cond.code ({ cls := "java/lang/String", name := "coder", desc := "()B" } : Jvm.MethodName) jdk_42_method_152_code (1 : Nat) (Option.some Jvm.ClassFile.FieldType.byte), Jvm.Cond.code ({ cls := "java/lang/AbstractStringBuilder", name := "ensureCapacityInternal", desc := "(I)V" } : Jvm.MethodName) jdk_68_method_9_code (3 : Nat) (Option.none : Option Jvm.ClassFile.FieldType), Jvm.Cond.code ({ cls := "java/lang/AbstractStringBuilder", name := "putStringAt", desc := "(ILjava/lang/String;)V" } : Jvm.MethodName) jdk_68_method_73_code (3 : Nat) (Option.none : Option Jvm.ClassFile.FieldType), Jvm.Cond.code ({ cls := "java/lang/AbstractStringBuilder", name := "inflateIfNeededFor", desc := "(Ljava/lang/String;)V" } : Jvm.MethodName) jdk_68_method_71_code (2 : Nat) (Option.none : Option Jvm.ClassFile.FieldType), Jvm.Cond.code ({ cls := "java/lang/String", name := "getBytes", desc := "([BIB)V" } : Jvm.MethodName) jdk_42_method_147_code (4 : Nat) (Option.none : Option Jvm.ClassFile.FieldType), Jvm.Cond.code ({ cls := "java/lang/StringBuilder", name := "toString", desc := "()Ljava/lang/String;" } : Jvm.MethodName) jdk_67_method_42_code (1 : Nat) (Option.some (Jvm.ClassFile.FieldType.object "java/lang/String")), Jvm.Cond.code ({ cls := "java/lang/String", name := "<init>", desc := "(Ljava/lang/StringBuilder;)V" } : Jvm.MethodName) jdk_42_method_53_code (2 : Nat) (Option.none : Option Jvm.ClassFile.FieldType), Jvm.Cond.code ({ cls := "java/lang/String", name := "<init>", desc := "(Ljava/lang/AbstractStringBuilder;Ljava/lang/Void;)V" } : Jvm.MethodName) jdk_42_method_150_code (5 : Nat) (Option.none : Option Jvm.ClassFile.FieldType), Jvm.Cond.code ({ cls := "java/lang/AbstractStringBuilder", name := "getValue", desc := "()[B" } : Jvm.MethodName) jdk_68_method_64_code (1 : Nat) (Option.some (Jvm.ClassFile.FieldType.array Jvm.ClassFile.FieldType.byte)), Jvm.Cond.code ({ cls := "java/lang/StringBuilder", name := "length", desc := "()I" } : Jvm.MethodName) jdk_67_method_93_code (1 : Nat) (Option.some Jvm.ClassFile.FieldType.int), Jvm.Cond.code ({ cls := "java/lang/AbstractStringBuilder", name := "length", desc := "()I" } : Jvm.MethodName) jdk_68_method_6_code (1 : Nat) (Option.some Jvm.ClassFile.FieldType.int), Jvm.Cond.code ({ cls := "java/lang/AbstractStringBuilder", name := "isLatin1", desc := "()Z" } : Jvm.MethodName) jdk_68_method_68_code (1 : Nat) (Option.some Jvm.ClassFile.FieldType.boolean), Jvm.Cond.code ({ cls := "java/util/Arrays", name := "copyOfRange", desc := "([BII)[B" } : Jvm.MethodName) jdk_65_method_132_code (3 : Nat) (Option.some (Jvm.ClassFile.FieldType.array Jvm.ClassFile.FieldType.byte)), Jvm.Cond.code ({ cls := "java/util/Arrays", name := "copyOfRangeByte", desc := "([BII)[B" } : Jvm.MethodName) jdk_65_method_133_code (5 : Nat) (Option.some (Jvm.ClassFile.FieldType.array Jvm.ClassFile.FieldType.byte)), Jvm.Cond.code ({ cls := "java/util/Arrays", name := "checkLength", desc := "(II)V" } : Jvm.MethodName) jdk_65_method_131_code (2 : Nat) (Option.none : Option Jvm.ClassFile.FieldType), Jvm.Cond.code ({ cls := "java/lang/Math", name := "min", desc := "(II)I" } : Jvm.MethodName) jdk_29_method_69_code (2 : Nat) (Option.some Jvm.ClassFile.FieldType.int), Jvm.Cond.code ({ cls := "java/util/ArrayList", name := "add", desc := "(Ljava/lang/Object;)Z" } : Jvm.MethodName) jdk_38_method_25_code (2 : Nat) (Option.some Jvm.ClassFile.FieldType.boolean), Jvm.Cond.code ({ cls := "java/util/ArrayList", name := "add", desc := "(Ljava/lang/Object;[Ljava/lang/Object;I)V" } : Jvm.MethodName) jdk_38_method_24_code (4 : Nat) (Option.none : Option Jvm.ClassFile.FieldType), Jvm.Cond.code ({ cls := "java/util/ArrayList", name := "grow", desc := "()[Ljava/lang/Object;" } : Jvm.MethodName) jdk_38_method_7_code (1 : Nat) (Option.some (Jvm.ClassFile.FieldType.array (Jvm.ClassFile.FieldType.object "java/lang/Object"))), Jvm.Cond.code ({ cls := "java/util/ArrayList", name := "grow", desc := "(I)[Ljava/lang/Object;" } : Jvm.MethodName) jdk_38_method_6_code (4 : Nat) (Option.some (Jvm.ClassFile.FieldType.array (Jvm.ClassFile.FieldType.object "java/lang/Object"))), Jvm.Cond.code ({ cls := "java/lang/Math", name := "max", desc := "(II)I" } : Jvm.MethodName) jdk_29_method_65_code (2 : Nat) (Option.some Jvm.ClassFile.FieldType.int), Jvm.Cond.code ({ cls := "java/util/Collections$UnmodifiableList", name := "get", desc := "(I)Ljava/lang/Object;" } : Jvm.MethodName) jdk_120_method_4_code (2 : Nat) (Option.some (Jvm.ClassFile.FieldType.object "java/lang/Object")), Jvm.Cond.code ({ cls := "java/util/ArrayList", name := "get", desc := "(I)Ljava/lang/Object;" } : Jvm.MethodName) jdk_38_method_20_code (2 : Nat) (Option.some (Jvm.ClassFile.FieldType.object "java/lang/Object")), Jvm.Cond.code ({ cls := "java/util/Objects", name := "checkIndex", desc := "(II)I" } : Jvm.MethodName) jdk_31_method_17_code (2 : Nat) (Option.some Jvm.ClassFile.FieldType.int), Jvm.Cond.code ({ cls := "jdk/internal/util/Preconditions", name := "checkIndex", desc := "(IILjava/util/function/BiFunction;)I" } : Jvm.MethodName) jdk_41_method_11_code (3 : Nat) (Option.some Jvm.ClassFile.FieldType.int), Jvm.Cond.code ({ cls := "java/util/ArrayList", name := "elementData", desc := "(I)Ljava/lang/Object;" } : Jvm.MethodName) jdk_38_method_18_code (2 : Nat) (Option.some (Jvm.ClassFile.FieldType.object "java/lang/Object")), Jvm.Cond.code ({ cls := "com/example/reckoner/reckoner/cli/ReportAddPinLaw", name := "lineOk", desc := "(Ljava/lang/String;Ljava/lang/String;Ljava/lang/String;)Z" } : Jvm.MethodName) method_5_code (4 : Nat) (Option.some Jvm.ClassFile.FieldType.boolean), Jvm.Cond.code ({ cls := "java/lang/String", name := "charAt", desc := "(I)C" } : Jvm.MethodName) jdk_42_method_56_code (2 : Nat) (Option.some Jvm.ClassFile.FieldType.char), Jvm.Cond.code ({ cls := "java/lang/String", name := "isLatin1", desc := "()Z" } : Jvm.MethodName) jdk_42_method_154_code (1 : Nat) (Option.some Jvm.ClassFile.FieldType.boolean), Jvm.Cond.code ({ cls := "java/lang/StringLatin1", name := "charAt", desc := "([BI)C" } : Jvm.MethodName) jdk_43_method_2_code (2 : Nat) (Option.some Jvm.ClassFile.FieldType.char), Jvm.Cond.code ({ cls := "java/lang/String", name := "checkIndex", desc := "(II)V" } : Jvm.MethodName) jdk_42_method_155_code (2 : Nat) (Option.none : Option Jvm.ClassFile.FieldType), Jvm.Cond.code ({ cls := "com/example/reckoner/reckoner/cli/ReportAddPinLaw", name := "exp", desc := "(Ljava/lang/String;Ljava/lang/String;I)C" } : Jvm.MethodName) method_4_code (4 : Nat) (Option.some Jvm.ClassFile.FieldType.char), Jvm.Cond.code ({ cls := "java/lang/StringUTF16", name := "compress", desc := "([CII)[B" } : Jvm.MethodName) jdk_52_method_16_code (6 : Nat) (Option.some (Jvm.ClassFile.FieldType.array Jvm.ClassFile.FieldType.byte)), Jvm.Cond.code ({ cls := "java/lang/StringUTF16", name := "compress", desc := "([CI[BII)I" } : Jvm.MethodName) jdk_52_method_21_code (7 : Nat) (Option.some Jvm.ClassFile.FieldType.int), Jvm.Cond.code ({ cls := "java/lang/StringUTF16", name := "coderFromArrayLen", desc := "([BI)B" } : Jvm.MethodName) jdk_52_method_15_code (2 : Nat) (Option.some Jvm.ClassFile.FieldType.byte)]
set_option maxRecDepth 65536 in
theorem codes_eq : words1.filter isCode = codes1 := rfl
theorem w_codes : ∀ c ∈ words1.filter isCode, c.before args0 about1 = true := by
  rw [codes_eq]
  intro c hc
  simp only [codes1, List.mem_cons, List.not_mem_nil, or_false] at hc
  rcases hc with rfl | rfl | rfl | rfl | rfl | rfl | rfl | rfl | rfl | rfl | rfl | rfl | rfl | rfl | rfl | rfl | rfl | rfl | rfl | rfl | rfl | rfl | rfl | rfl | rfl | rfl | rfl | rfl | rfl | rfl | rfl | rfl | rfl | rfl | rfl | rfl | rfl | rfl | rfl | rfl | rfl | rfl | rfl | rfl | rfl | rfl | rfl | rfl | rfl | rfl | rfl | rfl | rfl | rfl | rfl | rfl | rfl
  · exact w_c0
  · exact w_c1
  · exact w_c2
  · exact w_c3
  · exact w_c4
  · exact w_c5
  · exact w_c6
  · exact w_c7
  · exact w_c8
  · exact w_c9
  · exact w_c10
  · exact w_c11
  · exact w_c12
  · exact w_c13
  · exact w_c14
  · exact w_c15
  · exact w_c16
  · exact w_c17
  · exact w_c18
  · exact w_c19
  · exact w_c20
  · exact w_c21
  · exact w_c22
  · exact w_c23
  · exact w_c24
  · exact w_c25
  · exact w_c26
  · exact w_c27
  · exact w_c28
  · exact w_c29
  · exact w_c30
  · exact w_c31
  · exact w_c32
  · exact w_c33
  · exact w_c34
  · exact w_c35
  · exact w_c36
  · exact w_c37
  · exact w_c38
  · exact w_c39
  · exact w_c40
  · exact w_c41
  · exact w_c42
  · exact w_c43
  · exact w_c44
  · exact w_c45
  · exact w_c46
  · exact w_c47
  · exact w_c48
  · exact w_c49
  · exact w_c50
  · exact w_c51
  · exact w_c52
  · exact w_c53
  · exact w_c54
  · exact w_c55
  · exact w_c56
set_option maxRecDepth 65536 in
theorem w_t1 : (words1.take 24).all (fun c => isCode c || c.before args0 about1) = true := by decide +kernel
set_option maxRecDepth 65536 in
theorem w_t2 : ((words1.drop 24).take 24).all (fun c => isCode c || c.before args0 about1) = true := by decide +kernel
set_option maxRecDepth 65536 in
theorem w_t3 : (((words1.drop 24).drop 24).take 24).all (fun c => isCode c || c.before args0 about1) = true := by decide +kernel
set_option maxRecDepth 65536 in
theorem w_t4 : ((((words1.drop 24).drop 24).drop 24).take 24).all (fun c => isCode c || c.before args0 about1) = true := by decide +kernel
set_option maxRecDepth 65536 in
theorem w_t5 : (((((words1.drop 24).drop 24).drop 24).drop 24).take 24).all (fun c => isCode c || c.before args0 about1) = true := by decide +kernel
set_option maxRecDepth 65536 in
theorem w_t6 : ((((((words1.drop 24).drop 24).drop 24).drop 24).drop 24).take 24).all (fun c => isCode c || c.before args0 about1) = true := by decide +kernel
set_option maxRecDepth 65536 in
theorem w_t7 : (((((((words1.drop 24).drop 24).drop 24).drop 24).drop 24).drop 24).take 24).all (fun c => isCode c || c.before args0 about1) = true := by decide +kernel
set_option maxRecDepth 65536 in
theorem w_t8 : ((((((((words1.drop 24).drop 24).drop 24).drop 24).drop 24).drop 24).drop 24).take 24).all (fun c => isCode c || c.before args0 about1) = true := by decide +kernel
set_option maxRecDepth 65536 in
theorem w_t9 : (((((((((words1.drop 24).drop 24).drop 24).drop 24).drop 24).drop 24).drop 24).drop 24).take 24).all (fun c => isCode c || c.before args0 about1) = true := by decide +kernel
set_option maxRecDepth 65536 in
theorem w_t10 : ((((((((((words1.drop 24).drop 24).drop 24).drop 24).drop 24).drop 24).drop 24).drop 24).drop 24).take 24).all (fun c => isCode c || c.before args0 about1) = true := by decide +kernel
set_option maxRecDepth 65536 in
theorem w_t11 : (((((((((((words1.drop 24).drop 24).drop 24).drop 24).drop 24).drop 24).drop 24).drop 24).drop 24).drop 24).take 24).all (fun c => isCode c || c.before args0 about1) = true := by decide +kernel
set_option maxRecDepth 65536 in
theorem w_t12 : ((((((((((((words1.drop 24).drop 24).drop 24).drop 24).drop 24).drop 24).drop 24).drop 24).drop 24).drop 24).drop 24).take 24).all (fun c => isCode c || c.before args0 about1) = true := by decide +kernel
set_option maxRecDepth 65536 in
theorem w_t13 : (((((((((((((words1.drop 24).drop 24).drop 24).drop 24).drop 24).drop 24).drop 24).drop 24).drop 24).drop 24).drop 24).drop 24).take 24).all (fun c => isCode c || c.before args0 about1) = true := by decide +kernel
set_option maxRecDepth 65536 in
theorem w_t14 : ((((((((((((((words1.drop 24).drop 24).drop 24).drop 24).drop 24).drop 24).drop 24).drop 24).drop 24).drop 24).drop 24).drop 24).drop 24).take 24).all (fun c => isCode c || c.before args0 about1) = true := by decide +kernel
set_option maxRecDepth 65536 in
theorem w_t15 : ((((((((((((((words1.drop 24).drop 24).drop 24).drop 24).drop 24).drop 24).drop 24).drop 24).drop 24).drop 24).drop 24).drop 24).drop 24).drop 24).all (fun c => isCode c || c.before args0 about1) = true := by decide +kernel
theorem w_tables : (allAtoms (Jvm.Cond.code x code maxLocals ret :: tables_1)).before args0 about1 = true := by
  rw [allAtoms_all]
  show words1.all (fun c => c.before args0 about1) = true
  refine all_split ?_ w_codes
  rw [← List.take_append_drop 24 words1, List.all_append, w_t1, ← List.take_append_drop 24 (words1.drop 24), List.all_append, w_t2, ← List.take_append_drop 24 ((words1.drop 24).drop 24), List.all_append, w_t3, ← List.take_append_drop 24 (((words1.drop 24).drop 24).drop 24), List.all_append, w_t4, ← List.take_append_drop 24 ((((words1.drop 24).drop 24).drop 24).drop 24), List.all_append, w_t5, ← List.take_append_drop 24 (((((words1.drop 24).drop 24).drop 24).drop 24).drop 24), List.all_append, w_t6, ← List.take_append_drop 24 ((((((words1.drop 24).drop 24).drop 24).drop 24).drop 24).drop 24), List.all_append, w_t7, ← List.take_append_drop 24 (((((((words1.drop 24).drop 24).drop 24).drop 24).drop 24).drop 24).drop 24), List.all_append, w_t8, ← List.take_append_drop 24 ((((((((words1.drop 24).drop 24).drop 24).drop 24).drop 24).drop 24).drop 24).drop 24), List.all_append, w_t9, ← List.take_append_drop 24 (((((((((words1.drop 24).drop 24).drop 24).drop 24).drop 24).drop 24).drop 24).drop 24).drop 24), List.all_append, w_t10, ← List.take_append_drop 24 ((((((((((words1.drop 24).drop 24).drop 24).drop 24).drop 24).drop 24).drop 24).drop 24).drop 24).drop 24), List.all_append, w_t11, ← List.take_append_drop 24 (((((((((((words1.drop 24).drop 24).drop 24).drop 24).drop 24).drop 24).drop 24).drop 24).drop 24).drop 24).drop 24), List.all_append, w_t12, ← List.take_append_drop 24 ((((((((((((words1.drop 24).drop 24).drop 24).drop 24).drop 24).drop 24).drop 24).drop 24).drop 24).drop 24).drop 24).drop 24), List.all_append, w_t13, ← List.take_append_drop 24 (((((((((((((words1.drop 24).drop 24).drop 24).drop 24).drop 24).drop 24).drop 24).drop 24).drop 24).drop 24).drop 24).drop 24).drop 24), List.all_append, w_t14, w_t15]
  rfl
set_option maxRecDepth 65536 in
theorem w_rest : rest_1_c.before args0 about1 = true := by decide +kernel
set_option maxRecDepth 65536 in
theorem w_case : (Jvm.Cond.and given_1 narrow_1).before args0 about1 = true := by decide +kernel
set_option maxRecDepth 65536 in
theorem w_consts : constsHeld consts_1 about1 := Jvm.Lit.constsHeldB_iff.mp (by decide +kernel)
theorem w_applies : (headSpec (Jvm.Cond.code x code maxLocals ret :: tables_1) room_1).applies x e0.platform about1 = true :=
  (Spec.applies_iff w_frames).mpr ⟨w_running, w_runnable, w_alone, w_named, w_hears, w_ripe, w_room, w_tables⟩
theorem atStart : AtStart classFile x code maxLocals ret World_1 tables_1 room_1 Calls_1 rest_1 Pre_1 launch0 p0 e0 about1 theMethod args0 below0 :=
  ⟨lists_1, trivial, launch0.admits_env _ _ _, launch0.least_env, fairChoices_fair.cas, fairChoices_fair.clock, w_frames, w_args, w_heap, w_applies, ⟨⟨17, k17, 3, by decide +kernel, rfl, rfl, _, rfl, rfl⟩, ⟨⟨20, k20, 4, by decide +kernel, rfl, rfl, _, rfl, rfl⟩, ⟨⟨21, k21, 5, by decide +kernel, rfl, rfl, _, rfl, rfl⟩, ⟨w_consts, trivial⟩⟩⟩⟩, w_rest, w_case⟩
end start1
theorem witness_1 : WitnessClaimed_1 := ⟨start1.p0, start1.e0, start1.about1, start1.theMethod, start1.args0, start1.below0, start1.atStart⟩
end Jvm.Pilot.@@N@@
