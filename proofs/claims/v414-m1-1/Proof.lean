import JvmDerived
import JvmDerived.Pilot.@@N@@Statement
import JvmDerived.Pilot.@@N@@Code
set_option linter.unusedVariables false
set_option linter.unusedSimpArgs false
/- laws to paste: Road.backV, Road.eqW, Road.codOf (cut by pick.py; bodies as the Statement names them) -/
namespace Jvm.Pilot.@@N@@
namespace StrChars
open Jvm Sem ClassFile Op Lib Jvm.Stand Jvm.Free.XT Jvm.Free.ALB Jvm.Free.JM Jvm.Free
open Jvm.Lib.Cold (StaticIs)
/-- a char array whose places are chars -/
def Ch (a : Addr) (A : Cell) (U : State) : Prop := Arr .char a A U ∧ Typed .char A
theorem Ch.mv {a : Addr} {A : Cell} {U U' : State} (h : Ch a A U) (hal : U.vm.Alike U'.vm) (hh : U'.heap = U.heap) : Ch a A U' := ⟨h.1.mv hal hh, h.2⟩
theorem Ch.keep {a : Addr} {A : Cell} {U U' : State} (h : Ch a A U) (hal : U.vm.Alike U'.vm) (hk : U'.heap[a]? = some A) : Ch a A U' := ⟨h.1.keep hal hk, h.2⟩
/-- what place i of a char[]'s cell holds -/
def cv (A : Cell) (i : Nat) : Int32 := match A.slots[i]? with | some (.int x) => x | _ => 0
theorem Ch.get {a : Addr} {A : Cell} {U : State} (h : Ch a A U) {i : Nat} (hi : i < A.slots.size) : A.slots[i]? = some (.int (cv A i)) := by
  have e := Array.getElem?_eq_getElem hi
  have f := h.2 i _ e
  unfold cv; rw [e]
  generalize A.slots[i] = v at f
  cases v <;> simp [fits] at f ⊢
/-- the byte that i2b leaves of a char -/
def lo8 (x : Int32) : Int32 := x.toInt8.toInt32
theorem fits_lo8 (y : Int32) : fits .byte (.int (lo8 y)) = true := by
  have h1 := y.toInt8.le_toInt
  have h2 := y.toInt8.toInt_lt
  simp only [lo8, fits, Bool.and_eq_true, decide_eq_true_eq, Int32.le_iff_toInt_le, Int8.toInt_toInt32, show (-128 : Int32).toInt = -128 from by decide, show (127 : Int32).toInt = 127 from by decide]
  omega
/-- A' is A but that each place j of lo .. hi - 1 holds f j -/
def Laid (A A' : Cell) (lo hi : Nat) (f : Nat → Value) : Prop := A'.cls = A.cls ∧ A'.vm = A.vm ∧ A'.slots.size = A.slots.size ∧ ∀ i, A'.slots[i]? = if lo ≤ i ∧ i < hi then some (f i) else A.slots[i]?
theorem Laid.zero (A : Cell) (lo : Nat) (f : Nat → Value) : Laid A A lo (lo + 0) f := ⟨rfl, rfl, rfl, fun i => by rw [if_neg (by omega)]⟩
theorem Laid.step {A Ak : Cell} {lo k : Nat} {f : Nat → Value} {v : Value} (h : Laid A Ak lo k f) (hlo : lo ≤ k) (hk : k < Ak.slots.size) (hv : v = f k) : Laid A (Ak.setSlot k v) lo (k + 1) f := by
  refine ⟨h.1, h.2.1, by simpa [Cell.setSlot] using h.2.2.1, fun i => ?_⟩
  by_cases e : k = i
  · subst e; rw [Cell.slots_setSlot_self v hk, if_pos (by omega), hv]
  · rw [Cell.slots_setSlot_ne v e, h.2.2.2 i]
    by_cases q : lo ≤ i ∧ i < k
    · rw [if_pos q, if_pos (by omega)]
    · rw [if_neg q, if_neg (by omega)]
def U16 : String := "java/lang/StringUTF16"
namespace Cmp5
def yN : MethodName := ⟨"java/lang/StringUTF16", "compress", "([CI[BII)I"⟩
abbrev yB : ByteArray := jdk_52_method_21_code
theorem d0 : decode yB 0 = .ok (.iconst 0, 1) := by decide +kernel
theorem d1 : decode yB 1 = .ok (.istore 5, 2) := by decide +kernel
theorem d3 : decode yB 3 = .ok (.iload 5, 2) := by decide +kernel
theorem d5 : decode yB 5 = .ok (.iload 4, 2) := by decide +kernel
theorem d7 : decode yB 7 = .ok (.if_icmp (.ge) 37, 3) := by decide +kernel
theorem d10 : decode yB 10 = .ok (.aload_n 0, 1) := by decide +kernel
theorem d11 : decode yB 11 = .ok (.iload_n 1, 1) := by decide +kernel
theorem d12 : decode yB 12 = .ok (.caload, 1) := by decide +kernel
theorem d13 : decode yB 13 = .ok (.istore 6, 2) := by decide +kernel
theorem d15 : decode yB 15 = .ok (.iload 6, 2) := by decide +kernel
theorem d17 : decode yB 17 = .ok (.sipush 255, 3) := by decide +kernel
theorem d20 : decode yB 20 = .ok (.if_icmp (.le) 6, 3) := by decide +kernel
theorem d26 : decode yB 26 = .ok (.aload_n 2, 1) := by decide +kernel
theorem d27 : decode yB 27 = .ok (.iload_n 3, 1) := by decide +kernel
theorem d28 : decode yB 28 = .ok (.iload 6, 2) := by decide +kernel
theorem d30 : decode yB 30 = .ok (.i2b, 1) := by decide +kernel
theorem d31 : decode yB 31 = .ok (.bastore, 1) := by decide +kernel
theorem d32 : decode yB 32 = .ok (.iinc 1 1, 3) := by decide +kernel
theorem d35 : decode yB 35 = .ok (.iinc 3 1, 3) := by decide +kernel
theorem d38 : decode yB 38 = .ok (.iinc 5 1, 3) := by decide +kernel
theorem d41 : decode yB 41 = .ok (.goto (-38), 3) := by decide +kernel
theorem d44 : decode yB 44 = .ok (.iload 4, 2) := by decide +kernel
theorem d46 : decode yB 46 = .ok (.ireturn, 1) := by decide +kernel
def site : List Cond := []
def tab : Cond := tabOf yN yB 7 (some .int) site
def P (b : Addr) (A : Cell) (d : Addr) (B : Cell) (o q len : Nat) (args : Array Value) (s : State) : Prop := args = #[.ref b, .int (Int32.ofNat o), .ref d, .int (Int32.ofNat q), .int (Int32.ofNat len)] ∧ Ch b A s ∧ Arr .byte d B s ∧ b ≠ d ∧ o + len ≤ A.slots.size ∧ q + len ≤ B.slots.size ∧ ∀ i, i < len → ¬ 255 < cv A (o + i)
def E (b : Addr) (A : Cell) (d : Addr) (B : Cell) (o q len : Nat) (r : Option Value) (s u : State) : Prop := r = some (.int (Int32.ofNat len)) ∧ ∃ B', Put d B' s u ∧ Laid B B' q (q + len) (fun j => Value.int (lo8 (cv A (o + (j - q)))))
/-- no char of the range above 255: len; the places written hold each char's low byte -/
theorem law (l : Launch) (b : Addr) (A : Cell) (d : Addr) (B : Cell) (o q len : Nat) : Law l yN 5 5 0 0 yB 7 (some .int) site (P b A d B o q len) (E b A d B o q len) (copyLocs d q len) 0 0 := by
  refine Law.of_walk (plainFor_of_name (by decide +kernel)) (by decide +kernel) (by decide +kernel) (by decide) (fun _ _ h => by rw [h.1]; rfl) (fun _ U U' hal hh h => ⟨h.1, h.2.1.mv hal hh, h.2.2.1.mv hal hh, h.2.2.2⟩) (fun r U U' V V' h1 hal h2 h => ⟨h.1, h.2.elim fun B' q => ⟨B', q.1.mv h1 h2, q.2⟩⟩) ?_
  intro p e s m args below meth c s₁ X0 hexec hbytes hml hret hlk hnm hown hh0 W hP
  obtain ⟨rfl, hA, hB, hne, l1, l2, hp⟩ := hP
  have c1 : Steps p.tables e below (s₁.setTop (entryFrame m #[.ref b, .int (Int32.ofNat o), .ref d, .int (Int32.ofNat q), .int (Int32.ofNat len)] 7)) (s₁.setTop (mkF m 0 #[.val (.ref b), .val (.int (Int32.ofNat o)), .val (.ref d), .val (.int (Int32.ofNat q)), .val (.int (Int32.ofNat len)), .unset, .unset] [])) := entry rfl
  have hA0 := hA.1.mv X0.warmed.alike hh0
  have hB0 := hB.mv X0.warmed.alike hh0
  have a31 := hA.1.2.2.2
  have c2 : Steps p.tables e below (s₁.setTop (entryFrame m #[.ref b, .int (Int32.ofNat o), .ref d, .int (Int32.ofNat q), .int (Int32.ofNat len)] 7)) (s₁.setTop (mkF m 3 #[.val (.ref b), .val (.int (Int32.ofNat o)), .val (.ref d), .val (.int (Int32.ofNat q)), .val (.int (Int32.ofNat len)), .val (.int 0), .unset] [])) := c1.trans (by
    refine iconstV X0.here hexec rfl 0 (hb hbytes d0) (by decide) ?_
    refine XS.istore X0.here hexec rfl (hb hbytes d1) rfl rfl ?_
    exact Steps.refl _)
  have loop : ∀ (r i : Nat), i + r = len → ∀ (z : Slot), (z = .unset ∨ ∃ w, z = .val w ∧ w.category = 1) → ∀ (Tl : State) (Bk : Cell), Stand p l e { frames := 0, locals := 0, cells := 0, slots := 0 } s m #[.ref b, .int (Int32.ofNat o), .ref d, .int (Int32.ofNat q), .int (Int32.ofNat len)] below meth c Tl ([] ++ copyLocs d q i) 0 0 → Put d Bk s₁ Tl → Laid B Bk q (q + i) (fun j => Value.int (lo8 (cv A (o + (j - q))))) →
      Steps p.tables e below (s₁.setTop (entryFrame m #[.ref b, .int (Int32.ofNat o), .ref d, .int (Int32.ofNat q), .int (Int32.ofNat len)] 7)) (Tl.setTop (mkF m 3 #[.val (.ref b), .val (.int (Int32.ofNat (o + i))), .val (.ref d), .val (.int (Int32.ofNat (q + i))), .val (.int (Int32.ofNat len)), .val (.int (Int32.ofNat i)), z] [])) → ∃ (T' : State) (B' : Cell) (z' : Slot), Stand p l e { frames := 0, locals := 0, cells := 0, slots := 0 } s m #[.ref b, .int (Int32.ofNat o), .ref d, .int (Int32.ofNat q), .int (Int32.ofNat len)] below meth c T' ([] ++ copyLocs d q len) 0 0 ∧ Put d B' s₁ T' ∧ Laid B B' q (q + len) (fun j => Value.int (lo8 (cv A (o + (j - q))))) ∧
      Steps p.tables e below (s₁.setTop (entryFrame m #[.ref b, .int (Int32.ofNat o), .ref d, .int (Int32.ofNat q), .int (Int32.ofNat len)] 7)) (T'.setTop (mkF m 3 #[.val (.ref b), .val (.int (Int32.ofNat (o + len))), .val (.ref d), .val (.int (Int32.ofNat (q + len))), .val (.int (Int32.ofNat len)), .val (.int (Int32.ofNat len)), z'] [])) := by
    intro r
    induction r with
    | zero =>
      intro i hi z hz Tl Bk Xl pl fl cl
      have hil : i = len := by omega
      rw [hil] at Xl fl cl
      exact ⟨Tl, Bk, z, Xl, pl, fl, cl⟩
    | succ r ih =>
      intro i hi z hz Tl Bk Xl pl fl cl
      have all := X0.warmed.alike.symm.trans Xl.warmed.alike
      have hAl := hA0.keep all (pl.other hne hA0.1)
      have hBk := hB0.like all pl.1 fl.1 fl.2.1 fl.2.2.1
      have hlt : q + i < Bk.slots.size := by rw [fl.2.2.1]; omega
      have c3 : Steps p.tables e below (s₁.setTop (entryFrame m #[.ref b, .int (Int32.ofNat o), .ref d, .int (Int32.ofNat q), .int (Int32.ofNat len)] 7)) (Tl.setTop (mkF m 12 #[.val (.ref b), .val (.int (Int32.ofNat (o + i))), .val (.ref d), .val (.int (Int32.ofNat (q + i))), .val (.int (Int32.ofNat len)), .val (.int (Int32.ofNat i)), z] [.int (Int32.ofNat (o + i)), .ref b])) := cl.trans (by
        refine XS.iload Xl.here hexec rfl (hb hbytes d3) rfl ?_
        refine XS.iload Xl.here hexec rfl (hb hbytes d5) rfl ?_
        refine XS.icmpNo Xl.here hexec rfl (hb hbytes d7) rfl (ii_ge_f (lt32 (by omega) (by omega))) ?_
        refine XS.aloadN Xl.here hexec rfl (hb hbytes d10) rfl rfl ?_
        refine XS.iloadN Xl.here hexec rfl (hb hbytes d11) rfl ?_
        exact Steps.refl _)
      have c4 : Steps p.tables e below (s₁.setTop (entryFrame m #[.ref b, .int (Int32.ofNat o), .ref d, .int (Int32.ofNat q), .int (Int32.ofNat len)] 7)) (Tl.setTop (mkF m 13 #[.val (.ref b), .val (.int (Int32.ofNat (o + i))), .val (.ref d), .val (.int (Int32.ofNat (q + i))), .val (.int (Int32.ofNat len)), .val (.int (Int32.ofNat i)), z] [.int (cv A (o + i))])) := c3.trans (by
        refine Xl.aget hexec hAl rfl (hA.get (i := o + i) (by omega)) rfl rfl (hb hbytes d12) ?_
        exact Steps.refl _)
      have c5 : Steps p.tables e below (s₁.setTop (entryFrame m #[.ref b, .int (Int32.ofNat o), .ref d, .int (Int32.ofNat q), .int (Int32.ofNat len)] 7)) (Tl.setTop (mkF m 15 #[.val (.ref b), .val (.int (Int32.ofNat (o + i))), .val (.ref d), .val (.int (Int32.ofNat (q + i))), .val (.int (Int32.ofNat len)), .val (.int (Int32.ofNat i)), .val (.int (cv A (o + i)))] [])) := c4.trans (by
        refine XS.istoreS Xl.here hexec rfl (hb hbytes d13) rfl rfl hz ?_
        exact Steps.refl _)
      have c6 : Steps p.tables e below (s₁.setTop (entryFrame m #[.ref b, .int (Int32.ofNat o), .ref d, .int (Int32.ofNat q), .int (Int32.ofNat len)] 7)) (Tl.setTop (mkF m 31 #[.val (.ref b), .val (.int (Int32.ofNat (o + i))), .val (.ref d), .val (.int (Int32.ofNat (q + i))), .val (.int (Int32.ofNat len)), .val (.int (Int32.ofNat i)), .val (.int (cv A (o + i)))] [.int (lo8 (cv A (o + i))), .int (Int32.ofNat (q + i)), .ref d])) := c5.trans (by
        refine XS.iload Xl.here hexec rfl (hb hbytes d15) rfl ?_
        refine sipushV Xl.here hexec rfl 255 (hb hbytes d17) (by decide) ?_
        refine XS.icmpYes Xl.here hexec rfl (pc0 := 20) rfl (hb hbytes d20) rfl (ii_le_t (hp i (by omega))) (by decide) rfl ?_
        refine XS.aloadN Xl.here hexec rfl (hb hbytes d26) rfl rfl ?_
        refine XS.iloadN Xl.here hexec rfl (hb hbytes d27) rfl ?_
        refine XS.iload Xl.here hexec rfl (hb hbytes d28) rfl ?_
        refine i2b Xl.here hexec rfl (hb hbytes d30) rfl ?_
        exact Steps.refl _)
      obtain ⟨T7, X7, p7, st7⟩ := Xl.aput hexec hBk rfl hlt rfl (fits_lo8 (cv A (o + i))) (g := (mkF m 31 #[.val (.ref b), .val (.int (Int32.ofNat (o + i))), .val (.ref d), .val (.int (Int32.ofNat (q + i))), .val (.int (Int32.ofNat len)), .val (.int (Int32.ofNat i)), .val (.int (cv A (o + i)))] [.int (lo8 (cv A (o + i))), .int (Int32.ofNat (q + i)), .ref d])) rfl (rest := []) rfl (hb hbytes d31)
      have c8 : Steps p.tables e below (s₁.setTop (entryFrame m #[.ref b, .int (Int32.ofNat o), .ref d, .int (Int32.ofNat q), .int (Int32.ofNat len)] 7)) (T7.setTop (mkF m 32 #[.val (.ref b), .val (.int (Int32.ofNat (o + i))), .val (.ref d), .val (.int (Int32.ofNat (q + i))), .val (.int (Int32.ofNat len)), .val (.int (Int32.ofNat i)), .val (.int (cv A (o + i)))] [])) := c6.trans (st7 _ (Steps.refl _))
      have c9 : Steps p.tables e below (s₁.setTop (entryFrame m #[.ref b, .int (Int32.ofNat o), .ref d, .int (Int32.ofNat q), .int (Int32.ofNat len)] 7)) (T7.setTop (mkF m 3 #[.val (.ref b), .val (.int (Int32.ofNat (o + i) + 1)), .val (.ref d), .val (.int (Int32.ofNat (q + i) + 1)), .val (.int (Int32.ofNat len)), .val (.int (Int32.ofNat i + 1)), .val (.int (cv A (o + i)))] [])) := c8.trans (by
        refine iincV X7.here hexec rfl 1 (hb hbytes d32) (by decide) rfl rfl ?_
        refine iincV X7.here hexec rfl 1 (hb hbytes d35) (by decide) rfl rfl ?_
        refine iincV X7.here hexec rfl 1 (hb hbytes d38) (by decide) rfl rfl ?_
        refine XS.goto X7.here hexec rfl (pc0 := 41) rfl (hb hbytes d41) (by decide) rfl ?_
        exact Steps.refl _)
      have c10 : Steps p.tables e below (s₁.setTop (entryFrame m #[.ref b, .int (Int32.ofNat o), .ref d, .int (Int32.ofNat q), .int (Int32.ofNat len)] 7)) (T7.setTop (mkF m 3 #[.val (.ref b), .val (.int (Int32.ofNat (o + (i + 1)))), .val (.ref d), .val (.int (Int32.ofNat (q + (i + 1)))), .val (.int (Int32.ofNat len)), .val (.int (Int32.ofNat (i + 1))), .val (.int (cv A (o + i)))] [])) := by
        have := c9
        rw [succ32, succ32, succ32] at this
        exact this
      exact ih (i + 1) (by omega) _ (Or.inr ⟨_, rfl, rfl⟩) T7 _ (by rw [copyLocs_step, ← List.append_assoc]; exact X7) (pl.trans p7) (fl.step (by omega) hlt (by simp)) c10
  obtain ⟨T9, B9, z9, X9, p9, f9, g9⟩ := loop len 0 (by omega) .unset (Or.inl rfl) s₁ B (by simpa [copyLocs] using X0) ⟨hB0.1, fun _ _ => rfl, rfl⟩ (Laid.zero _ _ _) c2
  have c11 : Steps p.tables e below (s₁.setTop (entryFrame m #[.ref b, .int (Int32.ofNat o), .ref d, .int (Int32.ofNat q), .int (Int32.ofNat len)] 7)) (T9.setTop (mkF m 46 #[.val (.ref b), .val (.int (Int32.ofNat (o + len))), .val (.ref d), .val (.int (Int32.ofNat (q + len))), .val (.int (Int32.ofNat len)), .val (.int (Int32.ofNat len)), z9] [.int (Int32.ofNat len)])) := g9.trans (by
    refine XS.iload X9.here hexec rfl (hb hbytes d3) rfl ?_
    refine XS.iload X9.here hexec rfl (hb hbytes d5) rfl ?_
    refine XS.icmpYes X9.here hexec rfl (pc0 := 7) rfl (hb hbytes d7) rfl (ii_ge_t (nlt32 (by omega) (Nat.le_refl _))) (by decide) rfl ?_
    refine XS.iload X9.here hexec rfl (hb hbytes d44) rfl ?_
    exact Steps.refl _)
  exact ⟨T9, some (.int (Int32.ofNat len)), _, _, _, X9, by simp, rfl, rfl, (fun h => by cases h), ⟨rfl, B9, p9.from hh0, f9⟩, fun fs hl => c11.trans (X9.ireturnOut hexec hret rfl (Or.inl rfl) (hb hbytes d46) hl)⟩
end Cmp5
namespace Cmp3
def yN : MethodName := ⟨"java/lang/StringUTF16", "compress", "([CII)[B"⟩
abbrev yB : ByteArray := jdk_52_method_16_code
theorem d0 : decode yB 0 = .ok (.iload_n 2, 1) := by decide +kernel
theorem d1 : decode yB 1 = .ok (.newarray .byte, 2) := by decide +kernel
theorem d3 : decode yB 3 = .ok (.astore_n 3, 1) := by decide +kernel
theorem d4 : decode yB 4 = .ok (.aload_n 0, 1) := by decide +kernel
theorem d5 : decode yB 5 = .ok (.iload_n 1, 1) := by decide +kernel
theorem d6 : decode yB 6 = .ok (.aload_n 3, 1) := by decide +kernel
theorem d7 : decode yB 7 = .ok (.iconst 0, 1) := by decide +kernel
theorem d8 : decode yB 8 = .ok (.iload_n 2, 1) := by decide +kernel
theorem d9 : decode yB 9 = .ok (.invokestatic 115, 3) := by decide +kernel
theorem d12 : decode yB 12 = .ok (.istore 4, 2) := by decide +kernel
theorem d14 : decode yB 14 = .ok (.iload 4, 2) := by decide +kernel
theorem d16 : decode yB 16 = .ok (.iload_n 2, 1) := by decide +kernel
theorem d17 : decode yB 17 = .ok (.if_icmp (.eq) 40, 3) := by decide +kernel
theorem d57 : decode yB 57 = .ok (.aload_n 3, 1) := by decide +kernel
theorem d58 : decode yB 58 = .ok (.areturn, 1) := by decide +kernel
def site : List Cond := [.arrayClass .byte, Cmp5.tab] ++ staticW U16 115 Cmp5.yN
def tab : Cond := tabOf yN yB 6 (some (.array .byte)) site
def P (b : Addr) (A : Cell) (o len : Nat) (args : Array Value) (s : State) : Prop := args = #[.ref b, .int (Int32.ofNat o), .int (Int32.ofNat len)] ∧ Ch b A s ∧ o + len ≤ A.slots.size ∧ len ≤ 536870912 ∧ ∀ i, i < len → ¬ 255 < cv A (o + i)
def E (b : Addr) (A : Cell) (o len : Nat) (r : Option Value) (s u : State) : Prop := NewArr .byte "[B" len (fun j => .int (lo8 (cv A (o + j)))) r s u ∧ u.heap.size = s.heap.size + 1
/-- no char of the range above 255: a new byte[] of their low bytes -/
theorem law (l : Launch) (b : Addr) (A : Cell) (o len : Nat) : Law l yN 3 3 1 18 yB 6 (some (.array .byte)) site (P b A o len) (E b A o len) [] 1 len := by
  refine Law.of_walk (plainFor_of_name (by decide +kernel)) (by decide +kernel) (by decide +kernel) (by decide) (fun _ _ h => by rw [h.1]; rfl) (fun _ U U' hal hh h => ⟨h.1, h.2.1.mv hal hh, h.2.2⟩) (fun r U U' V V' h1 hal h2 h => ⟨NewArr.mv r U U' V V' h1 hal h2 h.1, by rw [h1, h2]; exact h.2⟩) ?_
  intro p e s m args below meth c s₁ X0 hexec hbytes hml hret hlk hnm hown hh0 W hP
  obtain ⟨rfl, hA, l1, l2, hp⟩ := hP
  have a31 := hA.1.2.2.2
  have c1 : Steps p.tables e below (s₁.setTop (entryFrame m #[.ref b, .int (Int32.ofNat o), .int (Int32.ofNat len)] 6)) (s₁.setTop (mkF m 0 #[.val (.ref b), .val (.int (Int32.ofNat o)), .val (.int (Int32.ofNat len)), .unset, .unset, .unset] [])) := entry rfl
  have c2 : Steps p.tables e below (s₁.setTop (entryFrame m #[.ref b, .int (Int32.ofNat o), .int (Int32.ofNat len)] 6)) (s₁.setTop (mkF m 1 #[.val (.ref b), .val (.int (Int32.ofNat o)), .val (.int (Int32.ofNat len)), .unset, .unset, .unset] [.int (Int32.ofNat len)])) := c1.trans (by
    refine XS.iloadN X0.here hexec rfl (hb hbytes d0) rfl ?_
    exact Steps.refl _)
  obtain ⟨T3, B3, X3, ba3, bs3, bv3, bh3, bf3, st3⟩ := X0.anew hexec (atype := .byte) (wk W (.arrayClass .byte)) rfl (by show len * 1 ≤ _; omega) (by omega) (g := (mkF m 1 #[.val (.ref b), .val (.int (Int32.ofNat o)), .val (.int (Int32.ofNat len)), .unset, .unset, .unset] [.int (Int32.ofNat len)])) rfl (hb hbytes d1) (rest := []) rfl (Nat.le_refl _) (by show 0 + len ≤ len; omega)
  rw [hh0] at ba3 st3
  have kp3 : XT.Kept s T3 := (XT.Kept.of_eq hh0).push bh3
  have hA3 := hA.keep X3.warmed.alike (kp3 _ _ hA.1.1)
  have hne : b ≠ s.heap.size := hA.1.ne
  have c4 : Steps p.tables e below (s₁.setTop (entryFrame m #[.ref b, .int (Int32.ofNat o), .int (Int32.ofNat len)] 6)) (T3.setTop (mkF m 3 #[.val (.ref b), .val (.int (Int32.ofNat o)), .val (.int (Int32.ofNat len)), .unset, .unset, .unset] [.ref s.heap.size])) := c2.trans (st3 _ (Steps.refl _))
  have c5 : Steps p.tables e below (s₁.setTop (entryFrame m #[.ref b, .int (Int32.ofNat o), .int (Int32.ofNat len)] 6)) (T3.setTop (mkF m 9 #[.val (.ref b), .val (.int (Int32.ofNat o)), .val (.int (Int32.ofNat len)), .val (.ref s.heap.size), .unset, .unset] [.int (Int32.ofNat len), .int 0, .ref s.heap.size, .int (Int32.ofNat o), .ref b])) := c4.trans (by
    refine XS.astoreN X3.here hexec rfl (hb hbytes d3) rfl rfl rfl ?_
    refine XS.aloadN X3.here hexec rfl (hb hbytes d4) rfl rfl ?_
    refine XS.iloadN X3.here hexec rfl (hb hbytes d5) rfl ?_
    refine XS.aloadN X3.here hexec rfl (hb hbytes d6) rfl rfl ?_
    refine iconstV X3.here hexec rfl 0 (hb hbytes d7) (by decide) ?_
    refine XS.iloadN X3.here hexec rfl (hb hbytes d8) rfl ?_
    exact Steps.refl _)
  obtain ⟨v6, T6, X6, E6, g6⟩ := X3.callS hexec (Cmp5.law l b A s.heap.size B3 o 0 len) hown (wks W (staticW U16 115 Cmp5.yN)) (wk W Cmp5.tab) (W := 0) (Nat.le_of_ble_eq_true rfl) (Nat.le_of_ble_eq_true rfl) (Nat.le_refl _) (by show 0 + len + 0 ≤ len; omega) (g := (mkF m 9 #[.val (.ref b), .val (.int (Int32.ofNat o)), .val (.int (Int32.ofNat len)), .val (.ref s.heap.size), .unset, .unset] [.int (Int32.ofNat len), .int (Int32.ofNat 0), .ref s.heap.size, .int (Int32.ofNat o), .ref b])) rfl (by rw [hml]; rfl) c5 (argsL := [.ref b, .int (Int32.ofNat o), .ref s.heap.size, .int (Int32.ofNat 0), .int (Int32.ofNat len)]) (rest := []) rfl rfl (by show 2 * 0 + 0 ≤ _; decide) (hb hbytes d9) (⟨rfl, hA3, ba3, hne, l1, by rw [bs3]; simp, hp⟩)
  obtain ⟨rfl, B6, p6, f6⟩ := E6
  have c7 : Steps p.tables e below (s₁.setTop (entryFrame m #[.ref b, .int (Int32.ofNat o), .int (Int32.ofNat len)] 6)) (T6.setTop (mkF m 12 #[.val (.ref b), .val (.int (Int32.ofNat o)), .val (.int (Int32.ofNat len)), .val (.ref s.heap.size), .unset, .unset] [.int (Int32.ofNat len)])) := g6
  have c8 : Steps p.tables e below (s₁.setTop (entryFrame m #[.ref b, .int (Int32.ofNat o), .int (Int32.ofNat len)] 6)) (T6.setTop (mkF m 58 #[.val (.ref b), .val (.int (Int32.ofNat o)), .val (.int (Int32.ofNat len)), .val (.ref s.heap.size), .val (.int (Int32.ofNat len)), .unset] [.ref s.heap.size])) := c7.trans (by
    refine XS.istore X6.here hexec rfl (hb hbytes d12) rfl rfl ?_
    refine XS.iload X6.here hexec rfl (hb hbytes d14) rfl ?_
    refine XS.iloadN X6.here hexec rfl (hb hbytes d16) rfl ?_
    refine XS.icmpYes X6.here hexec rfl (pc0 := 17) rfl (hb hbytes d17) rfl (ii_eq_t rfl) (by decide) rfl ?_
    refine XS.aloadN X6.here hexec rfl (hb hbytes d57) rfl rfl ?_
    exact Steps.refl _)
  have X8 := X6.wide (L' := []) (cells' := 1) (slots' := len) (fun x hx hlt => by
    simp only [List.nil_append, copyLocs, List.mem_map, List.mem_range] at hx
    obtain ⟨i, -, rfl⟩ := hx
    exact absurd hlt (Nat.lt_irrefl _)) (Nat.le_refl _) (by omega)
  exact ⟨T6, some (.ref s.heap.size), _, _, _, X8, rfl, rfl, rfl, (fun h => by cases h), ⟨⟨rfl, B6, ba3.like (X3.warmed.alike.symm.trans X6.warmed.alike) p6.1 f6.1 f6.2.1 f6.2.2.1, f6.2.1.trans bv3, by rw [X6.warmed.alike.findClass, f6.1]; exact bf3, by rw [f6.2.2.1, bs3]; simp, fun j hj => by rw [f6.2.2.2 j, if_pos (by omega)]; rfl, kp3.put p6 (Nat.le_refl _)⟩, by rw [p6.2.2, bh3, hh0]; simp⟩, fun fs hl => c8.trans (X8.areturnOut hexec rfl hret rfl (hb hbytes d58) hl)⟩
end Cmp3
namespace CodL
def yN : MethodName := ⟨"java/lang/StringUTF16", "coderFromArrayLen", "([BI)B"⟩
abbrev yB : ByteArray := jdk_52_method_15_code
theorem d0 : decode yB 0 = .ok (.iload_n 1, 1) := by decide +kernel
theorem d1 : decode yB 1 = .ok (.aload_n 0, 1) := by decide +kernel
theorem d2 : decode yB 2 = .ok (.arraylength, 1) := by decide +kernel
theorem d3 : decode yB 3 = .ok (.isub, 1) := by decide +kernel
theorem d4 : decode yB 4 = .ok (.bipush 31, 2) := by decide +kernel
theorem d6 : decode yB 6 = .ok (.iushr, 1) := by decide +kernel
theorem d7 : decode yB 7 = .ok (.i2b, 1) := by decide +kernel
theorem d8 : decode yB 8 = .ok (.ireturn, 1) := by decide +kernel
def site : List Cond := []
def tab : Cond := tabOf yN yB 2 (some .byte) site
def P (d : Addr) (B : Cell) (args : Array Value) (s : State) : Prop := args = #[.ref d, .int (Int32.ofNat B.slots.size)] ∧ Arr .byte d B s
def E (r : Option Value) (s u : State) : Prop := XT.PureE (some (.int 0)) r s u
/-- an array as long as the number of chars: LATIN1 -/
theorem law (l : Launch) (d : Addr) (B : Cell) : Law l yN 2 2 0 0 yB 2 (some .byte) site (P d B) E [] 0 0 := by
  refine Law.of_walk (plainFor_of_name (by decide +kernel)) (by decide +kernel) (by decide +kernel) (by decide) (fun _ _ h => by rw [h.1]; rfl) (fun _ U U' hal hh h => ⟨h.1, h.2.mv hal hh⟩) (fun r U U' V V' h1 hal h2 h => XT.PureE.mv r U U' V V' h1 hal h2 h) ?_
  intro p e s m args below meth c s₁ X0 hexec hbytes hml hret hlk hnm hown hh0 W hP
  obtain ⟨rfl, hB⟩ := hP
  have hB0 := hB.mv X0.warmed.alike hh0
  have c1 : Steps p.tables e below (s₁.setTop (entryFrame m #[.ref d, .int (Int32.ofNat B.slots.size)] 2)) (s₁.setTop (mkF m 0 #[.val (.ref d), .val (.int (Int32.ofNat B.slots.size))] [])) := entry rfl
  have c2 : Steps p.tables e below (s₁.setTop (entryFrame m #[.ref d, .int (Int32.ofNat B.slots.size)] 2)) (s₁.setTop (mkF m 2 #[.val (.ref d), .val (.int (Int32.ofNat B.slots.size))] [.ref d, .int (Int32.ofNat B.slots.size)])) := c1.trans (by
    refine XS.iloadN X0.here hexec rfl (hb hbytes d0) rfl ?_
    refine XS.aloadN X0.here hexec rfl (hb hbytes d1) rfl rfl ?_
    exact Steps.refl _)
  have c3 : Steps p.tables e below (s₁.setTop (entryFrame m #[.ref d, .int (Int32.ofNat B.slots.size)] 2)) (s₁.setTop (mkF m 8 #[.val (.ref d), .val (.int (Int32.ofNat B.slots.size))] [.int (lo8 (ushr (Int32.ofNat B.slots.size - Int32.ofNat B.slots.size) 31))])) := c2.trans (by
    refine X0.alen hexec hB0 rfl rfl (hb hbytes d2) ?_
    refine XS.isub X0.here hexec rfl (hb hbytes d3) rfl ?_
    refine bipushV X0.here hexec rfl 31 (hb hbytes d4) (by decide) ?_
    refine iushr X0.here hexec rfl (hb hbytes d6) rfl ?_
    refine i2b X0.here hexec rfl (hb hbytes d7) rfl ?_
    exact Steps.refl _)
  have e0 : lo8 (ushr (Int32.ofNat B.slots.size - Int32.ofNat B.slots.size) 31) = 0 := by rw [Int32.sub_self]; decide
  rw [e0] at c3
  exact ⟨s₁, some (.int 0), _, _, _, X0, rfl, rfl, rfl, (fun h => by cases h), ⟨rfl, hh0⟩, fun fs hl => c3.trans (X0.ireturnOut hexec hret rfl (Or.inr (Or.inr (Or.inl rfl))) (hb hbytes d8) hl)⟩
end CodL
/-- the String at a is Latin-1 over a new byte[] (the heap's one new cell): the low bytes of the len chars of A from o on; every cell but a is kept -/
def Got (a : Addr) (D : Cell) (fV fC : Field) (A : Cell) (o len : Nat) (r : Option Value) (s u : State) : Prop := r = none ∧ ∃ D' V : Cell, Blank "java/lang/String" a D' u ∧ Same D D' [fV.slot, fC.slot] ∧ D'.slots[fV.slot]? = some (.ref s.heap.size) ∧ D'.slots[fC.slot]? = some (.int 0) ∧ Arr .byte s.heap.size V u ∧ V.vm = .none ∧ u.vm.findClass "[B" = some V.cls ∧ V.slots.size = len ∧ (∀ j, j < len → V.slots[j]? = some (.int (lo8 (cv A (o + j))))) ∧ (∀ (y : Addr) (c : Cell), y ≠ a → s.heap[y]? = some c → u.heap[y]? = some c) ∧ u.heap.size = s.heap.size + 1
theorem Got.mv {a : Addr} {D A : Cell} {fV fC : Field} {o len : Nat} : ∀ r (U U' V V' : State), U'.heap = U.heap → V.vm.Alike V'.vm → V'.heap = V.heap → Got a D fV fC A o len r U V → Got a D fV fC A o len r U' V' :=
  fun r U U' V V' h1 hal h2 ⟨e0, D', X, a1, a2, a3, a4, a5, a6, a7, a8, a9, a10, a11⟩ => ⟨e0, D', X, a1.mv hal h2, a2, by rw [h1]; exact a3, a4, by rw [h1]; exact a5.mv hal h2, a6, by rw [hal.findClass]; exact a7, a8, a9, by rw [h1, h2]; exact a10, by rw [h1, h2]; exact a11⟩
namespace New4
def yN : MethodName := ⟨"java/lang/String", "<init>", "([CIILjava/lang/Void;)V"⟩
abbrev yB : ByteArray := jdk_42_method_149_code
theorem d0 : decode yB 0 = .ok (.aload_n 0, 1) := by decide +kernel
theorem d1 : decode yB 1 = .ok (.invokespecial 1, 3) := by decide +kernel
theorem d4 : decode yB 4 = .ok (.iload_n 3, 1) := by decide +kernel
theorem d5 : decode yB 5 = .ok (.ifCond (.ne) 22, 3) := by decide +kernel
theorem d27 : decode yB 27 = .ok (.getstatic 38, 3) := by decide +kernel
theorem d30 : decode yB 30 = .ok (.ifCond (.eq) 28, 3) := by decide +kernel
theorem d33 : decode yB 33 = .ok (.aload_n 1, 1) := by decide +kernel
theorem d34 : decode yB 34 = .ok (.iload_n 2, 1) := by decide +kernel
theorem d35 : decode yB 35 = .ok (.iload_n 3, 1) := by decide +kernel
theorem d36 : decode yB 36 = .ok (.invokestatic 177, 3) := by decide +kernel
theorem d39 : decode yB 39 = .ok (.astore 5, 2) := by decide +kernel
theorem d41 : decode yB 41 = .ok (.aload_n 0, 1) := by decide +kernel
theorem d42 : decode yB 42 = .ok (.aload 5, 2) := by decide +kernel
theorem d44 : decode yB 44 = .ok (.iload_n 3, 1) := by decide +kernel
theorem d45 : decode yB 45 = .ok (.invokestatic 47, 3) := by decide +kernel
theorem d48 : decode yB 48 = .ok (.putfield 15, 3) := by decide +kernel
theorem d51 : decode yB 51 = .ok (.aload_n 0, 1) := by decide +kernel
theorem d52 : decode yB 52 = .ok (.aload 5, 2) := by decide +kernel
theorem d54 : decode yB 54 = .ok (.putfield 9, 3) := by decide +kernel
theorem d57 : decode yB 57 = .ok (.return_, 1) := by decide +kernel
def site : List Cond := [.fieldLink "java/lang/String" 38 "java/lang/String" "COMPACT_STRINGS" "Z", Cmp3.tab, CodL.tab, .laysFinal "java/lang/String" "java/lang/String" "value" "[B", .fieldLink "java/lang/String" 9 "java/lang/String" "value" "[B", .laysFinal "java/lang/String" "java/lang/String" "coder" "B", .fieldLink "java/lang/String" 15 "java/lang/String" "coder" "B"] ++ objW "java/lang/String" 1 ++ staticW "java/lang/String" 177 Cmp3.yN ++ staticW "java/lang/String" 47 CodL.yN
def tab : Cond := tabOf yN yB 6 none site
def P (a : Addr) (D : Cell) (fV fC : Field) (b : Addr) (A : Cell) (z : Int32) (o len : Nat) (args : Array Value) (s : State) : Prop := args = #[.ref a, .ref b, .int (Int32.ofNat o), .int (Int32.ofNat len), .null] ∧ Blank "java/lang/String" a D s ∧ Found "java/lang/String" "value" "[B" fV s ∧ Found "java/lang/String" "coder" "B" fC s ∧ Ch b A s ∧ StaticIs s "java/lang/String" "COMPACT_STRINGS" "Z" (.int z) ∧ ¬ z = 0 ∧ 0 < len ∧ o + len ≤ A.slots.size ∧ len ≤ 536870912 ∧ ∀ i, i < len → ¬ 255 < cv A (o + i)
def E (a : Addr) (D : Cell) (fV fC : Field) (A : Cell) (o len : Nat) (r : Option Value) (s u : State) : Prop := Got a D fV fC A o len r s u
/-- len > 0, no char of the range above 255: a Latin-1 String of their low bytes -/
theorem law (l : Launch) (a : Addr) (D : Cell) (fV fC : Field) (b : Addr) (A : Cell) (z : Int32) (o len : Nat) : Law l yN 5 4 2 35 yB 6 none site (P a D fV fC b A z o len) (E a D fV fC A o len) [⟨a, fC.slot⟩, ⟨a, fV.slot⟩] 1 len := by
  refine Law.of_walk (plainFor_of_name (by decide +kernel)) (by decide +kernel) (by decide +kernel) (by decide) (fun _ _ h => by rw [h.1]; rfl) (fun _ U U' hal hh h => ⟨h.1, h.2.1.mv hal hh, h.2.2.1.al hal, h.2.2.2.1.al hal, h.2.2.2.2.1.mv hal hh, h.2.2.2.2.2.1.there hal hh, h.2.2.2.2.2.2⟩) (fun r U U' V V' h1 hal h2 h => Got.mv r U U' V V' h1 hal h2 h) ?_
  intro p e s m args below meth c s₁ X0 hexec hbytes hml hret hlk hnm hown hh0 W hP
  obtain ⟨rfl, hB, f1, f2, hA, s1, hz, l0, l1, l2, hp⟩ := hP
  have a31 := hA.1.2.2.2
  have c1 : Steps p.tables e below (s₁.setTop (entryFrame m #[.ref a, .ref b, .int (Int32.ofNat o), .int (Int32.ofNat len), .null] 6)) (s₁.setTop (mkF m 0 #[.val (.ref a), .val (.ref b), .val (.int (Int32.ofNat o)), .val (.int (Int32.ofNat len)), .val .null, .unset] [])) := entry rfl
  have c2 : Steps p.tables e below (s₁.setTop (entryFrame m #[.ref a, .ref b, .int (Int32.ofNat o), .int (Int32.ofNat len), .null] 6)) (s₁.setTop (mkF m 1 #[.val (.ref a), .val (.ref b), .val (.int (Int32.ofNat o)), .val (.int (Int32.ofNat len)), .val .null, .unset] [.ref a])) := c1.trans (by
    refine XS.aloadN X0.here hexec rfl (hb hbytes d0) rfl rfl ?_
    exact Steps.refl _)
  obtain ⟨T3, X3, q3, st3⟩ := X0.oinit hexec hown (wks W (objW "java/lang/String" 1)) (g := (mkF m 1 #[.val (.ref a), .val (.ref b), .val (.int (Int32.ofNat o)), .val (.int (Int32.ofNat len)), .val .null, .unset] [.ref a])) rfl (by rw [hml]; rfl) (rest := []) rfl (hb hbytes d1) (W := 0) (by show 2 * 0 + 0 ≤ _; decide) (Nat.le_of_ble_eq_true rfl) (Nat.le_of_ble_eq_true rfl)
  have hh3 := q3.trans hh0
  have c4 : Steps p.tables e below (s₁.setTop (entryFrame m #[.ref a, .ref b, .int (Int32.ofNat o), .int (Int32.ofNat len), .null] 6)) (T3.setTop (mkF m 27 #[.val (.ref a), .val (.ref b), .val (.int (Int32.ofNat o)), .val (.int (Int32.ofNat len)), .val .null, .unset] [])) := (c2.trans (st3 _ (Steps.refl _))).trans (by
    refine XS.iloadN X3.here hexec rfl (hb hbytes d4) rfl ?_
    refine XS.ifYes X3.here hexec rfl (pc0 := 5) rfl (hb hbytes d5) rfl (i0_ne_t (nz32 (by omega) l0)) (by decide) rfl ?_
    exact Steps.refl _)
  obtain ⟨T5, X5, q5, st5⟩ := X3.sget hexec hown (wk W (.fieldLink "java/lang/String" 38 "java/lang/String" "COMPACT_STRINGS" "Z")) s1 (fun _ _ h => by rw [hh3]; exact h) (g := (mkF m 27 #[.val (.ref a), .val (.ref b), .val (.int (Int32.ofNat o)), .val (.int (Int32.ofNat len)), .val .null, .unset] [])) rfl (hb hbytes d27)
  have hh5 := q5.trans hh3
  have c6 : Steps p.tables e below (s₁.setTop (entryFrame m #[.ref a, .ref b, .int (Int32.ofNat o), .int (Int32.ofNat len), .null] 6)) (T5.setTop (mkF m 30 #[.val (.ref a), .val (.ref b), .val (.int (Int32.ofNat o)), .val (.int (Int32.ofNat len)), .val .null, .unset] [.int z])) := c4.trans (st5 _ (Steps.refl _))
  have c7 : Steps p.tables e below (s₁.setTop (entryFrame m #[.ref a, .ref b, .int (Int32.ofNat o), .int (Int32.ofNat len), .null] 6)) (T5.setTop (mkF m 36 #[.val (.ref a), .val (.ref b), .val (.int (Int32.ofNat o)), .val (.int (Int32.ofNat len)), .val .null, .unset] [.int (Int32.ofNat len), .int (Int32.ofNat o), .ref b])) := c6.trans (by
    refine XS.ifNo X5.here hexec rfl (hb hbytes d30) rfl (i0_eq_f hz) ?_
    refine XS.aloadN X5.here hexec rfl (hb hbytes d33) rfl rfl ?_
    refine XS.iloadN X5.here hexec rfl (hb hbytes d34) rfl ?_
    refine XS.iloadN X5.here hexec rfl (hb hbytes d35) rfl ?_
    exact Steps.refl _)
  obtain ⟨v8, T8, X8, E8, g8⟩ := X5.callS hexec (Cmp3.law l b A o len) hown (wks W (staticW "java/lang/String" 177 Cmp3.yN)) (wk W Cmp3.tab) (W := 0) (Nat.le_of_ble_eq_true rfl) (Nat.le_of_ble_eq_true rfl) (Nat.le_refl _) (by show 0 + len ≤ len; omega) (g := (mkF m 36 #[.val (.ref a), .val (.ref b), .val (.int (Int32.ofNat o)), .val (.int (Int32.ofNat len)), .val .null, .unset] [.int (Int32.ofNat len), .int (Int32.ofNat o), .ref b])) rfl (by rw [hml]; rfl) c7 (argsL := [.ref b, .int (Int32.ofNat o), .int (Int32.ofNat len)]) (rest := []) rfl rfl (by show 2 * 0 + 0 ≤ _; decide) (hb hbytes d36) (⟨rfl, hA.mv X5.warmed.alike hh5, l1, l2, hp⟩)
  obtain ⟨e8, z8⟩ := E8
  obtain ⟨rfl, N, n1, n2, n3, n4, n5, n6⟩ := NewArr.mv _ T5 s _ _ hh5.symm (Vm.Alike.refl _) rfl e8
  rw [hh5] at z8
  have hB1 := hB.keep X8.warmed.alike (n6 _ _ hB.1)
  have hne : s.heap.size ≠ a := (Nat.ne_of_lt (Array.getElem?_eq_some_iff.mp hB.1).1).symm
  have c9 : Steps p.tables e below (s₁.setTop (entryFrame m #[.ref a, .ref b, .int (Int32.ofNat o), .int (Int32.ofNat len), .null] 6)) (T8.setTop (mkF m 39 #[.val (.ref a), .val (.ref b), .val (.int (Int32.ofNat o)), .val (.int (Int32.ofNat len)), .val .null, .unset] [.ref s.heap.size])) := g8
  have c10 : Steps p.tables e below (s₁.setTop (entryFrame m #[.ref a, .ref b, .int (Int32.ofNat o), .int (Int32.ofNat len), .null] 6)) (T8.setTop (mkF m 45 #[.val (.ref a), .val (.ref b), .val (.int (Int32.ofNat o)), .val (.int (Int32.ofNat len)), .val .null, .val (.ref s.heap.size)] [.int (Int32.ofNat N.slots.size), .ref s.heap.size, .ref a])) := by
    have hc : Steps p.tables e below (s₁.setTop (entryFrame m #[.ref a, .ref b, .int (Int32.ofNat o), .int (Int32.ofNat len), .null] 6)) (T8.setTop (mkF m 45 #[.val (.ref a), .val (.ref b), .val (.int (Int32.ofNat o)), .val (.int (Int32.ofNat len)), .val .null, .val (.ref s.heap.size)] [.int (Int32.ofNat len), .ref s.heap.size, .ref a])) := c9.trans (by
      refine XS.astore X8.here hexec rfl (hb hbytes d39) rfl rfl rfl ?_
      refine XS.aloadN X8.here hexec rfl (hb hbytes d41) rfl rfl ?_
      refine XS.aload X8.here hexec rfl (hb hbytes d42) rfl rfl ?_
      refine XS.iloadN X8.here hexec rfl (hb hbytes d44) rfl ?_
      exact Steps.refl _)
    rw [n4]; exact hc
  obtain ⟨v11, T11, X11, E11, g11⟩ := X8.callS hexec (CodL.law l s.heap.size N) hown (wks W (staticW "java/lang/String" 47 CodL.yN)) (wk W CodL.tab) (W := 1) (Nat.le_of_ble_eq_true rfl) (Nat.le_of_ble_eq_true rfl) (Nat.le_refl _) (by show 0 + len + 0 ≤ len; omega) (g := (mkF m 45 #[.val (.ref a), .val (.ref b), .val (.int (Int32.ofNat o)), .val (.int (Int32.ofNat len)), .val .null, .val (.ref s.heap.size)] [.int (Int32.ofNat N.slots.size), .ref s.heap.size, .ref a])) rfl (by rw [hml]; rfl) c10 (argsL := [.ref s.heap.size, .int (Int32.ofNat N.slots.size)]) (rest := [.ref a]) rfl rfl (by show 2 * 0 + (1 + 0) ≤ _; decide) (hb hbytes d45) (⟨rfl, n1⟩)
  obtain ⟨rfl, q11⟩ := E11
  have hB11 := hB1.mv (X8.warmed.alike.symm.trans X11.warmed.alike) q11
  have c12 : Steps p.tables e below (s₁.setTop (entryFrame m #[.ref a, .ref b, .int (Int32.ofNat o), .int (Int32.ofNat len), .null] 6)) (T11.setTop (mkF m 48 #[.val (.ref a), .val (.ref b), .val (.int (Int32.ofNat o)), .val (.int (Int32.ofNat len)), .val .null, .val (.ref s.heap.size)] [.int 0, .ref a])) := g11
  obtain ⟨T13, X13, p13, bl13, sl13, st13⟩ := X11.finit hexec hown (wk W (.fieldLink "java/lang/String" 15 "java/lang/String" "coder" "B")) (Or.inr ⟨_, (wk W (.laysFinal "java/lang/String" "java/lang/String" "coder" "B"))⟩) (Or.inl ⟨rfl, hnm⟩) f2 (Or.inl rfl) hB11 (t := .byte) (by decide +kernel) rfl (g := (mkF m 48 #[.val (.ref a), .val (.ref b), .val (.int (Int32.ofNat o)), .val (.int (Int32.ofNat len)), .val .null, .val (.ref s.heap.size)] [.int 0, .ref a])) rfl (rest := []) rfl (hb hbytes d48)
  have c14 : Steps p.tables e below (s₁.setTop (entryFrame m #[.ref a, .ref b, .int (Int32.ofNat o), .int (Int32.ofNat len), .null] 6)) (T13.setTop (mkF m 54 #[.val (.ref a), .val (.ref b), .val (.int (Int32.ofNat o)), .val (.int (Int32.ofNat len)), .val .null, .val (.ref s.heap.size)] [.ref s.heap.size, .ref a])) := (c12.trans (st13 _ (Steps.refl _))).trans (by
    refine XS.aloadN X13.here hexec rfl (hb hbytes d51) rfl rfl ?_
    refine XS.aload X13.here hexec rfl (hb hbytes d52) rfl rfl ?_
    exact Steps.refl _)
  obtain ⟨T15, X15, p15, bl15, sl15, st15⟩ := X13.finit hexec hown (wk W (.fieldLink "java/lang/String" 9 "java/lang/String" "value" "[B")) (Or.inr ⟨_, (wk W (.laysFinal "java/lang/String" "java/lang/String" "value" "[B"))⟩) (Or.inl ⟨rfl, hnm⟩) f1 (Or.inl rfl) bl13 (t := (.array .byte)) (by decide +kernel) rfl (g := (mkF m 54 #[.val (.ref a), .val (.ref b), .val (.int (Int32.ofNat o)), .val (.int (Int32.ofNat len)), .val .null, .val (.ref s.heap.size)] [.ref s.heap.size, .ref a])) rfl (rest := []) rfl (hb hbytes d54)
  have c16 : Steps p.tables e below (s₁.setTop (entryFrame m #[.ref a, .ref b, .int (Int32.ofNat o), .int (Int32.ofNat len), .null] 6)) (T15.setTop (mkF m 57 #[.val (.ref a), .val (.ref b), .val (.int (Int32.ofNat o)), .val (.int (Int32.ofNat len)), .val .null, .val (.ref s.heap.size)] [])) := c14.trans (st15 _ (Steps.refl _))
  have ap := apart (Or.inr ⟨_, (wk W (.laysFinal "java/lang/String" "java/lang/String" "value" "[B"))⟩) (Or.inr ⟨_, (wk W (.laysFinal "java/lang/String" "java/lang/String" "coder" "B"))⟩) f1 f2 (t₁ := .array .byte) (t₂ := .byte) (by decide +kernel) (by decide +kernel) (by decide)
  have al := X8.warmed.alike.symm.trans X15.warmed.alike
  have n7 : T11.heap[s.heap.size]? = some N := by rw [q11]; exact n1.1
  exact ⟨T15, none, _, _, _, X15, by simp, rfl, by omega, (fun _ => rfl), ⟨rfl, _, N, bl15, ((Same.refl D _).set _ (by simp)).set _ (by simp), sl15, (Cell.slots_setSlot_ne _ ap).trans sl13, n1.keep al (p15.other hne (p13.other hne n7)), n2, by rw [al.findClass]; exact n3, n4, n5, fun y c h1 h2 => p15.other h1 (p13.other h1 (by rw [q11]; exact n6 y c h2)), by rw [p15.2.2, p13.2.2, q11]; exact z8⟩, fun fs hl => c16.trans (X15.returnOut hexec hret (hb hbytes d57) hl)⟩
end New4
namespace New1
def yN : MethodName := ⟨"java/lang/String", "<init>", "([C)V"⟩
abbrev yB : ByteArray := jdk_42_method_3_code
theorem d0 : decode yB 0 = .ok (.aload_n 0, 1) := by decide +kernel
theorem d1 : decode yB 1 = .ok (.aload_n 1, 1) := by decide +kernel
theorem d2 : decode yB 2 = .ok (.iconst 0, 1) := by decide +kernel
theorem d3 : decode yB 3 = .ok (.aload_n 1, 1) := by decide +kernel
theorem d4 : decode yB 4 = .ok (.arraylength, 1) := by decide +kernel
theorem d5 : decode yB 5 = .ok (.aconst_null, 1) := by decide +kernel
theorem d6 : decode yB 6 = .ok (.invokespecial 27, 3) := by decide +kernel
theorem d9 : decode yB 9 = .ok (.return_, 1) := by decide +kernel
def site : List Cond := [New4.tab] ++ initW "java/lang/String" 27 New4.yN
def tab : Cond := tabOf yN yB 2 none site
def P (a : Addr) (D : Cell) (fV fC : Field) (b : Addr) (A : Cell) (z : Int32) (args : Array Value) (s : State) : Prop := args = #[.ref a, .ref b] ∧ Blank "java/lang/String" a D s ∧ Found "java/lang/String" "value" "[B" fV s ∧ Found "java/lang/String" "coder" "B" fC s ∧ Ch b A s ∧ StaticIs s "java/lang/String" "COMPACT_STRINGS" "Z" (.int z) ∧ ¬ z = 0 ∧ 0 < A.slots.size ∧ A.slots.size ≤ 536870912 ∧ ∀ i, i < A.slots.size → ¬ 255 < cv A i
def E (a : Addr) (D : Cell) (fV fC : Field) (A : Cell) (r : Option Value) (s u : State) : Prop := Got a D fV fC A 0 A.slots.size r s u
/-- new String(chars), not empty, no char above 255: a Latin-1 String of their low bytes -/
theorem law (l : Launch) (a : Addr) (D : Cell) (fV fC : Field) (b : Addr) (A : Cell) (z : Int32) : Law l yN 2 1 3 52 yB 2 none site (P a D fV fC b A z) (E a D fV fC A) [⟨a, fC.slot⟩, ⟨a, fV.slot⟩] 1 A.slots.size := by
  refine Law.of_walk (plainFor_of_name (by decide +kernel)) (by decide +kernel) (by decide +kernel) (by decide) (fun _ _ h => by rw [h.1]; rfl) (fun _ U U' hal hh h => ⟨h.1, h.2.1.mv hal hh, h.2.2.1.al hal, h.2.2.2.1.al hal, h.2.2.2.2.1.mv hal hh, h.2.2.2.2.2.1.there hal hh, h.2.2.2.2.2.2⟩) (fun r U U' V V' h1 hal h2 h => Got.mv r U U' V V' h1 hal h2 h) ?_
  intro p e s m args below meth c s₁ X0 hexec hbytes hml hret hlk hnm hown hh0 W hP
  obtain ⟨rfl, hB, f1, f2, hA, s1, hz, l0, l2, hp⟩ := hP
  have c1 : Steps p.tables e below (s₁.setTop (entryFrame m #[.ref a, .ref b] 2)) (s₁.setTop (mkF m 0 #[.val (.ref a), .val (.ref b)] [])) := entry rfl
  have c2 : Steps p.tables e below (s₁.setTop (entryFrame m #[.ref a, .ref b] 2)) (s₁.setTop (mkF m 6 #[.val (.ref a), .val (.ref b)] [.null, .int (Int32.ofNat A.slots.size), .int 0, .ref b, .ref a])) := c1.trans (by
    refine XS.aloadN X0.here hexec rfl (hb hbytes d0) rfl rfl ?_
    refine XS.aloadN X0.here hexec rfl (hb hbytes d1) rfl rfl ?_
    refine iconstV X0.here hexec rfl 0 (hb hbytes d2) (by decide) ?_
    refine XS.aloadN X0.here hexec rfl (hb hbytes d3) rfl rfl ?_
    refine X0.alen hexec (hA.1.mv X0.warmed.alike hh0) rfl rfl (hb hbytes d4) ?_
    refine XS.aconstNull X0.here hexec rfl (hb hbytes d5) ?_
    exact Steps.refl _)
  obtain ⟨v3, T3, X3, E3, g3⟩ := X0.callN hexec (New4.law l a D fV fC b A z 0 A.slots.size) rfl hown (wks W (initW "java/lang/String" 27 New4.yN)) (W New4.tab (by simp only [site, List.mem_cons, List.mem_append, true_or, or_true])) (W := 0) (Nat.le_of_ble_eq_true rfl) (Nat.le_of_ble_eq_true rfl) (Nat.le_refl _) (by show 0 + A.slots.size ≤ A.slots.size; omega) (g := (mkF m 6 #[.val (.ref a), .val (.ref b)] [.null, .int (Int32.ofNat A.slots.size), .int (Int32.ofNat 0), .ref b, .ref a])) rfl (by rw [hml]; rfl) c2 (argsL := [.ref b, .int (Int32.ofNat 0), .int (Int32.ofNat A.slots.size), .null]) (rest := []) rfl rfl (by show 2 * 0 + 0 ≤ _; decide) (hb hbytes d6) (⟨rfl, hB.mv X0.warmed.alike hh0, f1.al X0.warmed.alike, f2.al X0.warmed.alike, hA.mv X0.warmed.alike hh0, s1.there X0.warmed.alike hh0, hz, l0, by omega, l2, fun i hi => by rw [Nat.zero_add]; exact hp i hi⟩)
  have e0 := Got.mv _ s₁ s _ _ hh0.symm (Vm.Alike.refl _) rfl E3
  obtain rfl := e0.1
  have c4 : Steps p.tables e below (s₁.setTop (entryFrame m #[.ref a, .ref b] 2)) (T3.setTop (mkF m 9 #[.val (.ref a), .val (.ref b)] [])) := g3
  exact ⟨T3, none, _, _, _, X3, by simp, rfl, by omega, (fun _ => rfl), e0, fun fs hl => c4.trans (X3.returnOut hexec hret (hb hbytes d9) hl)⟩
theorem pays {l : Launch} {R : Room} {p : Program} {e : Env} {below : List Frame} {s : State} {sargs : Array Value} {len W : Nat} (a : Addr) (D : Cell) (fV fC : Field) (b : Addr) (A : Cell) (z : Int32) (htab : tab.before sargs s = true) (hfr : 4 ≤ R.frames) (hlo : W + 65 ≤ R.locals) :
    Back l R p e below s sargs yN len W (fun A₁ a₁ => A₁.cells + 1 ≤ R.cells ∧ A₁.slots + A.slots.size ≤ R.slots ∧ P a D fV fC b A z a₁ A₁.U) (fun A₁ _ v₁ B₁ => E a D fV fC A v₁ A₁.U B₁.U ∧ B₁.locs = A₁.locs ++ [⟨a, fC.slot⟩, ⟨a, fV.slot⟩] ∧ B₁.cells = A₁.cells + 1 ∧ B₁.slots = A₁.slots + A.slots.size) :=
  (law l a D fV fC b A z).pays htab hfr (by omega)
end New1
/-- the byte, read back as charAt reads it, is the char -/
theorem lo8_mask {x : Int32} (h0 : ¬ x < 0) (h1 : ¬ 255 < x) : lo8 x &&& 255 = x := by
  have t : ∀ k : Fin 256, lo8 (Int32.ofNat k.val) &&& 255 = Int32.ofNat k.val := by decide +kernel
  rw [Int32.lt_iff_toInt_lt] at h0 h1
  have e0 : (0 : Int32).toInt = 0 := rfl
  have e1 : (255 : Int32).toInt = 255 := rfl
  obtain ⟨k, hk⟩ : ∃ k : Nat, x.toInt = k := ⟨x.toInt.toNat, by omega⟩
  have hx : x = Int32.ofNat k := Int32.toInt_inj.mp (by rw [hk, Int32.toInt_ofNat_small (by omega)])
  rw [hx]
  exact t ⟨k, by omega⟩
end StrChars
namespace StrChars.Road
open Jvm Sem ClassFile Op Lib Jvm.Stand Jvm.Free Jvm.Free.XT
open Jvm.Lib.Cold (StaticIs)
abbrev ST : String := "java/lang/String"
/-- every table word that New1's law asks, flat -/
abbrev words : List Jvm.Cond := [.code New1.yN New1.yB 2 none, .initialized ST, .methodLink ST 27 New4.yN, .instanceMethod New4.yN,
  .code New4.yN New4.yB 6 none, .fieldLink ST 38 ST "COMPACT_STRINGS" "Z", .laysFinal ST ST "value" "[B", .fieldLink ST 9 ST "value" "[B", .laysFinal ST ST "coder" "B", .fieldLink ST 15 ST "coder" "B",
  .methodLink ST 1 Lib.objectInit, .instanceMethod Lib.objectInit, .code Lib.objectInit ⟨#[0xb1]⟩ 1 none, .methodLink ST 177 Cmp3.yN, .static Cmp3.yN, .methodLink ST 47 CodL.yN, .static CodL.yN,
  .code Cmp3.yN Cmp3.yB 6 (some (.array .byte)), .initialized U16, .arrayClass .byte, .methodLink U16 115 Cmp5.yN, .static Cmp5.yN, .code Cmp5.yN Cmp5.yB 7 (some .int), .code CodL.yN CodL.yB 2 (some .byte)]
theorem tab_of {a : Array Value} {s : State} (h : ∀ w ∈ words, w.before a s = true) : New1.tab.before a s = true := by
  have h5 : Cmp5.tab.before a s = true := unparts (wk h (.code Cmp5.yN Cmp5.yB 7 (some .int))) (wks h (.initialized Cmp5.yN.cls :: Cmp5.site))
  have hc : CodL.tab.before a s = true := unparts (wk h (.code CodL.yN CodL.yB 2 (some .byte))) (wks h (.initialized CodL.yN.cls :: CodL.site))
  have q5 : ∀ w ∈ Cmp5.tab :: words, w.before a s = true := fun w hw => (List.mem_cons.mp hw).elim (fun e => e ▸ h5) (h w)
  have h3 : Cmp3.tab.before a s = true := unparts (wk q5 (.code Cmp3.yN Cmp3.yB 6 (some (.array .byte)))) (wks q5 (.initialized Cmp3.yN.cls :: Cmp3.site))
  have q3 : ∀ w ∈ Cmp3.tab :: CodL.tab :: words, w.before a s = true := fun w hw => (List.mem_cons.mp hw).elim (fun e => e ▸ h3) fun hw => (List.mem_cons.mp hw).elim (fun e => e ▸ hc) (h w)
  have h4 : New4.tab.before a s = true := unparts (wk q3 (.code New4.yN New4.yB 6 none)) (wks q3 (.initialized New4.yN.cls :: New4.site))
  have q4 : ∀ w ∈ New4.tab :: words, w.before a s = true := fun w hw => (List.mem_cons.mp hw).elim (fun e => e ▸ h4) (h w)
  exact unparts (wk q4 (.code New1.yN New1.yB 2 none)) (wks q4 (.initialized New1.yN.cls :: New1.site))
/-- the words ride from the start Z to the walk's own state -/
theorem moved {Z s : State} {a0 args : Array Value} (hZ : Z.Warmed39 s.vm) (hw : ∀ d ∈ words, d.before a0 Z = true) : ∀ d ∈ words, d.before args s = true := fun d hd => by
  have q := hw d hd
  have t : ∀ d ∈ words, d = .arrayClass .byte ∨ (d.onTables && d.keepsFace) = true := by decide +kernel
  rcases t d hd with rfl | t
  · exact RoadKit.mvA hZ q
  · exact RoadKit.mv hZ q t
/-- WHAT COMES BACK, over the tables of the start Z: h the heap at the call, h' behind it -/
def Q (Z : State) (x : Addr) (A : Cell) (h : Heap) (v : Option Value) (h' : Heap) (L : List Loc) : Prop := v = none ∧ (∀ y ∈ L, y.base = x) ∧ RoadKit.Keep h h' [x] ∧ h'.size = h.size + 1 ∧ RoadKit.Exa Z h' x ST ∧ RoadKit.Fld Z h' x ST "value" "[B" (.ref h.size) ∧ RoadKit.Fld Z h' x ST "coder" "B" (.int 0) ∧
  (∃ V : Cell, RoadKit.Arr Z h' h.size V .byte ∧ V.vm = .none ∧ Z.vm.findClass "[B" = some V.cls ∧ V.slots.size = A.slots.size ∧ ∀ j, j < A.slots.size → V.slots[j]? = some (.int (lo8 (cv A j)))) ∧
  ∀ (O n d : String) (w : Value), RoadKit.Fld Z h x O n d w → RoadKit.slotOf Z O n d ≠ RoadKit.slotOf Z ST "value" "[B" → RoadKit.slotOf Z O n d ≠ RoadKit.slotOf Z ST "coder" "B" → RoadKit.Fld Z h' x O n d w
/-- **new String(chars) AT A CALL, IN THE ROAD'S FORM**: for specialBack behind newO: x the fresh String, b the char[] with the cell A -/
theorem back {p : Program} {l : Launch} {e : Env} {R : Room} {s : State} {args : Array Value} {below : List Frame} {len W : Nat} {Z : State} {a0 : Array Value} {h : Heap} (hZ : Z.Warmed39 s.vm) (hw : ∀ d ∈ words, d.before a0 Z = true) {kI : Nat} (wi : (Jvm.Cond.instantiable ST kI).before a0 Z = true)
    {x b : Addr} {A : Cell} {z : Int32} {v0 c0 : Value} (E : RoadKit.Exa Z h x ST) (V : RoadKit.Fld Z h x ST "value" "[B" v0) (C : RoadKit.Fld Z h x ST "coder" "B" c0) (K : RoadKit.Arr Z h b A .char) (hty : Typed .char A) (S : RoadKit.Sta Z h ST "COMPACT_STRINGS" "Z" (.int z)) (hz : ¬ z = 0)
    (l0 : 0 < A.slots.size) (l2 : A.slots.size ≤ 536870912) (hp : ∀ i, i < A.slots.size → ¬ 255 < cv A i) (hfr : 4 ≤ R.frames) (hlo : W + 65 ≤ R.locals) :
    Back l R p e below s args New1.yN len W (fun P a => a = #[.ref x, .ref b] ∧ P.U.heap = h ∧ P.cells + 1 ≤ R.cells ∧ P.slots + A.slots.size ≤ R.slots)
      (fun P _ v B => ∃ L, Q Z x A h v B.U.heap L ∧ B.locs = P.locs ++ L ∧ B.cells = P.cells + 1 ∧ B.slots = P.slots + A.slots.size) := by
  intro m meth c P g ig mk a X hg hsize hdg hW hn hp'
  obtain ⟨rfl, rfl, r1, r2⟩ := hp'
  have al : Z.vm.Alike P.U.vm := hZ.alike.trans X.warmed.alike
  obtain ⟨D, cfV, kV, iV, fV, hD, gV, stV, knV, obV, asV, slV⟩ := id V
  obtain ⟨D', cfC, kC, iC, fC, hD', gC, stC, -, -, asC, slC⟩ := id C
  cases hD.symm.trans hD'
  obtain ⟨D2, kD, e1, e2, e3, e4, e5⟩ := id E
  cases hD.symm.trans e1
  obtain ⟨c2, k2, i1, i2, i3, -⟩ := Cond.instantiable_spec wi
  cases e2.symm.trans i1
  cases e3.symm.trans i2
  obtain ⟨kU, u1, u2⟩ := al.2.2 _ _ e3
  have hB : Blank ST x D P.U := ⟨hD, ⟨knV, fun q hq => by rw [hq] at obV; cases obV⟩, by rw [al.findClass]; exact e2, kU, u1, by rw [u2]; exact i3, by rw [u2]; exact e5 i3⟩
  have F1 : Found ST "value" "[B" fV P.U := ⟨SBG.found_only al ⟨cfV, kV, iV, gV⟩, stV⟩
  have F2 : Found ST "coder" "B" fC P.U := ⟨SBG.found_only al ⟨cfC, kC, iC, gC⟩, stC⟩
  have hA : Ch b A P.U := ⟨⟨K.1, State.isArrayOf_alike al K.2.1, K.2.2, by omega⟩, hty⟩
  have hS : StaticIs P.U ST "COMPACT_STRINGS" "Z" (.int z) := by
    obtain ⟨cfS, iS, kS, fS, st, cS, t1, t2, t3, t4, t5, t6, t7⟩ := S
    exact StaticIs.there (s := { Z with heap := P.U.heap }) ⟨cfS, iS, kS, fS, st, cS, t1, t2, t3, t4, t5, (fun q => by rw [q] at t6; cases t6), t7⟩ al rfl
  obtain ⟨v, B, X', ⟨⟨hv, E', V', q1, q2, q3, q4, q5, q6, q7, q8, q9, q10, q11⟩, hl, hc, hs⟩, st⟩ := New1.pays x D fV fC b A z (tab_of (moved hZ hw)) hfr hlo m meth c P g ig mk _ X hg hsize hdg hW hn ⟨r1, r2, rfl, hB, F1, F2, hA, hS, hz, l0, l2, hp⟩
  have al' : Z.vm.Alike B.U.vm := hZ.alike.trans X'.warmed.alike
  have hsz : E'.slots.size = D.slots.size := by
    obtain ⟨-, -, -, kB, w1, w2, w3⟩ := q1
    obtain ⟨kB', y1, y2⟩ := al'.2.2 _ _ e3
    rw [q2.2.1] at w1
    cases w1.symm.trans y1
    rw [w3, e5 i3, y2]
  refine ⟨v, B, X', ⟨_, ⟨hv, ?_, ⟨by omega, fun y cy hy hn' => q10 y cy (by simpa using hn') hy, fun y cy hy => ?_⟩, q11, ⟨E', _, q1.1, by rw [q2.2.1]; exact e2, by rw [q2.2.1]; exact e3, by rw [q2.1]; exact obV, fun _ => by rw [hsz]; exact e5 i3⟩,
    ⟨E', cfV, kV, iV, fV, q1.1, gV, stV, by rw [q2.1]; exact knV, by rw [q2.1]; exact obV, by rw [q2.2.1]; exact asV, q3⟩, ⟨E', cfC, kC, iC, fC, q1.1, gC, stC, by rw [q2.1]; exact knV, by rw [q2.1]; exact obV, by rw [q2.2.1]; exact asC, q4⟩,
    ⟨V', ⟨q5.1, State.isArrayOf_alike al'.symm q5.2.1, q5.2.2.1⟩, q6, by rw [← al'.findClass]; exact q7, q8, fun j hj => by have := q9 j hj; rwa [Nat.zero_add] at this⟩, fun O n d w F n1 n2 => ?_⟩, hl, hc, hs⟩, st⟩
  · intro y hy
    simp only [List.mem_cons, List.not_mem_nil, or_false] at hy
    rcases hy with rfl | rfl <;> rfl
  · by_cases q : y = x
    · subst q
      cases hD.symm.trans hy
      exact ⟨E', q1.1, q2.2.1, q2.1, hsz⟩
    · exact ⟨cy, q10 y cy q hy, rfl, rfl, rfl⟩
  · obtain ⟨D3, cf, k, i, f, g1, g2, g3, g4, g5, g6, g7⟩ := F
    cases hD.symm.trans g1
    simp only [RoadKit.slotOf, g2, gV, gC, Option.map_some, Option.getD_some] at n1 n2
    exact ⟨E', cf, k, i, f, q1.1, g2, g3, by rw [q2.1]; exact g4, by rw [q2.1]; exact g5, by rw [q2.2.1]; exact g6, by rw [q2.2.2 f.slot (by simp [n1, n2])]; exact g7⟩
end StrChars.Road
namespace StrChars.Road
open Jvm Sem ClassFile Op Lib Jvm.Stand Jvm.Free Jvm.Free.XT
/-- WHAT COMES BACK, the byte[] as a list of values -/
def QA (Z : State) (x : Addr) (zn : Int32) (cs : List Int32) (h : Heap) (v : Option Value) (h' : Heap) (L : List Loc) : Prop := v = none ∧ (∀ y ∈ L, y.base = x) ∧ RoadKit.Keep h h' [x] ∧ h'.size = h.size + 1 ∧ RoadKit.Exa Z h' x ST ∧ RoadKit.Fld Z h' x ST "value" "[B" (.ref h.size) ∧ RoadKit.Fld Z h' x ST "coder" "B" (.int 0) ∧
  (∃ kb, Z.vm.findClass "[B" = some kb ∧ RoadKit.Arv Z h' h.size kb .byte zn (cs.map fun c => .int (lo8 c)) (.int 0)) ∧
  ∀ (O n d : String) (w : Value), RoadKit.Fld Z h x O n d w → RoadKit.slotOf Z O n d ≠ RoadKit.slotOf Z ST "value" "[B" → RoadKit.slotOf Z O n d ≠ RoadKit.slotOf Z ST "coder" "B" → RoadKit.Fld Z h' x O n d w
/-- **new String(chars) AT A CALL, THE ARRAYS AS LISTS**: the char[] at b holds cs, not empty, no char above 255 -/
theorem backArv {p : Program} {l : Launch} {e : Env} {R : Room} {s : State} {args : Array Value} {below : List Frame} {len W : Nat} {Z : State} {a0 : Array Value} {h : Heap} (hZ : Z.Warmed39 s.vm) (hw : ∀ d ∈ words, d.before a0 Z = true) {kI : Nat} (wi : (Jvm.Cond.instantiable ST kI).before a0 Z = true)
    {x b : Addr} {k : ClassId} {zn z : Int32} {cs : List Int32} {dv v0 c0 : Value} (E : RoadKit.Exa Z h x ST) (V : RoadKit.Fld Z h x ST "value" "[B" v0) (C : RoadKit.Fld Z h x ST "coder" "B" c0) (K : RoadKit.Arv Z h b k .char zn (cs.map Value.int) dv) (S : RoadKit.Sta Z h ST "COMPACT_STRINGS" "Z" (.int z)) (hz : ¬ z = 0)
    (hlen : zn.toNatClampNeg = cs.length) (h0 : 0 < cs.length) (hbig : cs.length ≤ 536870912) (hall : ∀ c ∈ cs, ¬ 255 < c) (hfr : 4 ≤ R.frames) (hlo : W + 65 ≤ R.locals) :
    Back l R p e below s args New1.yN len W (fun P a => a = #[.ref x, .ref b] ∧ P.U.heap = h ∧ P.cells + 1 ≤ R.cells ∧ P.slots + cs.length ≤ R.slots)
      (fun P _ v B => ∃ L, QA Z x zn cs h v B.U.heap L ∧ B.locs = P.locs ++ L ∧ B.cells = P.cells + 1 ∧ B.slots = P.slots + cs.length) := by
  obtain ⟨A, K1, K2, K3, K4, K5, K6⟩ := K
  have e : A.slots.size = cs.length := K3.trans hlen
  have hat : ∀ (i : Nat) (hi : i < cs.length), A.slots[i]? = some (.int cs[i]) := fun i hi => by rw [K5 i (by omega)]; simp [List.getD_eq_getElem?_getD, hi]
  have hcv : ∀ (i : Nat) (hi : i < cs.length), cv A i = cs[i] := fun i hi => by unfold cv; rw [hat i hi]
  have hty : Typed .char A := fun i v hv => by
    have hi : i < A.slots.size := (Array.getElem?_eq_some_iff.mp hv).1
    have q := K5 i hi
    rw [hv] at q
    rw [Option.some.inj q]
    exact K6 i hi
  refine Back.mono (back hZ hw wi E V C K1 hty S hz (by omega) (by omega) (fun i hi => by rw [hcv i (by omega)]; exact hall _ (List.getElem_mem _)) hfr hlo) (fun P a hp => ⟨hp.1, hp.2.1, hp.2.2.1, by rw [e]; exact hp.2.2.2⟩) (fun P a v B hp hq => ?_)
  obtain ⟨L, ⟨q1, q2, q3, q4, q5, q6, q7, ⟨V', v1, v2, v3, v4, v5⟩, q9⟩, hl, hc, hs⟩ := hq
  refine ⟨L, ⟨q1, q2, q3, q4, q5, q6, q7, ⟨V'.cls, v3, V', v1, rfl, by rw [v4, e, hlen], K4, fun i hi => ?_, fun i hi => ?_⟩, q9⟩, hl, hc, by rw [hs, e]⟩
  · have hi' : i < cs.length := by omega
    rw [v5 i (by omega), hcv i hi']; simp [List.getD_eq_getElem?_getD, hi']
  · have hi' : i < cs.length := by omega
    simp only [List.getD_eq_getElem?_getD, List.getElem?_map, List.getElem?_eq_getElem hi', Option.map_some, Option.getD_some]
    exact fits_lo8 _
end StrChars.Road
namespace StrChars.Road
open Jvm Sem ClassFile Op Lib Jvm.Stand Jvm.Free Jvm.Free.XT
/-- WHAT COMES BACK, in the writer's own shape -/
def QV (Z : State) (x : Addr) (N : Int32) (bs : List Int32) (h : Heap) (n0 : Nat) (v : Option Value) (h' : Heap) (L : List Loc) : Prop := v = none ∧ RoadKit.Fr n0 L ∧ RoadKit.Keep h h' [x] ∧ RoadKit.Exa Z h' x ST ∧ RoadKit.Fld Z h' x ST "coder" "B" (.int 0) ∧
  ∃ (t : Addr) (kb : ClassId), n0 ≤ t ∧ h.size ≤ t ∧ ¬ t = x ∧ RoadKit.Fld Z h' x ST "value" "[B" (.ref t) ∧ RoadKit.Arv Z h' t kb .byte N (bs.map Value.int) (.int 0)
/-- **new String(chars) AT A CALL, FOR THE WRITER**: a char[] of n known ints, each 0 to 255 -/
theorem backV {p : Program} {l : Launch} {e : Env} {R : Room} {s : State} {args : Array Value} {below : List Frame} {len W : Nat} {Z : State} {a0 : Array Value} {h : Heap} (hZ : Z.Warmed39 s.vm) (hw : ∀ d ∈ words, d.before a0 Z = true) {kI : Nat} (wi : (Jvm.Cond.instantiable ST kI).before a0 Z = true)
    {x b : Addr} {kC : ClassId} {cs bs : List Int32} {d v0 c0 : Value} {z N : Int32} {n n0 : Nat} (hx0 : n0 ≤ x) (hh0 : n0 ≤ h.size) (E : RoadKit.Exa Z h x ST) (V : RoadKit.Fld Z h x ST "value" "[B" v0) (C : RoadKit.Fld Z h x ST "coder" "B" c0) (K : RoadKit.Arv Z h b kC .char N (cs.map Value.int) d) (S : RoadKit.Sta Z h ST "COMPACT_STRINGS" "Z" (.int z)) (hz : ¬ z = 0)
    (hn : cs.length = n) (hN : N = Int32.ofNat n) (l0 : 0 < n) (l2 : n ≤ 4000) (hp : ∀ c ∈ cs, ¬ c < 0 ∧ ¬ (255 : Int32) < c) (hb : bs = cs.map (fun c => c.toInt8.toInt32)) (hfr : 4 ≤ R.frames) (hlo : W + 65 ≤ R.locals) :
    Back l R p e below s args (⟨"java/lang/String", "<init>", "([C)V"⟩ : MethodName) len W (fun P a => a = #[.ref x, .ref b] ∧ P.U.heap = h ∧ P.cells + 1 ≤ R.cells ∧ P.slots + n ≤ R.slots)
      (fun P _ v B => ∃ L, QV Z x N bs h n0 v B.U.heap L ∧ B.locs = P.locs ++ L ∧ B.cells = P.cells + 1 ∧ B.slots = P.slots + n) := by
  subst hn hN hb
  refine Back.mono (backArv hZ hw wi E V C K S hz (n32 (by omega)) l0 (by omega) (fun c hc => (hp c hc).2) hfr hlo) (fun P a hp => hp) (fun P a v B hp hq => ?_)
  obtain ⟨L, ⟨q1, q2, q3, q4, q5, q6, q7, ⟨kb, v1, v2⟩, q9⟩, hl, hc, hs⟩ := hq
  exact ⟨L, ⟨q1, fun y hy => by rw [q2 y hy]; exact hx0, q3, q5, q7, h.size, kb, hh0, Nat.le_refl _, Nat.ne_of_gt E.lt, q6, by rw [List.map_map]; exact v2⟩, hl, hc, hs⟩
end StrChars.Road
namespace StrChars
open Jvm Sem ClassFile Op Lib Jvm.Stand Jvm.Free.XT Jvm.Free.ALB Jvm.Free.JM Jvm.Free
open Jvm.Lib.Cold (StaticIs)
def hi8 (x : Int32) : Int32 := lo8 (x >>> ((8 : Int32) &&& 31))
/-- what StringUTF16.getChar makes of two bytes -/
def pairCh (u v : Int32) : Int32 := (((u &&& 255) <<< ((0 : Int32) &&& 31)) ||| ((v &&& 255) <<< ((8 : Int32) &&& 31))).toUInt32.toUInt16.toUInt32.toInt32
theorem lo8_and (x : Int32) : (lo8 x &&& 255).toBitVec.toNat = x.toBitVec.toNat % 256 := by
  have h : (lo8 x).toBitVec = (x.toBitVec.signExtend 8).signExtend 32 := by rw [lo8, Int8.toBitVec_toInt32, Int32.toBitVec_toInt8]
  rw [Int32.toBitVec_and, BitVec.toNat_and, h]
  have e : ((x.toBitVec.signExtend 8).signExtend 32).toNat % 256 = x.toBitVec.toNat % 256 := by
    rw [BitVec.toNat_signExtend]
    have hlt := x.toBitVec.isLt
    simp only [BitVec.toNat_setWidth, BitVec.toNat_signExtend]
    split <;> split <;> omega
  rw [← e]
  exact Nat.and_two_pow_sub_one_eq_mod _ 8
theorem pair_says {c : Int32} (h0 : ¬ c < 0) (h1 : ¬ 65535 < c) : pairCh (lo8 c) (hi8 c) = c := by
  rw [Int32.lt_iff_toInt_lt] at h0 h1
  have e0 : (0 : Int32).toInt = 0 := rfl
  have e1 : (65535 : Int32).toInt = 65535 := rfl
  have hc : c.toInt = c.toBitVec.toNat := by
    have := c.toBitVec.isLt
    have e : c.toInt = c.toBitVec.toInt := rfl
    rw [e] at h0 h1
    rw [e]
    rw [BitVec.toInt_eq_toNat_cond] at h0 h1 ⊢
    split at h0 <;> split <;> omega
  have hn : c.toBitVec.toNat < 65536 := by omega
  have a1 := lo8_and c
  have a2 : (hi8 c &&& 255).toBitVec.toNat = c.toBitVec.toNat / 256 := by
    rw [hi8, lo8_and]
    have e : ((8 : Int32) &&& 31) = 8 := by decide
    rw [e, Int32.toBitVec_shiftRight]
    have e2 : ((8 : Int32).toBitVec.smod 32) = 8#32 := by decide
    rw [e2, BitVec.sshiftRight_eq', BitVec.toNat_sshiftRight_of_msb_false (by rw [BitVec.msb_eq_false_iff_two_mul_lt]; omega)]
    show c.toBitVec.toNat >>> 8 % 256 = _
    rw [Nat.shiftRight_eq_div_pow]
    omega
  unfold pairCh
  apply Int32.toBitVec_inj.mp
  apply BitVec.eq_of_toNat_eq
  have f0 : ((0 : Int32) &&& 31) = 0 := by decide
  have f8 : ((8 : Int32) &&& 31) = 8 := by decide
  rw [f0, f8]
  have g : (((lo8 c &&& 255) <<< (0 : Int32)) ||| ((hi8 c &&& 255) <<< (8 : Int32))).toBitVec.toNat = c.toBitVec.toNat := by
    rw [Int32.toBitVec_or, Int32.toBitVec_shiftLeft, Int32.toBitVec_shiftLeft]
    have s0 : ((0 : Int32).toBitVec.smod 32) = 0#32 := by decide
    have s8 : ((8 : Int32).toBitVec.smod 32) = 8#32 := by decide
    rw [s0, s8, BitVec.toNat_or]
    simp only [BitVec.shiftLeft_eq', BitVec.toNat_shiftLeft, a1, a2]
    show (c.toBitVec.toNat % 256) <<< 0 % 2 ^ 32 ||| (c.toBitVec.toNat / 256) <<< 8 % 2 ^ 32 = _
    rw [Nat.shiftLeft_zero, Nat.mod_eq_of_lt (show c.toBitVec.toNat % 256 < 2 ^ 32 by omega), Nat.mod_eq_of_lt (show (c.toBitVec.toNat / 256) <<< 8 < 2 ^ 32 by rw [Nat.shiftLeft_eq]; omega), Nat.or_comm, ← Nat.shiftLeft_add_eq_or_of_lt (by omega), Nat.shiftLeft_eq]
    omega
  show BitVec.toNat (((((lo8 c &&& 255) <<< (0 : Int32)) ||| ((hi8 c &&& 255) <<< (8 : Int32))).toBitVec.setWidth 16).setWidth 32) = _
  rw [BitVec.toNat_setWidth, BitVec.toNat_setWidth, g]
  omega
end StrChars
namespace StrChars
open Jvm Sem ClassFile Op Lib Jvm.Stand Jvm.Free.XT Jvm.Free.ALB Jvm.Free.JM Jvm.Free
open Jvm.Lib.Cold (StaticIs)
/-- the array's cell V codes the n chars f 0 .. f (n - 1) by the coder cd, as the JDK does: coder 1 just where some char is above 255 -/
def Cod (cd : Int32) (n : Nat) (f : Nat → Int32) (V : Cell) : Prop := (cd = 0 ∧ V.slots.size = n ∧ ∀ j, j < n → V.slots[j]? = some (.int (lo8 (f j))) ∧ ¬ 255 < f j) ∨ (cd = 1 ∧ V.slots.size = 2 * n ∧ (∀ j, j < n → V.slots[2 * j]? = some (.int (lo8 (f j))) ∧ V.slots[2 * j + 1]? = some (.int (hi8 (f j)))) ∧ ∃ j, j < n ∧ 255 < f j)
/-- **x is a String of the n chars f 0 .. f (n - 1)**, Latin-1 or UTF-16; its array at t has the cell V -/
def Txt (x t : Addr) (V : Cell) (cd : Int32) (n : Nat) (f : Nat → Int32) (U : State) : Prop := Exact "java/lang/String" x U ∧ Has x "java/lang/String" "value" "[B" (.ref t) U ∧ Has x "java/lang/String" "coder" "B" (.int cd) U ∧ XT.Arr .byte t V U ∧ Cod cd n f V ∧ ∀ j, j < n → ¬ f j < 0 ∧ ¬ 65535 < f j
theorem Txt.mv {x t : Addr} {V : Cell} {cd : Int32} {n : Nat} {f : Nat → Int32} {U U' : State} (h : Txt x t V cd n f U) (hal : U.vm.Alike U'.vm) (hh : U'.heap = U.heap) : Txt x t V cd n f U' := ⟨h.1.mv hal hh, h.2.1.mv hal hh, h.2.2.1.mv hal hh, h.2.2.2.1.mv hal hh, h.2.2.2.2⟩
end StrChars
namespace StrChars.Road
open Jvm Sem ClassFile Op Lib Jvm.Stand Jvm.Free Jvm.Free.XT
open Jvm.Lib.Cold (StaticIs)
theorem consq {a : Array Value} {s : State} {c : Jvm.Cond} {L : List Jvm.Cond} (h0 : c.before a s = true) (h : ∀ w ∈ L, w.before a s = true) : ∀ w ∈ c :: L, w.before a s = true := fun w hw => (List.mem_cons.mp hw).elim (fun e => e ▸ h0) (h w)
/-- the bytes of the chars cs, low before high -/
def wideBytes : List Int32 → List Value
  | [] => []
  | c :: cs => .int (lo8 c) :: .int (hi8 c) :: wideBytes cs
theorem wide_lo (d : Value) : ∀ (cs : List Int32) (j : Nat), j < cs.length → (wideBytes cs).getD (2 * j) d = .int (lo8 (cs.getD j 0))
  | [], j, h => absurd h (Nat.not_lt_zero j)
  | c :: cs, 0, _ => rfl
  | c :: cs, j + 1, h => by
    have q := wide_lo d cs j (by simpa using h)
    rw [show 2 * (j + 1) = 2 * j + 1 + 1 from by omega]
    simpa [wideBytes] using q
theorem wide_hi (d : Value) : ∀ (cs : List Int32) (j : Nat), j < cs.length → (wideBytes cs).getD (2 * j + 1) d = .int (hi8 (cs.getD j 0))
  | [], j, h => absurd h (Nat.not_lt_zero j)
  | c :: cs, 0, _ => rfl
  | c :: cs, j + 1, h => by
    have q := wide_hi d cs j (by simpa using h)
    rw [show 2 * (j + 1) + 1 = 2 * j + 1 + 1 + 1 from by omega]
    simpa [wideBytes] using q
theorem low_at (d : Value) (cs : List Int32) (j : Nat) (h : j < cs.length) : (cs.map fun c => Value.int (lo8 c)).getD j d = .int (lo8 (cs.getD j 0)) := by
  simp [List.getD_eq_getElem?_getD, h]
/-- an array of N2 bytes vs codes the chars cs by the coder cd -/
def CodA (cs : List Int32) (cd N2 : Int32) (vs : List Value) : Prop := (cd = 0 ∧ N2 = Int32.ofNat cs.length ∧ vs = (cs.map fun c => Value.int (lo8 c)) ∧ ∀ c ∈ cs, ¬ 255 < c) ∨ (cd = 1 ∧ N2 = Int32.ofNat (2 * cs.length) ∧ vs = wideBytes cs ∧ ∃ c ∈ cs, 255 < c)
theorem CodA.cod {cs : List Int32} {cd N2 : Int32} {vs : List Value} {V : Cell} (h : CodA cs cd N2 vs) (hn : 2 * cs.length < 2 ^ 31) (hs : V.slots.size = N2.toNatClampNeg) (hv : RoadKit.Has V vs (.int 0)) : Cod cd cs.length (fun j => cs.getD j 0) V := by
  rcases h with ⟨rfl, rfl, rfl, h⟩ | ⟨rfl, rfl, rfl, c, hc, hw⟩
  · rw [n32 (by omega)] at hs
    exact Or.inl ⟨rfl, hs, fun j hj => ⟨by rw [hv j (by omega), low_at _ _ _ hj], by
      have e : cs.getD j 0 = cs[j] := by simp [List.getD_eq_getElem?_getD, hj]
      show ¬ 255 < cs.getD j 0
      rw [e]; exact h _ (List.getElem_mem _)⟩⟩
  · rw [n32 (by omega)] at hs
    obtain ⟨j, hj, rfl⟩ := List.getElem_of_mem hc
    exact Or.inr ⟨rfl, hs, fun j hj => ⟨by rw [hv _ (by omega), wide_lo _ _ _ hj], by rw [hv _ (by omega), wide_hi _ _ _ hj]⟩, j, hj, by
      have e : cs.getD j 0 = cs[j] := by simp [List.getD_eq_getElem?_getD, hj]
      show 255 < cs.getD j 0
      rw [e]; exact hw⟩
/-- an object of exactly java/lang/String, its two fields found: as the laws ask it -/
theorem strObj {Z U : State} {a0 : Array Value} {kI : Nat} (wi : (Jvm.Cond.instantiable ST kI).before a0 Z = true) (al : Z.vm.Alike U.vm) {x : Addr} {v0 c0 : Value} (E : RoadKit.Exa Z U.heap x ST) (V : RoadKit.Fld Z U.heap x ST "value" "[B" v0) (C : RoadKit.Fld Z U.heap x ST "coder" "B" c0) :
    ∃ (D : Cell) (fV fC : Field), Blank ST x D U ∧ Found ST "value" "[B" fV U ∧ Found ST "coder" "B" fC U ∧ D.slots[fV.slot]? = some v0 ∧ D.slots[fC.slot]? = some c0 ∧ RoadKit.slotOf Z ST "value" "[B" = fV.slot ∧ RoadKit.slotOf Z ST "coder" "B" = fC.slot := by
  obtain ⟨D, cfV, kV, iV, fV, hD, gV, stV, knV, obV, asV, slV⟩ := V
  obtain ⟨D', cfC, kC, iC, fC, hD', gC, stC, -, -, asC, slC⟩ := C
  cases hD.symm.trans hD'
  obtain ⟨D2, kD, e1, e2, e3, e4, e5⟩ := E
  cases hD.symm.trans e1
  obtain ⟨c2, k2, i1, i2, i3, -⟩ := Cond.instantiable_spec wi
  cases e2.symm.trans i1
  cases e3.symm.trans i2
  obtain ⟨kU, u1, u2⟩ := al.2.2 _ _ e3
  exact ⟨D, fV, fC, ⟨hD, ⟨knV, fun q hq => by rw [hq] at obV; cases obV⟩, by rw [al.findClass]; exact e2, kU, u1, by rw [u2]; exact i3, by rw [u2]; exact e5 i3⟩, ⟨SBG.found_only al ⟨cfV, kV, iV, gV⟩, stV⟩, ⟨SBG.found_only al ⟨cfC, kC, iC, gC⟩, stC⟩, slV, slC, by simp [RoadKit.slotOf, gV], by simp [RoadKit.slotOf, gC]⟩
theorem sta_is {Z U : State} (al : Z.vm.Alike U.vm) {C n d : String} {v : Value} (S : RoadKit.Sta Z U.heap C n d v) : StaticIs U C n d v := by
  obtain ⟨cfS, iS, kS, fS, st, cS, t1, t2, t3, t4, t5, t6, t7⟩ := S
  exact StaticIs.there (s := { Z with heap := U.heap }) ⟨cfS, iS, kS, fS, st, cS, t1, t2, t3, t4, t5, (fun q => by rw [q] at t6; cases t6), t7⟩ al rfl
end StrChars.Road
namespace StrChars
open Jvm Sem ClassFile Op Lib Jvm.Stand Jvm.Free.XT Jvm.Free.ALB Jvm.Free.JM Jvm.Free
open Jvm.Lib.Cold (StaticIs)
/-- what place i of a byte[]'s cell holds -/
def yv (A : Cell) (i : Nat) : Int32 := match A.slots[i]? with | some (.int x) => x | _ => 0
theorem yv_get {a : Addr} {A : Cell} {U : State} (h : XT.Arr .byte a A U) (ht : Typed .byte A) {i : Nat} (hi : i < A.slots.size) : A.slots[i]? = some (.int (yv A i)) := by
  have e := Array.getElem?_eq_getElem hi
  have f := ht i _ e
  unfold yv; rw [e]
  generalize A.slots[i] = v at f
  cases v <;> simp [fits] at f ⊢
/-- the two arrays are equal, place for place -/
def EqC (A B : Cell) : Prop := A.slots.size = B.slots.size ∧ ∀ i, i < A.slots.size → yv A i = yv B i
/-- a boolean that says whether p -/
def Says01 (q : Prop) (r : Option Value) (s u : State) : Prop := ∃ v : Int32, r = some (.int v) ∧ u.heap = s.heap ∧ ((v = 1 ∧ q) ∨ (v = 0 ∧ ¬ q))
theorem Says01.mv {q : Prop} : ∀ r (U U' V V' : State), U'.heap = U.heap → V.vm.Alike V'.vm → V'.heap = V.heap → Says01 q r U V → Says01 q r U' V' :=
  fun r U U' V V' h1 _ h2 ⟨v, a, b, c⟩ => ⟨v, a, by rw [h1, h2]; exact b, c⟩
namespace LEq
def yN : MethodName := ⟨"java/lang/StringLatin1", "equals", "([B[B)Z"⟩
abbrev yB : ByteArray := jdk_43_method_13_code
theorem d0 : decode yB 0 = .ok (.aload_n 0, 1) := by decide +kernel
theorem d1 : decode yB 1 = .ok (.arraylength, 1) := by decide +kernel
theorem d2 : decode yB 2 = .ok (.aload_n 1, 1) := by decide +kernel
theorem d3 : decode yB 3 = .ok (.arraylength, 1) := by decide +kernel
theorem d4 : decode yB 4 = .ok (.if_icmp (.ne) 30, 3) := by decide +kernel
theorem d7 : decode yB 7 = .ok (.iconst 0, 1) := by decide +kernel
theorem d8 : decode yB 8 = .ok (.istore_n 2, 1) := by decide +kernel
theorem d9 : decode yB 9 = .ok (.iload_n 2, 1) := by decide +kernel
theorem d10 : decode yB 10 = .ok (.aload_n 0, 1) := by decide +kernel
theorem d11 : decode yB 11 = .ok (.arraylength, 1) := by decide +kernel
theorem d12 : decode yB 12 = .ok (.if_icmp (.ge) 20, 3) := by decide +kernel
theorem d15 : decode yB 15 = .ok (.aload_n 0, 1) := by decide +kernel
theorem d16 : decode yB 16 = .ok (.iload_n 2, 1) := by decide +kernel
theorem d17 : decode yB 17 = .ok (.baload, 1) := by decide +kernel
theorem d18 : decode yB 18 = .ok (.aload_n 1, 1) := by decide +kernel
theorem d19 : decode yB 19 = .ok (.iload_n 2, 1) := by decide +kernel
theorem d20 : decode yB 20 = .ok (.baload, 1) := by decide +kernel
theorem d21 : decode yB 21 = .ok (.if_icmp (.eq) 5, 3) := by decide +kernel
theorem d24 : decode yB 24 = .ok (.iconst 0, 1) := by decide +kernel
theorem d25 : decode yB 25 = .ok (.ireturn, 1) := by decide +kernel
theorem d26 : decode yB 26 = .ok (.iinc 2 1, 3) := by decide +kernel
theorem d29 : decode yB 29 = .ok (.goto (-20), 3) := by decide +kernel
theorem d32 : decode yB 32 = .ok (.iconst 1, 1) := by decide +kernel
theorem d33 : decode yB 33 = .ok (.ireturn, 1) := by decide +kernel
theorem d34 : decode yB 34 = .ok (.iconst 0, 1) := by decide +kernel
theorem d35 : decode yB 35 = .ok (.ireturn, 1) := by decide +kernel
def site : List Cond := []
def tab : Cond := tabOf yN yB 3 (some .boolean) site
def P (a : Addr) (A : Cell) (b : Addr) (B : Cell) (args : Array Value) (s : State) : Prop := args = #[.ref a, .ref b] ∧ XT.Arr .byte a A s ∧ Typed .byte A ∧ XT.Arr .byte b B s ∧ Typed .byte B
/-- whether two byte[] are equal, place for place -/
theorem law (l : Launch) (a : Addr) (A : Cell) (b : Addr) (B : Cell) : Law l yN 2 2 0 0 yB 3 (some .boolean) site (P a A b B) (Says01 (EqC A B)) [] 0 0 := by
  refine Law.of_walk (plainFor_of_name (by decide +kernel)) (by decide +kernel) (by decide +kernel) (by decide) (fun _ _ h => by rw [h.1]; rfl) (fun _ U U' hal hh h => ⟨h.1, h.2.1.mv hal hh, h.2.2.1, h.2.2.2.1.mv hal hh, h.2.2.2.2⟩) (fun r U U' V V' h1 hal h2 h => Says01.mv r U U' V V' h1 hal h2 h) ?_
  intro p e s m args below meth c s₁ X0 hexec hbytes hml hret hlk hnm hown hh0 W hP
  obtain ⟨rfl, hA, tA, hB, tB⟩ := hP
  have a31 := hA.2.2.2
  have b31 := hB.2.2.2
  have hA0 := hA.mv X0.warmed.alike hh0
  have hB0 := hB.mv X0.warmed.alike hh0
  have c1 : Steps p.tables e below (s₁.setTop (entryFrame m #[.ref a, .ref b] 3)) (s₁.setTop (mkF m 0 #[.val (.ref a), .val (.ref b), .unset] [])) := entry rfl
  have c2 : Steps p.tables e below (s₁.setTop (entryFrame m #[.ref a, .ref b] 3)) (s₁.setTop (mkF m 4 #[.val (.ref a), .val (.ref b), .unset] [.int (Int32.ofNat B.slots.size), .int (Int32.ofNat A.slots.size)])) := c1.trans (by
    refine XS.aloadN X0.here hexec rfl (hb hbytes d0) rfl rfl ?_
    refine X0.alen hexec hA0 rfl rfl (hb hbytes d1) ?_
    refine XS.aloadN X0.here hexec rfl (hb hbytes d2) rfl rfl ?_
    refine X0.alen hexec hB0 rfl rfl (hb hbytes d3) ?_
    exact Steps.refl _)
  by_cases hs : A.slots.size = B.slots.size
  · have c3 : Steps p.tables e below (s₁.setTop (entryFrame m #[.ref a, .ref b] 3)) (s₁.setTop (mkF m 9 #[.val (.ref a), .val (.ref b), .val (.int 0)] [])) := c2.trans (by
      refine XS.icmpNo X0.here hexec rfl (hb hbytes d4) rfl (ii_ne_f (by rw [hs])) ?_
      refine iconstV X0.here hexec rfl 0 (hb hbytes d7) (by decide) ?_
      refine XS.istoreN X0.here hexec rfl (hb hbytes d8) rfl rfl ?_
      exact Steps.refl _)
    have loop : ∀ (r i : Nat), i + r = A.slots.size → (∀ j, j < i → yv A j = yv B j) → Steps p.tables e below (s₁.setTop (entryFrame m #[.ref a, .ref b] 3)) (s₁.setTop (mkF m 9 #[.val (.ref a), .val (.ref b), .val (.int (Int32.ofNat i))] [])) → ∃ (pc : Nat) (Ls : Array Slot) (v : Int32), (pc = 25 ∨ pc = 33) ∧ ((v = 1 ∧ EqC A B) ∨ (v = 0 ∧ ¬ EqC A B)) ∧ Steps p.tables e below (s₁.setTop (entryFrame m #[.ref a, .ref b] 3)) (s₁.setTop (mkF m pc Ls [.int v])) := by
      intro r
      induction r with
      | zero =>
        intro i hi he cl
        exact ⟨33, _, 1, Or.inr rfl, Or.inl ⟨rfl, hs, fun j hj => he j (by omega)⟩, cl.trans (by
          refine XS.iloadN X0.here hexec rfl (hb hbytes d9) rfl ?_
          refine XS.aloadN X0.here hexec rfl (hb hbytes d10) rfl rfl ?_
          refine X0.alen hexec hA0 rfl rfl (hb hbytes d11) ?_
          refine XS.icmpYes X0.here hexec rfl (pc0 := 12) rfl (hb hbytes d12) rfl (ii_ge_t (nlt32 (by omega) (by omega))) (by decide) rfl ?_
          refine iconstV X0.here hexec rfl 1 (hb hbytes d32) (by decide) ?_
          exact Steps.refl _)⟩
      | succ r ih =>
        intro i hi he cl
        have c4 : Steps p.tables e below (s₁.setTop (entryFrame m #[.ref a, .ref b] 3)) (s₁.setTop (mkF m 21 #[.val (.ref a), .val (.ref b), .val (.int (Int32.ofNat i))] [.int (yv B i), .int (yv A i)])) := cl.trans (by
          refine XS.iloadN X0.here hexec rfl (hb hbytes d9) rfl ?_
          refine XS.aloadN X0.here hexec rfl (hb hbytes d10) rfl rfl ?_
          refine X0.alen hexec hA0 rfl rfl (hb hbytes d11) ?_
          refine XS.icmpNo X0.here hexec rfl (hb hbytes d12) rfl (ii_ge_f (lt32 (by omega) (by omega))) ?_
          refine XS.aloadN X0.here hexec rfl (hb hbytes d15) rfl rfl ?_
          refine XS.iloadN X0.here hexec rfl (hb hbytes d16) rfl ?_
          refine X0.aget hexec hA0 rfl (yv_get hA tA (i := i) (by omega)) rfl rfl (hb hbytes d17) ?_
          refine XS.aloadN X0.here hexec rfl (hb hbytes d18) rfl rfl ?_
          refine XS.iloadN X0.here hexec rfl (hb hbytes d19) rfl ?_
          refine X0.aget hexec hB0 rfl (yv_get hB tB (i := i) (by omega)) rfl rfl (hb hbytes d20) ?_
          exact Steps.refl _)
        by_cases hv : yv A i = yv B i
        · have c5 : Steps p.tables e below (s₁.setTop (entryFrame m #[.ref a, .ref b] 3)) (s₁.setTop (mkF m 9 #[.val (.ref a), .val (.ref b), .val (.int (Int32.ofNat i + 1))] [])) := c4.trans (by
            refine XS.icmpYes X0.here hexec rfl (pc0 := 21) rfl (hb hbytes d21) rfl (ii_eq_t hv) (by decide) rfl ?_
            refine iincV X0.here hexec rfl 1 (hb hbytes d26) (by decide) rfl rfl ?_
            refine XS.goto X0.here hexec rfl (pc0 := 29) rfl (hb hbytes d29) (by decide) rfl ?_
            exact Steps.refl _)
          rw [succ32] at c5
          exact ih (i + 1) (by omega) (fun j hj => by
            by_cases e : j = i
            · rw [e]; exact hv
            · exact he j (by omega)) c5
        · exact ⟨25, _, 0, Or.inl rfl, Or.inr ⟨rfl, fun q => hv (q.2 i (by omega))⟩, c4.trans (by
            refine XS.icmpNo X0.here hexec rfl (hb hbytes d21) rfl (ii_eq_f hv) ?_
            refine iconstV X0.here hexec rfl 0 (hb hbytes d24) (by decide) ?_
            exact Steps.refl _)⟩
    obtain ⟨pc, Ls, v, hpc, hv, cz⟩ := loop A.slots.size 0 (by omega) (fun j hj => absurd hj (Nat.not_lt_zero j)) c3
    have nv : narrow .boolean (.int v) = .int v := by rcases hv with ⟨rfl, -⟩ | ⟨rfl, -⟩ <;> rfl
    rcases hpc with rfl | rfl
    · exact ⟨s₁, some (.int v), _, _, _, X0, rfl, rfl, rfl, (fun h => by cases h), ⟨v, rfl, hh0, hv⟩, fun fs hl => cz.trans (X0.ireturnOut hexec hret nv (Or.inr (Or.inl rfl)) (hb hbytes d25) hl)⟩
    · exact ⟨s₁, some (.int v), _, _, _, X0, rfl, rfl, rfl, (fun h => by cases h), ⟨v, rfl, hh0, hv⟩, fun fs hl => cz.trans (X0.ireturnOut hexec hret nv (Or.inr (Or.inl rfl)) (hb hbytes d33) hl)⟩
  · have c3 : Steps p.tables e below (s₁.setTop (entryFrame m #[.ref a, .ref b] 3)) (s₁.setTop (mkF m 35 #[.val (.ref a), .val (.ref b), .unset] [.int 0])) := c2.trans (by
      refine XS.icmpYes X0.here hexec rfl (pc0 := 4) rfl (hb hbytes d4) rfl (ii_ne_t (ne32 a31 b31 hs)) (by decide) rfl ?_
      refine iconstV X0.here hexec rfl 0 (hb hbytes d34) (by decide) ?_
      exact Steps.refl _)
    exact ⟨s₁, some (.int 0), _, _, _, X0, rfl, rfl, rfl, (fun h => by cases h), ⟨0, rfl, hh0, Or.inr ⟨rfl, fun q => hs q.1⟩⟩, fun fs hl => c3.trans (X0.ireturnOut hexec hret rfl (Or.inr (Or.inl rfl)) (hb hbytes d35) hl)⟩
end LEq
theorem Cod.ty {cd : Int32} {n : Nat} {f : Nat → Int32} {V : Cell} (h : Cod cd n f V) : Typed .byte V := fun i v hv => by
  have hi : i < V.slots.size := (Array.getElem?_eq_some_iff.mp hv).1
  rcases h with ⟨-, k1, k2⟩ | ⟨-, k1, k2, -⟩
  · rw [(k2 i (by omega)).1] at hv; cases hv; exact fits_lo8 _
  · rcases Nat.mod_two_eq_zero_or_one i with e | e
    · obtain ⟨j, rfl⟩ : ∃ j, i = 2 * j := ⟨i / 2, by omega⟩
      rw [(k2 j (by omega)).1] at hv; cases hv; exact fits_lo8 _
    · obtain ⟨j, rfl⟩ : ∃ j, i = 2 * j + 1 := ⟨i / 2, by omega⟩
      rw [(k2 j (by omega)).2] at hv; cases hv; exact fits_lo8 _
/-- the same text -/
def SameT (n : Nat) (f : Nat → Int32) (k : Nat) (g : Nat → Int32) : Prop := n = k ∧ ∀ j, j < n → f j = g j
theorem lo8_inj {x y : Int32} (h0 : ¬ x < 0) (h1 : ¬ 255 < x) (k0 : ¬ y < 0) (k1 : ¬ 255 < y) (h : lo8 x = lo8 y) : x = y := by
  rw [← lo8_mask h0 h1, ← lo8_mask k0 k1, h]
/-- arrays coded by one coder are equal just where the texts are -/
theorem Cod.eqv {cd : Int32} {n k : Nat} {f g : Nat → Int32} {V V' : Cell} (h : Cod cd n f V) (h' : Cod cd k g V') (hf : ∀ j, j < n → ¬ f j < 0 ∧ ¬ 65535 < f j) (hg : ∀ j, j < k → ¬ g j < 0 ∧ ¬ 65535 < g j) : EqC V V' ↔ SameT n f k g := by
  have yvv : ∀ {W : Cell} {i : Nat} {x : Int32}, W.slots[i]? = some (.int x) → yv W i = x := fun q => by unfold yv; rw [q]
  rcases h with ⟨rfl, k1, k2⟩ | ⟨rfl, k1, k2, -⟩
  · rcases h' with ⟨-, m1, m2⟩ | ⟨e, -⟩
    · constructor
      · rintro ⟨e1, e2⟩
        refine ⟨by omega, fun j hj => ?_⟩
        have q := e2 j (by omega)
        rw [yvv (k2 j hj).1, yvv (m2 j (by omega)).1] at q
        exact lo8_inj (hf j hj).1 (k2 j hj).2 (hg j (by omega)).1 (m2 j (by omega)).2 q
      · rintro ⟨rfl, e2⟩
        refine ⟨by omega, fun j hj => ?_⟩
        rw [yvv (k2 j (by omega)).1, yvv (m2 j (by omega)).1, e2 j (by omega)]
    · exact absurd e (by decide)
  · rcases h' with ⟨e, -⟩ | ⟨-, m1, m2, -⟩
    · exact absurd e (by decide)
    · constructor
      · rintro ⟨e1, e2⟩
        refine ⟨by omega, fun j hj => ?_⟩
        have q1 := e2 (2 * j) (by omega)
        have q2 := e2 (2 * j + 1) (by omega)
        rw [yvv (k2 j hj).1, yvv (m2 j (by omega)).1] at q1
        rw [yvv (k2 j hj).2, yvv (m2 j (by omega)).2] at q2
        rw [← pair_says (hf j hj).1 (hf j hj).2, ← pair_says (hg j (by omega)).1 (hg j (by omega)).2, q1, q2]
      · rintro ⟨rfl, e2⟩
        refine ⟨by omega, fun i hi => ?_⟩
        rcases Nat.mod_two_eq_zero_or_one i with e | e
        · obtain ⟨j, rfl⟩ : ∃ j, i = 2 * j := ⟨i / 2, by omega⟩
          rw [yvv (k2 j (by omega)).1, yvv (m2 j (by omega)).1, e2 j (by omega)]
        · obtain ⟨j, rfl⟩ : ∃ j, i = 2 * j + 1 := ⟨i / 2, by omega⟩
          rw [yvv (k2 j (by omega)).2, yvv (m2 j (by omega)).2, e2 j (by omega)]
/-- two codings differ: so do the texts -/
theorem Cod.dif {cd cd' : Int32} {n k : Nat} {f g : Nat → Int32} {V V' : Cell} (h : Cod cd n f V) (h' : Cod cd' k g V') (hne : ¬ cd = cd') : ¬ SameT n f k g := by
  rintro ⟨rfl, e⟩
  rcases h with ⟨rfl, -, k2⟩ | ⟨rfl, -, -, j, hj, hw⟩
  · rcases h' with ⟨rfl, -⟩ | ⟨-, -, -, j, hj, hw⟩
    · exact hne rfl
    · exact (k2 j hj).2 (by rw [e j hj]; exact hw)
  · rcases h' with ⟨-, -, m2⟩ | ⟨rfl, -⟩
    · exact (m2 j hj).2 (by rw [← e j hj]; exact hw)
    · exact hne rfl
/-- an object of exactly C is an instance of C -/
theorem cinst {p : Program} {l : Launch} {e : Env} {R : Room} {s : State} {m : MethodId} {args : Array Value} {below : List Frame} {meth : Method} {c : Code} {T : State} {locs : List Loc} {cells slots : Nat} (X : Stand p l e R s m args below meth c T locs cells slots) (hexec : p.tables.exec = Jvm.exec) {own C : String} {index : Nat} (hown : s.vm.findClass own = some m.cls) (hlink : (Cond.classLink own index C).before args s = true) {a : Addr} (hE : Exact C a T)
    {g : JFrame} (hg : g.method = m) {rest : List Value} (hstack : g.stack = .ref a :: rest) (hdg : decode c.code g.pc = .ok (.instanceof index, 3)) :
    ∃ T', Stand p l e R s m args below meth c T' locs cells slots ∧ T'.heap = T.heap ∧ ∀ target, Steps p.tables e below (T'.setTop { g with pc := g.pc + 3, stack := .int 1 :: rest }) target → Steps p.tables e below (T.setTop g) target := by
  obtain ⟨cB, h1, D, h2, h3, h4⟩ := hE
  have h1' : s.vm.findClass C = some cB := by rw [← X.warmed.alike.findClass]; exact h1
  obtain ⟨vm', X', st⟩ := X.instanceofYes hexec hown hlink h2 h4 h1' (by rw [h3]; exact Jvm.Free.SB.assignable_self _ _) hg hstack hdg
  exact ⟨_, X', rfl, st⟩
theorem cself {p : Program} {l : Launch} {e : Env} {R : Room} {s : State} {m : MethodId} {args : Array Value} {below : List Frame} {meth : Method} {c : Code} {T : State} {locs : List Loc} {cells slots : Nat} (X : Stand p l e R s m args below meth c T locs cells slots) (hexec : p.tables.exec = Jvm.exec) {own C : String} {index : Nat} (hown : s.vm.findClass own = some m.cls) (hlink : (Cond.classLink own index C).before args s = true) {a : Addr} (hE : Exact C a T)
    {g : JFrame} (hg : g.method = m) {rest : List Value} (hstack : g.stack = .ref a :: rest) (hdg : decode c.code g.pc = .ok (.checkcast index, 3)) :
    ∃ T', Stand p l e R s m args below meth c T' locs cells slots ∧ T'.heap = T.heap ∧ ∀ target, Steps p.tables e below (T'.setTop { g with pc := g.pc + 3, stack := .ref a :: rest }) target → Steps p.tables e below (T.setTop g) target := by
  obtain ⟨cB, h1, D, h2, h3, h4⟩ := hE
  have h1' : s.vm.findClass C = some cB := by rw [← X.warmed.alike.findClass]; exact h1
  obtain ⟨vm', X', st⟩ := X.checkcastYes hexec hown hlink h2 h4 h1' (by rw [h3]; exact Jvm.Free.SB.assignable_self _ _) hg hstack hdg
  exact ⟨_, X', rfl, fun t h => st t (by rw [← hstack] at h; exact h)⟩
namespace SEq
def yN : MethodName := ⟨"java/lang/String", "equals", "(Ljava/lang/Object;)Z"⟩
abbrev yB : ByteArray := jdk_42_method_66_code
theorem d0 : decode yB 0 = .ok (.aload_n 0, 1) := by decide +kernel
theorem d1 : decode yB 1 = .ok (.aload_n 1, 1) := by decide +kernel
theorem d2 : decode yB 2 = .ok (.if_acmp (.ne) 5, 3) := by decide +kernel
theorem d5 : decode yB 5 = .ok (.iconst 1, 1) := by decide +kernel
theorem d6 : decode yB 6 = .ok (.ireturn, 1) := by decide +kernel
theorem d7 : decode yB 7 = .ok (.aload_n 1, 1) := by decide +kernel
theorem d8 : decode yB 8 = .ok (.instanceof 10, 3) := by decide +kernel
theorem d11 : decode yB 11 = .ok (.ifCond (.eq) 43, 3) := by decide +kernel
theorem d14 : decode yB 14 = .ok (.aload_n 1, 1) := by decide +kernel
theorem d15 : decode yB 15 = .ok (.checkcast 10, 3) := by decide +kernel
theorem d18 : decode yB 18 = .ok (.astore_n 2, 1) := by decide +kernel
theorem d19 : decode yB 19 = .ok (.getstatic 38, 3) := by decide +kernel
theorem d22 : decode yB 22 = .ok (.ifCond (.eq) 14, 3) := by decide +kernel
theorem d25 : decode yB 25 = .ok (.aload_n 0, 1) := by decide +kernel
theorem d26 : decode yB 26 = .ok (.getfield 15, 3) := by decide +kernel
theorem d29 : decode yB 29 = .ok (.aload_n 2, 1) := by decide +kernel
theorem d30 : decode yB 30 = .ok (.getfield 15, 3) := by decide +kernel
theorem d33 : decode yB 33 = .ok (.if_icmp (.ne) 21, 3) := by decide +kernel
theorem d36 : decode yB 36 = .ok (.aload_n 0, 1) := by decide +kernel
theorem d37 : decode yB 37 = .ok (.getfield 9, 3) := by decide +kernel
theorem d40 : decode yB 40 = .ok (.aload_n 2, 1) := by decide +kernel
theorem d41 : decode yB 41 = .ok (.getfield 9, 3) := by decide +kernel
theorem d44 : decode yB 44 = .ok (.invokestatic 541, 3) := by decide +kernel
theorem d47 : decode yB 47 = .ok (.ifCond (.eq) 7, 3) := by decide +kernel
theorem d50 : decode yB 50 = .ok (.iconst 1, 1) := by decide +kernel
theorem d51 : decode yB 51 = .ok (.goto 4, 3) := by decide +kernel
theorem d54 : decode yB 54 = .ok (.iconst 0, 1) := by decide +kernel
theorem d55 : decode yB 55 = .ok (.ireturn, 1) := by decide +kernel
def site : List Cond := [.classLink "java/lang/String" 10 "java/lang/String", .fieldLink "java/lang/String" 38 "java/lang/String" "COMPACT_STRINGS" "Z", .fieldLink "java/lang/String" 15 "java/lang/String" "coder" "B", .fieldLink "java/lang/String" 9 "java/lang/String" "value" "[B", LEq.tab] ++ staticW "java/lang/String" 541 LEq.yN
def tab : Cond := tabOf yN yB 3 (some .boolean) site
def P (x t : Addr) (V : Cell) (cd : Int32) (n : Nat) (f : Nat → Int32) (y t' : Addr) (V' : Cell) (cd' : Int32) (k : Nat) (g : Nat → Int32) (z : Int32) (args : Array Value) (s : State) : Prop := args = #[.ref x, .ref y] ∧ Txt x t V cd n f s ∧ Txt y t' V' cd' k g s ∧ StaticIs s "java/lang/String" "COMPACT_STRINGS" "Z" (.int z) ∧ ¬ z = 0
/-- equals(Object) of two Strings: whether the texts are the same -/
theorem law (l : Launch) (x t : Addr) (V : Cell) (cd : Int32) (n : Nat) (f : Nat → Int32) (y t' : Addr) (V' : Cell) (cd' : Int32) (k : Nat) (g : Nat → Int32) (z : Int32) : Law l yN 2 1 1 14 yB 3 (some .boolean) site (P x t V cd n f y t' V' cd' k g z) (Says01 (SameT n f k g)) [] 0 0 := by
  refine Law.of_walk (plainFor_of_name (by decide +kernel)) (by decide +kernel) (by decide +kernel) (by decide) (fun _ _ h => by rw [h.1]; rfl) (fun _ U U' hal hh h => ⟨h.1, h.2.1.mv hal hh, h.2.2.1.mv hal hh, h.2.2.2.1.there hal hh, h.2.2.2.2⟩) (fun r U U' V V' h1 hal h2 h => Says01.mv r U U' V V' h1 hal h2 h) ?_
  intro p e s m args below meth c s₁ X0 hexec hbytes hml hret hlk hnm hown hh0 W hP
  obtain ⟨rfl, hx, hy, s1, hz⟩ := hP
  have c1 : Steps p.tables e below (s₁.setTop (entryFrame m #[.ref x, .ref y] 3)) (s₁.setTop (mkF m 2 #[.val (.ref x), .val (.ref y), .unset] [.ref y, .ref x])) := Steps.trans (entry rfl) (by
    show Steps p.tables e below (s₁.setTop (mkF m 0 #[.val (.ref x), .val (.ref y), .unset] [])) _
    refine XS.aloadN X0.here hexec rfl (hb hbytes d0) rfl rfl ?_
    refine XS.aloadN X0.here hexec rfl (hb hbytes d1) rfl rfl ?_
    exact Steps.refl _)
  by_cases hxy : x = y
  · have c2 : Steps p.tables e below (s₁.setTop (entryFrame m #[.ref x, .ref y] 3)) (s₁.setTop (mkF m 6 #[.val (.ref x), .val (.ref y), .unset] [.int 1])) := c1.trans (by
      refine acmpNo X0.here hexec rfl (hb hbytes d2) rfl rfl rfl (by simp [acmp, hxy]) ?_
      refine iconstV X0.here hexec rfl 1 (hb hbytes d5) (by decide) ?_
      exact Steps.refl _)
    subst hxy
    have ec : cd = cd' := by
      obtain ⟨D, fd, a1, a2, a3⟩ := hx.2.2.1
      obtain ⟨D', fd', b1, b2, b3⟩ := hy.2.2.1
      cases a1.symm.trans b1
      obtain ⟨q1, q2, q3, q4⟩ := a2.1
      obtain ⟨r1, r2, r3, r4⟩ := b2.1
      cases q4.symm.trans r4
      cases a3.symm.trans b3; rfl
    have et : t = t' := by
      obtain ⟨D, fd, a1, a2, a3⟩ := hx.2.1
      obtain ⟨D', fd', b1, b2, b3⟩ := hy.2.1
      cases a1.symm.trans b1
      obtain ⟨q1, q2, q3, q4⟩ := a2.1
      obtain ⟨r1, r2, r3, r4⟩ := b2.1
      cases q4.symm.trans r4
      cases a3.symm.trans b3; rfl
    subst ec et
    have ev : V = V' := by cases hx.2.2.2.1.1.symm.trans hy.2.2.2.1.1; rfl
    subst ev
    have hs : SameT n f k g := (Cod.eqv hx.2.2.2.2.1 hy.2.2.2.2.1 hx.2.2.2.2.2 hy.2.2.2.2.2).mp ⟨rfl, fun _ _ => rfl⟩
    exact ⟨s₁, some (.int 1), _, _, _, X0, rfl, rfl, rfl, (fun h => by cases h), ⟨1, rfl, hh0, Or.inl ⟨rfl, hs⟩⟩, fun fs hl => c2.trans (X0.ireturnOut hexec hret rfl (Or.inr (Or.inl rfl)) (hb hbytes d6) hl)⟩
  · have c2 : Steps p.tables e below (s₁.setTop (entryFrame m #[.ref x, .ref y] 3)) (s₁.setTop (mkF m 8 #[.val (.ref x), .val (.ref y), .unset] [.ref y])) := c1.trans (by
      refine acmpYes X0.here hexec rfl (pc0 := 2) rfl (hb hbytes d2) rfl rfl rfl (by simp [acmp, hxy]) (by decide) rfl ?_
      refine XS.aloadN X0.here hexec rfl (hb hbytes d7) rfl rfl ?_
      exact Steps.refl _)
    obtain ⟨T3, X3, q3, st3⟩ := cinst X0 hexec hown (wk W (.classLink "java/lang/String" 10 "java/lang/String")) (hy.mv X0.warmed.alike hh0).1 (g := (mkF m 8 #[.val (.ref x), .val (.ref y), .unset] [.ref y])) rfl (rest := []) rfl (hb hbytes d8)
    have hh3 := q3.trans hh0
    have c4 : Steps p.tables e below (s₁.setTop (entryFrame m #[.ref x, .ref y] 3)) (T3.setTop (mkF m 15 #[.val (.ref x), .val (.ref y), .unset] [.ref y])) := (c2.trans (st3 _ (Steps.refl _))).trans (by
      refine XS.ifNo X3.here hexec rfl (hb hbytes d11) rfl (i0_eq_f (by decide)) ?_
      refine XS.aloadN X3.here hexec rfl (hb hbytes d14) rfl rfl ?_
      exact Steps.refl _)
    obtain ⟨T5, X5, q5, st5⟩ := cself X3 hexec hown (wk W (.classLink "java/lang/String" 10 "java/lang/String")) (hy.mv X3.warmed.alike hh3).1 (g := (mkF m 15 #[.val (.ref x), .val (.ref y), .unset] [.ref y])) rfl (rest := []) rfl (hb hbytes d15)
    have hh5 := q5.trans hh3
    have c6 : Steps p.tables e below (s₁.setTop (entryFrame m #[.ref x, .ref y] 3)) (T5.setTop (mkF m 19 #[.val (.ref x), .val (.ref y), .val (.ref y)] [])) := (c4.trans (st5 _ (Steps.refl _))).trans (by
      refine XS.astoreN X5.here hexec rfl (hb hbytes d18) rfl rfl rfl ?_
      exact Steps.refl _)
    obtain ⟨T7, X7, q7, st7⟩ := X5.sget hexec hown (wk W (.fieldLink "java/lang/String" 38 "java/lang/String" "COMPACT_STRINGS" "Z")) s1 (fun _ _ h => by rw [hh5]; exact h) (g := (mkF m 19 #[.val (.ref x), .val (.ref y), .val (.ref y)] [])) rfl (hb hbytes d19)
    have hh7 := q7.trans hh5
    have c8 : Steps p.tables e below (s₁.setTop (entryFrame m #[.ref x, .ref y] 3)) (T7.setTop (mkF m 26 #[.val (.ref x), .val (.ref y), .val (.ref y)] [.ref x])) := (c6.trans (st7 _ (Steps.refl _))).trans (by
      refine XS.ifNo X7.here hexec rfl (hb hbytes d22) rfl (i0_eq_f hz) ?_
      refine XS.aloadN X7.here hexec rfl (hb hbytes d25) rfl rfl ?_
      exact Steps.refl _)
    obtain ⟨T9, X9, q9, st9⟩ := X7.hget hexec hown (wk W (.fieldLink "java/lang/String" 15 "java/lang/String" "coder" "B")) (hx.mv X7.warmed.alike hh7).2.2.1 (g := (mkF m 26 #[.val (.ref x), .val (.ref y), .val (.ref y)] [.ref x])) rfl (rest := []) rfl (hb hbytes d26)
    have hh9 := q9.trans hh7
    have c10 : Steps p.tables e below (s₁.setTop (entryFrame m #[.ref x, .ref y] 3)) (T9.setTop (mkF m 30 #[.val (.ref x), .val (.ref y), .val (.ref y)] [.ref y, .int cd])) := (c8.trans (st9 _ (Steps.refl _))).trans (by
      refine XS.aloadN X9.here hexec rfl (hb hbytes d29) rfl rfl ?_
      exact Steps.refl _)
    obtain ⟨T11, X11, q11, st11⟩ := X9.hget hexec hown (wk W (.fieldLink "java/lang/String" 15 "java/lang/String" "coder" "B")) (hy.mv X9.warmed.alike hh9).2.2.1 (g := (mkF m 30 #[.val (.ref x), .val (.ref y), .val (.ref y)] [.ref y, .int cd])) rfl (rest := [.int cd]) rfl (hb hbytes d30)
    have hh11 := q11.trans hh9
    have c12 : Steps p.tables e below (s₁.setTop (entryFrame m #[.ref x, .ref y] 3)) (T11.setTop (mkF m 33 #[.val (.ref x), .val (.ref y), .val (.ref y)] [.int cd', .int cd])) := c10.trans (st11 _ (Steps.refl _))
    by_cases hcd : cd = cd'
    · subst hcd
      have c13 : Steps p.tables e below (s₁.setTop (entryFrame m #[.ref x, .ref y] 3)) (T11.setTop (mkF m 37 #[.val (.ref x), .val (.ref y), .val (.ref y)] [.ref x])) := c12.trans (by
        refine XS.icmpNo X11.here hexec rfl (hb hbytes d33) rfl (ii_ne_f rfl) ?_
        refine XS.aloadN X11.here hexec rfl (hb hbytes d36) rfl rfl ?_
        exact Steps.refl _)
      obtain ⟨T14, X14, q14, st14⟩ := X11.hget hexec hown (wk W (.fieldLink "java/lang/String" 9 "java/lang/String" "value" "[B")) (hx.mv X11.warmed.alike hh11).2.1 (g := (mkF m 37 #[.val (.ref x), .val (.ref y), .val (.ref y)] [.ref x])) rfl (rest := []) rfl (hb hbytes d37)
      have hh14 := q14.trans hh11
      have c15 : Steps p.tables e below (s₁.setTop (entryFrame m #[.ref x, .ref y] 3)) (T14.setTop (mkF m 41 #[.val (.ref x), .val (.ref y), .val (.ref y)] [.ref y, .ref t])) := (c13.trans (st14 _ (Steps.refl _))).trans (by
        refine XS.aloadN X14.here hexec rfl (hb hbytes d40) rfl rfl ?_
        exact Steps.refl _)
      obtain ⟨T16, X16, q16, st16⟩ := X14.hget hexec hown (wk W (.fieldLink "java/lang/String" 9 "java/lang/String" "value" "[B")) (hy.mv X14.warmed.alike hh14).2.1 (g := (mkF m 41 #[.val (.ref x), .val (.ref y), .val (.ref y)] [.ref y, .ref t])) rfl (rest := [.ref t]) rfl (hb hbytes d41)
      have hh16 := q16.trans hh14
      have c17 : Steps p.tables e below (s₁.setTop (entryFrame m #[.ref x, .ref y] 3)) (T16.setTop (mkF m 44 #[.val (.ref x), .val (.ref y), .val (.ref y)] [.ref t', .ref t])) := c15.trans (st16 _ (Steps.refl _))
      obtain ⟨v18, T18, X18, E18, g18⟩ := X16.callS hexec (LEq.law l t V t' V') hown (wks W (staticW "java/lang/String" 541 LEq.yN)) (wk W LEq.tab) (W := 0) (Nat.le_of_ble_eq_true rfl) (Nat.le_of_ble_eq_true rfl) (Nat.le_refl _) (Nat.le_refl _) (g := (mkF m 44 #[.val (.ref x), .val (.ref y), .val (.ref y)] [.ref t', .ref t])) rfl (by rw [hml]; rfl) c17 (argsL := [.ref t, .ref t']) (rest := []) rfl rfl (by show 2 * 0 + 0 ≤ _; decide) (hb hbytes d44) (⟨rfl, hx.2.2.2.1.mv X16.warmed.alike hh16, hx.2.2.2.2.1.ty, hy.2.2.2.1.mv X16.warmed.alike hh16, hy.2.2.2.2.1.ty⟩)
      obtain ⟨v, rfl, q18, hv⟩ := E18
      have iff := Cod.eqv hx.2.2.2.2.1 hy.2.2.2.2.1 hx.2.2.2.2.2 hy.2.2.2.2.2
      rcases hv with ⟨rfl, he⟩ | ⟨rfl, he⟩
      · have c19 : Steps p.tables e below (s₁.setTop (entryFrame m #[.ref x, .ref y] 3)) (T18.setTop (mkF m 55 #[.val (.ref x), .val (.ref y), .val (.ref y)] [.int 1])) := Steps.trans g18 (by
          refine XS.ifNo X18.here hexec rfl (hb hbytes d47) rfl (i0_eq_f (by decide)) ?_
          refine iconstV X18.here hexec rfl 1 (hb hbytes d50) (by decide) ?_
          refine XS.goto X18.here hexec rfl (pc0 := 51) rfl (hb hbytes d51) (by decide) rfl ?_
          exact Steps.refl _)
        exact ⟨T18, some (.int 1), _, _, _, X18, rfl, rfl, rfl, (fun h => by cases h), ⟨1, rfl, q18.trans hh16, Or.inl ⟨rfl, iff.mp he⟩⟩, fun fs hl => c19.trans (X18.ireturnOut hexec hret rfl (Or.inr (Or.inl rfl)) (hb hbytes d55) hl)⟩
      · have c19 : Steps p.tables e below (s₁.setTop (entryFrame m #[.ref x, .ref y] 3)) (T18.setTop (mkF m 55 #[.val (.ref x), .val (.ref y), .val (.ref y)] [.int 0])) := Steps.trans g18 (by
          refine XS.ifYes X18.here hexec rfl (pc0 := 47) rfl (hb hbytes d47) rfl (i0_eq_t rfl) (by decide) rfl ?_
          refine iconstV X18.here hexec rfl 0 (hb hbytes d54) (by decide) ?_
          exact Steps.refl _)
        exact ⟨T18, some (.int 0), _, _, _, X18, rfl, rfl, rfl, (fun h => by cases h), ⟨0, rfl, q18.trans hh16, Or.inr ⟨rfl, fun q => he (iff.mpr q)⟩⟩, fun fs hl => c19.trans (X18.ireturnOut hexec hret rfl (Or.inr (Or.inl rfl)) (hb hbytes d55) hl)⟩
    · have c13 : Steps p.tables e below (s₁.setTop (entryFrame m #[.ref x, .ref y] 3)) (T11.setTop (mkF m 55 #[.val (.ref x), .val (.ref y), .val (.ref y)] [.int 0])) := c12.trans (by
        refine XS.icmpYes X11.here hexec rfl (pc0 := 33) rfl (hb hbytes d33) rfl (ii_ne_t hcd) (by decide) rfl ?_
        refine iconstV X11.here hexec rfl 0 (hb hbytes d54) (by decide) ?_
        exact Steps.refl _)
      exact ⟨T11, some (.int 0), _, _, _, X11, rfl, rfl, rfl, (fun h => by cases h), ⟨0, rfl, hh11, Or.inr ⟨rfl, Cod.dif hx.2.2.2.2.1 hy.2.2.2.2.1 hcd⟩⟩, fun fs hl => c13.trans (X11.ireturnOut hexec hret rfl (Or.inr (Or.inl rfl)) (hb hbytes d55) hl)⟩
theorem pays {l : Launch} {R : Room} {p : Program} {e : Env} {below : List Frame} {s : State} {sargs : Array Value} {len W : Nat} (x t : Addr) (V : Cell) (cd : Int32) (n : Nat) (f : Nat → Int32) (y t' : Addr) (V' : Cell) (cd' : Int32) (k : Nat) (g : Nat → Int32) (z : Int32) (htab : tab.before sargs s = true) (hfr : 2 ≤ R.frames) (hlo : W + 28 ≤ R.locals) :
    Back l R p e below s sargs yN len W (fun A₁ a₁ => A₁.cells + 0 ≤ R.cells ∧ A₁.slots + 0 ≤ R.slots ∧ P x t V cd n f y t' V' cd' k g z a₁ A₁.U) (fun A₁ _ v₁ B₁ => Says01 (SameT n f k g) v₁ A₁.U B₁.U ∧ B₁.locs = A₁.locs ++ [] ∧ B₁.cells = A₁.cells + 0 ∧ B₁.slots = A₁.slots + 0) :=
  (law l x t V cd n f y t' V' cd' k g z).pays htab hfr (by omega)
end SEq
end StrChars
namespace StrChars.Road
open Jvm Sem ClassFile Op Lib Jvm.Stand Jvm.Free Jvm.Free.XT
open Jvm.Lib.Cold (StaticIs)
/-- the words of String.equals(Object) -/
abbrev wordsEq : List Jvm.Cond := [.code SEq.yN SEq.yB 3 (some .boolean), .initialized ST, .classLink ST 10 ST, .fieldLink ST 38 ST "COMPACT_STRINGS" "Z", .fieldLink ST 15 ST "coder" "B", .fieldLink ST 9 ST "value" "[B", .methodLink ST 541 LEq.yN, .static LEq.yN, .code LEq.yN LEq.yB 3 (some .boolean), .initialized "java/lang/StringLatin1"]
theorem tabEq_of {a : Array Value} {s : State} (h : ∀ w ∈ wordsEq, w.before a s = true) : SEq.tab.before a s = true := by
  have hl : LEq.tab.before a s = true := unparts (wk h (.code LEq.yN LEq.yB 3 (some .boolean))) (wks h (.initialized LEq.yN.cls :: LEq.site))
  have q := consq hl h
  exact unparts (wk q (.code SEq.yN SEq.yB 3 (some .boolean))) (wks q (.initialized SEq.yN.cls :: SEq.site))
theorem movedEq {Z s : State} {a0 args : Array Value} (hZ : Z.Warmed39 s.vm) (hw : ∀ d ∈ wordsEq, d.before a0 Z = true) : ∀ d ∈ wordsEq, d.before args s = true := fun d hd => by
  have t : ∀ d ∈ wordsEq, (d.onTables && d.keepsFace) = true := by decide +kernel
  exact RoadKit.mv hZ (hw d hd) (t d hd)
/-- the road's facts of a String, as the laws ask it -/
theorem txt_of {Z U : State} {a0 : Array Value} {kI : Nat} (wi : (Jvm.Cond.instantiable ST kI).before a0 Z = true) (al : Z.vm.Alike U.vm) {x t : Addr} {kb : ClassId} {cs : List Int32} {cd N2 : Int32} {vs : List Value} (E : RoadKit.Exa Z U.heap x ST) (V : RoadKit.Fld Z U.heap x ST "value" "[B" (.ref t)) (C : RoadKit.Fld Z U.heap x ST "coder" "B" (.int cd)) (K : RoadKit.Arv Z U.heap t kb .byte N2 vs (.int 0)) (hc : CodA cs cd N2 vs) (hb : ∀ c ∈ cs, ¬ c < 0 ∧ ¬ (65535 : Int32) < c) (l2 : cs.length ≤ 4000) :
    ∃ A, Txt x t A cd cs.length (fun j => cs.getD j 0) U := by
  obtain ⟨A, K1, K2, K3, K4, K5, K6⟩ := K
  have hcod := hc.cod (by omega) K3 K5
  obtain ⟨D, fV, fC, hB, F1, F2, g1, g2, -, -⟩ := strObj wi al E V C
  exact ⟨A, ⟨_, hB.2.2.1, D, hB.1, rfl, by cases q : D.vm <;> first | rfl | exact absurd q (hB.2.1.2 _)⟩, Has.of hB F1 g1, Has.of hB F2 g2, ⟨K1.1, State.isArrayOf_alike al K1.2.1, K1.2.2, by rcases hcod with ⟨-, q, -⟩ | ⟨-, q, -⟩ <;> omega⟩, hcod, fun j hj => by
    have e : cs.getD j 0 = cs[j] := by simp [List.getD_eq_getElem?_getD, hj]
    show ¬ cs.getD j 0 < 0 ∧ ¬ 65535 < cs.getD j 0
    rw [e]; exact hb _ (List.getElem_mem _)⟩
theorem same_list (cs ds : List Int32) : SameT cs.length (fun j => cs.getD j 0) ds.length (fun j => ds.getD j 0) ↔ cs = ds := by
  constructor
  · rintro ⟨e, q⟩
    refine List.ext_getElem e fun j h1 h2 => ?_
    have := q j h1
    simpa [List.getD_eq_getElem?_getD, h1, h2] using this
  · rintro rfl
    exact ⟨rfl, fun _ _ => rfl⟩
/-- **equals(Object) OF TWO SUCH STRINGS**: 1 just where the chars are the same -/
theorem eqW {p : Program} {l : Launch} {e : Env} {R : Room} {s : State} {args : Array Value} {below : List Frame} {len W : Nat} {Z : State} {a0 : Array Value} {h : Heap} (hZ : Z.Warmed39 s.vm) (hw : ∀ d ∈ wordsEq, d.before a0 Z = true) {kI : Nat} (wi : (Jvm.Cond.instantiable ST kI).before a0 Z = true)
    {x t : Addr} {kb : ClassId} {cs : List Int32} {cd N2 : Int32} {vs : List Value} (E : RoadKit.Exa Z h x ST) (V : RoadKit.Fld Z h x ST "value" "[B" (.ref t)) (C : RoadKit.Fld Z h x ST "coder" "B" (.int cd)) (K : RoadKit.Arv Z h t kb .byte N2 vs (.int 0)) (hc : CodA cs cd N2 vs) (hb : ∀ c ∈ cs, ¬ c < 0 ∧ ¬ (65535 : Int32) < c) (l2 : cs.length ≤ 4000)
    {y t' : Addr} {kb' : ClassId} {ds : List Int32} {cd' N2' : Int32} {vs' : List Value} (E' : RoadKit.Exa Z h y ST) (V' : RoadKit.Fld Z h y ST "value" "[B" (.ref t')) (C' : RoadKit.Fld Z h y ST "coder" "B" (.int cd')) (K' : RoadKit.Arv Z h t' kb' .byte N2' vs' (.int 0)) (hc' : CodA ds cd' N2' vs') (hb' : ∀ c ∈ ds, ¬ c < 0 ∧ ¬ (65535 : Int32) < c) (l2' : ds.length ≤ 4000)
    {z : Int32} (S : RoadKit.Sta Z h ST "COMPACT_STRINGS" "Z" (.int z)) (hz : ¬ z = 0) (hfr : 2 ≤ R.frames) (hlo : W + 28 ≤ R.locals) :
    Back l R p e below s args (⟨"java/lang/String", "equals", "(Ljava/lang/Object;)Z"⟩ : MethodName) len W (fun P a => a = #[.ref x, .ref y] ∧ P.U.heap = h ∧ P.cells + 0 ≤ R.cells ∧ P.slots + 0 ≤ R.slots)
      (fun P _ v B => ∃ L, (((v = some (.int 1) ∧ cs = ds) ∨ (v = some (.int 0) ∧ ¬ cs = ds)) ∧ L = [] ∧ B.U.heap = h) ∧ B.locs = P.locs ++ L ∧ B.cells = P.cells + 0 ∧ B.slots = P.slots + 0) := by
  intro m meth c P g ig mk a X hg hsize hdg hW hn hp'
  obtain ⟨rfl, rfl, r1, r2⟩ := hp'
  have al : Z.vm.Alike P.U.vm := hZ.alike.trans X.warmed.alike
  obtain ⟨A, hx⟩ := txt_of wi al E V C K hc hb l2
  obtain ⟨A', hy⟩ := txt_of wi al E' V' C' K' hc' hb' l2'
  obtain ⟨v, B, X', ⟨⟨w, hv, hh, hq⟩, hl, hk, hs⟩, st⟩ := SEq.pays x t A cd cs.length (fun j => cs.getD j 0) y t' A' cd' ds.length (fun j => ds.getD j 0) z (tabEq_of (movedEq hZ hw)) hfr hlo m meth c P g ig mk _ X hg hsize hdg hW hn ⟨r1, r2, rfl, hx, hy, sta_is al S, hz⟩
  refine ⟨v, B, X', ⟨[], ⟨?_, rfl, hh⟩, hl, hk, hs⟩, st⟩
  rcases hq with ⟨rfl, q⟩ | ⟨rfl, q⟩
  · exact Or.inl ⟨hv, (same_list cs ds).mp q⟩
  · exact Or.inr ⟨hv, fun e => q ((same_list cs ds).mpr e)⟩
end StrChars.Road
namespace StrChars.Road
open Jvm Sem ClassFile Op Lib Jvm.Stand Jvm.Free Jvm.Free.XT
open Jvm.Lib.Cold (StaticIs)
/-- what backV says of its String, as the contracts of this text ask it: cs's low bytes, coder 0 -/
theorem codOf {cs : List Int32} {n : Nat} (hn : cs.length = n) (hb : ∀ c ∈ cs, ¬ 255 < c) : CodA cs 0 (Int32.ofNat n) ((cs.map lo8).map Value.int) := Or.inl ⟨rfl, by rw [hn], by simp [List.map_map, Function.comp_def], hb⟩
end StrChars.Road
end Jvm.Pilot.@@N@@
namespace Jvm.Pilot.@@N@@
open Jvm Jvm.ClassFile Sem Op Lib Jvm.Free Jvm.Stand Jvm.LawKit Jvm.RoadKit Bundle Jvm.Pilot.@@N@@.Jvm.D
set_option maxRecDepth 65536
set_option maxHeartbeats 40000000
section OwnKit
variable {p : Program} {l : Launch} {e : Env} {R : Room} {s : State} {m : MethodId} {args : Array Value} {below : List Frame} {meth : Method} {c : Code} {T : State} {locs : List Loc} {cells slots : Nat} {Z : State} {a0 : Array Value} {h : Heap} {own : String} {cd : ByteArray} {maxL : Nat} {ret : Option FieldType} {nm : String} {n0 : Nat} {F : Option Value → Heap → Prop} {kc ks : Nat} {En : Outcome → State → Prop} {pc : Nat} {ls : Array Slot} {st : List Value}
/-- from the frame g over T the method runs to its end, returns v, leaves a heap, F holds of both; only new cells are written -/
def own_Go (p : Program) (e : Env) (below : List Frame) (En : Outcome → State → Prop) (T : State) (g : JFrame) : Prop :=
  ∃ s₂ o, Steps p.tables e below (T.setTop g) s₂ ∧ s₂.status = .running ∧ Ended s₂ below o ∧ En o s₂
def own_En (s : State) (n0 : Nat) (F : Option Value → Heap → Prop) (kc ks : Nat) (o : Outcome) (s₂ : State) : Prop := ∃ v L, o = .returned v ∧ (F v s₂.heap ∧ Fr n0 L) ∧ FrameEnd s o s₂ L kc ks
theorem own_step {T' : State} {g g' : JFrame} (st : ∀ t, Steps p.tables e below (T'.setTop g') t → Steps p.tables e below (T.setTop g) t) (k : own_Go p e below En T' g') : own_Go p e below En T g := by
  obtain ⟨s₂, o, h1, h2⟩ := k
  exact ⟨s₂, o, st _ h1, h2⟩
/-- what stays the same in one body -/
def own_Cx (p : Program) (s : State) (m : MethodId) (meth : Method) (c : Code) (Z : State) (own : String) (cd : ByteArray) (maxL : Nat) (ret : Option FieldType) (nm : String) : Prop :=
  p.tables.exec = Jvm.exec ∧ c.code = cd ∧ c.maxLocals = maxL ∧ s.vm.findClass own = some m.cls ∧ meth.name = nm ∧ meth.sig.returnType = ret ∧ meth.locks = false ∧ Z.Warmed39 s.vm
/-- where the walk stands: the heap is h, at most so many cells and slots have been made, nothing old was written -/
def own_S (p : Program) (l : Launch) (e : Env) (R : Room) (s : State) (m : MethodId) (args : Array Value) (below : List Frame) (meth : Method) (c : Code) (n0 : Nat) (T : State) (h : Heap) (cells slots : Nat) : Prop :=
  ∃ locs k n, Stand p l e R s m args below meth c T locs k n ∧ T.heap = h ∧ Fr n0 locs ∧ k ≤ cells ∧ n ≤ slots
theorem own_S.mono {c' s' : Nat} (S : own_S p l e R s m args below meth c n0 T h cells slots) (h1 : cells ≤ c') (h2 : slots ≤ s') : own_S p l e R s m args below meth c n0 T h c' s' := by
  obtain ⟨locs, k, n, X, e1, N, q1, q2⟩ := S
  exact ⟨locs, k, n, X, e1, N, Nat.le_trans q1 h1, Nat.le_trans q2 h2⟩
theorem own_hd (C : own_Cx p s m meth c Z own cd maxL ret nm) {i : Instr} {len : Nat} (hd : decode cd pc = .ok (i, len)) : decode c.code pc = .ok (i, len) := by rw [C.2.1]; exact hd
theorem own_hsz (C : own_Cx p s m meth c Z own cd maxL ret nm) (hsz : ls.size = maxL) : ls.size = c.maxLocals := by rw [C.2.2.1]; exact hsz
/-- the k-th table word -/
theorem own_wd {L : List Jvm.Cond} (hw : ∀ d ∈ L, d.before a0 Z = true) (i : Nat) {d : Jvm.Cond} (hi : L[i]? = some d) : d.before a0 Z = true := hw d (List.mem_of_getElem? hi)
/-- one plain instruction -/
def own_st (i : Instr) (len pc : Nat) (ls : Array Slot) (st : List Value) : Option (Nat × Array Slot × List Value) :=
  match i with
  | .iload_n k => match len, ls[k.val]? with | 1, some (.val (.int v)) => some (pc + 1, ls, .int v :: st) | _, _ => none
  | .iload k => match len, ls[k]? with | 2, some (.val (.int v)) => some (pc + 2, ls, .int v :: st) | _, _ => none
  | .lload_n k => match len, ls[k.val]? with | 1, some (.val (.long v)) => some (pc + 1, ls, .long v :: st) | _, _ => none
  | .lload k => match len, ls[k]? with | 2, some (.val (.long v)) => some (pc + 2, ls, .long v :: st) | _, _ => none
  | .dload_n k => match len, ls[k.val]? with | 1, some (.val (.double v)) => some (pc + 1, ls, .double v :: st) | _, _ => none
  | .dload k => match len, ls[k]? with | 2, some (.val (.double v)) => some (pc + 2, ls, .double v :: st) | _, _ => none
  | .aload_n k => match len, ls[k.val]? with | 1, some (.val (.ref v)) => some (pc + 1, ls, .ref v :: st) | 1, some (.val .null) => some (pc + 1, ls, .null :: st) | _, _ => none
  | .aload k => match len, ls[k]? with | 2, some (.val (.ref v)) => some (pc + 2, ls, .ref v :: st) | 2, some (.val .null) => some (pc + 2, ls, .null :: st) | _, _ => none
  | .istore_n k => match len, st with | 1, .int x :: r => (match storeLocals ls k.val (.int x) with | some l' => some (pc + 1, l', r) | none => none) | _, _ => none
  | .istore k => match len, st with | 2, .int x :: r => (match storeLocals ls k (.int x) with | some l' => some (pc + 2, l', r) | none => none) | _, _ => none
  | .lstore_n k => match len, st with | 1, .long x :: r => (match storeLocals ls k.val (.long x) with | some l' => some (pc + 1, l', r) | none => none) | _, _ => none
  | .lstore k => match len, st with | 2, .long x :: r => (match storeLocals ls k (.long x) with | some l' => some (pc + 2, l', r) | none => none) | _, _ => none
  | .dstore_n k => match len, st with | 1, .double x :: r => (match storeLocals ls k.val (.double x) with | some l' => some (pc + 1, l', r) | none => none) | _, _ => none
  | .dstore k => match len, st with | 2, .double x :: r => (match storeLocals ls k (.double x) with | some l' => some (pc + 2, l', r) | none => none) | _, _ => none
  | .astore_n k => match len, st with
    | 1, .ref x :: r => (match storeLocals ls k.val (.ref x) with | some l' => some (pc + 1, l', r) | none => none)
    | 1, .null :: r => (match storeLocals ls k.val .null with | some l' => some (pc + 1, l', r) | none => none)
    | _, _ => none
  | .astore k => match len, st with
    | 2, .ref x :: r => (match storeLocals ls k (.ref x) with | some l' => some (pc + 2, l', r) | none => none)
    | 2, .null :: r => (match storeLocals ls k .null with | some l' => some (pc + 2, l', r) | none => none)
    | _, _ => none
  | .iinc k d => match len, ls[k]? with | 3, some (.val (.int x)) => (match storeLocals ls k (.int (x + Int32.ofInt d)) with | some l' => some (pc + 3, l', st) | none => none) | _, _ => none
  | .iconst i => match len with | 1 => some (pc + 1, ls, .int (Int32.ofInt i) :: st) | _ => none
  | .bipush i => match len with | 2 => some (pc + 2, ls, .int (Int8.ofInt i).toInt32 :: st) | _ => none
  | .sipush i => match len with | 3 => some (pc + 3, ls, .int (Int16.ofInt i).toInt32 :: st) | _ => none
  | .lconst k => match len with | 1 => some (pc + 1, ls, .long (Int64.ofNat k) :: st) | _ => none
  | .aconst_null => match len with | 1 => some (pc + 1, ls, .null :: st) | _ => none
  | .iadd => match len, st with | 1, .int y :: .int x :: r => some (pc + 1, ls, .int (x + y) :: r) | _, _ => none
  | .isub => match len, st with | 1, .int y :: .int x :: r => some (pc + 1, ls, .int (x - y) :: r) | _, _ => none
  | .imul => match len, st with | 1, .int y :: .int x :: r => some (pc + 1, ls, .int (x * y) :: r) | _, _ => none
  | .iand => match len, st with | 1, .int y :: .int x :: r => some (pc + 1, ls, .int (x &&& y) :: r) | _, _ => none
  | .ior => match len, st with | 1, .int y :: .int x :: r => some (pc + 1, ls, .int (x ||| y) :: r) | _, _ => none
  | .ixor => match len, st with | 1, .int y :: .int x :: r => some (pc + 1, ls, .int (x ^^^ y) :: r) | _, _ => none
  | .ishl => match len, st with | 1, .int y :: .int x :: r => some (pc + 1, ls, .int (x <<< (y &&& 31)) :: r) | _, _ => none
  | .ishr => match len, st with | 1, .int y :: .int x :: r => some (pc + 1, ls, .int (x >>> (y &&& 31)) :: r) | _, _ => none
  | .iushr => match len, st with | 1, .int y :: .int x :: r => some (pc + 1, ls, .int (Jvm.Free.XT.ushr x y) :: r) | _, _ => none
  | .ineg => match len, st with | 1, .int x :: r => some (pc + 1, ls, .int (-x) :: r) | _, _ => none
  | .ladd => match len, st with | 1, .long y :: .long x :: r => some (pc + 1, ls, .long (x + y) :: r) | _, _ => none
  | .lsub => match len, st with | 1, .long y :: .long x :: r => some (pc + 1, ls, .long (x - y) :: r) | _, _ => none
  | .lmul => match len, st with | 1, .long y :: .long x :: r => some (pc + 1, ls, .long (x * y) :: r) | _, _ => none
  | .land => match len, st with | 1, .long y :: .long x :: r => some (pc + 1, ls, .long (x &&& y) :: r) | _, _ => none
  | .lor => match len, st with | 1, .long y :: .long x :: r => some (pc + 1, ls, .long (x ||| y) :: r) | _, _ => none
  | .lshl => match len, st with | 1, .int y :: .long x :: r => some (pc + 1, ls, .long (x <<< (y.toInt64 &&& 63)) :: r) | _, _ => none
  | .lshr => match len, st with | 1, .int y :: .long x :: r => some (pc + 1, ls, .long (x >>> (y.toInt64 &&& 63)) :: r) | _, _ => none
  | .lushr => match len, st with | 1, .int y :: .long x :: r => some (pc + 1, ls, .long (Jvm.Free.XT.ushrL x y) :: r) | _, _ => none
  | .lcmp => match len, st with | 1, .long y :: .long x :: r => some (pc + 1, ls, .int (Jvm.Free.XT.cmpL x y) :: r) | _, _ => none
  | .i2l => match len, st with | 1, .int x :: r => some (pc + 1, ls, .long x.toInt64 :: r) | _, _ => none
  | .l2i => match len, st with | 1, .long x :: r => some (pc + 1, ls, .int x.toInt32 :: r) | _, _ => none
  | .i2b => match len, st with | 1, .int x :: r => some (pc + 1, ls, .int x.toInt8.toInt32 :: r) | _, _ => none
  | .i2c => match len, st with | 1, .int x :: r => some (pc + 1, ls, .int x.toUInt32.toUInt16.toUInt32.toInt32 :: r) | _, _ => none
  | .i2s => match len, st with | 1, .int x :: r => some (pc + 1, ls, .int x.toInt16.toInt32 :: r) | _, _ => none
  | .i2d => match len, st with | 1, .int x :: r => some (pc + 1, ls, .double (FP.i2d x) :: r) | _, _ => none
  | .dup => match len, st with | 1, .int x :: r => some (pc + 1, ls, .int x :: .int x :: r) | 1, .ref x :: r => some (pc + 1, ls, .ref x :: .ref x :: r) | 1, .null :: r => some (pc + 1, ls, .null :: .null :: r) | _, _ => none
  | .pop => match len, st with | 1, .int x :: r => some (pc + 1, ls, r) | 1, .ref x :: r => some (pc + 1, ls, r) | 1, .null :: r => some (pc + 1, ls, r) | _, _ => none
  | .dup_x1 => match len, st with | 1, .int x :: .ref y :: r => some (pc + 1, ls, .int x :: .ref y :: .int x :: r) | 1, .int x :: .int y :: r => some (pc + 1, ls, .int x :: .int y :: .int x :: r) | 1, .ref x :: .ref y :: r => some (pc + 1, ls, .ref x :: .ref y :: .ref x :: r) | _, _ => none
  | .dup2 => match len, st with | 1, .int x :: .ref y :: r => some (pc + 1, ls, .int x :: .ref y :: .int x :: .ref y :: r) | 1, .int x :: .int y :: r => some (pc + 1, ls, .int x :: .int y :: .int x :: .int y :: r) | 1, .long x :: r => some (pc + 1, ls, .long x :: .long x :: r) | _, _ => none
  | .goto o => match len, decide (0 ≤ (pc : Int) + o) with | 3, true => some (((pc : Int) + o).toNat, ls, st) | _, _ => none
  | .ifnull o => match len, st, decide (0 ≤ (pc : Int) + o) with | 3, .null :: r, true => some (((pc : Int) + o).toNat, ls, r) | 3, .ref _ :: r, _ => some (pc + 3, ls, r) | _, _, _ => none
  | .ifnonnull o => match len, st, decide (0 ≤ (pc : Int) + o) with | 3, .ref _ :: r, true => some (((pc : Int) + o).toNat, ls, r) | 3, .null :: r, _ => some (pc + 3, ls, r) | _, _, _ => none
  | .ifCond q o => match len, st, decide (0 ≤ (pc : Int) + o) with
    | 3, .int x :: r, true => (match if_icmp.holds q x 0 with | true => some (((pc : Int) + o).toNat, ls, r) | false => some (pc + 3, ls, r))
    | _, _, _ => none
  | .if_icmp q o => match len, st, decide (0 ≤ (pc : Int) + o) with
    | 3, .int y :: .int x :: r, true => (match if_icmp.holds q x y with | true => some (((pc : Int) + o).toNat, ls, r) | false => some (pc + 3, ls, r))
    | _, _, _ => none
  | _ => none
theorem own_st_ok (X : Stand p l e R s m args below meth c T locs cells slots) (hx : p.tables.exec = Jvm.exec) {i : Instr} {len pc' : Nat} {ls' : Array Slot} {st' : List Value} (hd : decode c.code pc = .ok (i, len)) (hs : own_st i len pc ls st = some (pc', ls', st')) (t : State)
    (k : Steps p.tables e below (T.setTop (mkF m pc' ls' st')) t) : Steps p.tables e below (T.setTop (mkF m pc ls st)) t := by
  unfold own_st at hs
  split at hs
  · split at hs <;> first | cases hs | skip
    rename_i q; exact XS.iloadN X.here hx rfl hd q k
  · split at hs <;> first | cases hs | skip
    rename_i q; exact XS.iload X.here hx rfl hd q k
  · split at hs <;> first | cases hs | skip
    rename_i q; exact Jvm.Free.XT.lloadN X.here hx rfl hd q k
  · split at hs <;> first | cases hs | skip
    rename_i q; exact Jvm.Free.XT.lload X.here hx rfl hd q k
  · split at hs <;> first | cases hs | skip
    rename_i q; exact XS.dloadN X.here hx rfl hd q k
  · split at hs <;> first | cases hs | skip
    rename_i q; exact XS.dload X.here hx rfl hd q k
  · split at hs <;> first | cases hs | skip
    · rename_i q; exact XS.aloadN X.here hx rfl hd q rfl k
    · rename_i q; exact XS.aloadN X.here hx rfl hd q rfl k
  · split at hs <;> first | cases hs | skip
    · rename_i q; exact XS.aload X.here hx rfl hd q rfl k
    · rename_i q; exact XS.aload X.here hx rfl hd q rfl k
  · split at hs <;> first | cases hs | skip
    split at hs <;> first | cases hs | skip
    rename_i q; exact XS.istoreN X.here hx rfl hd rfl q k
  · split at hs <;> first | cases hs | skip
    split at hs <;> first | cases hs | skip
    rename_i q; exact XS.istore X.here hx rfl hd rfl q k
  · split at hs <;> first | cases hs | skip
    split at hs <;> first | cases hs | skip
    rename_i q; exact Jvm.Free.XT.lstoreN X.here hx rfl hd rfl q k
  · split at hs <;> first | cases hs | skip
    split at hs <;> first | cases hs | skip
    rename_i q; exact Jvm.Free.XT.lstore X.here hx rfl hd rfl q k
  · split at hs <;> first | cases hs | skip
    split at hs <;> first | cases hs | skip
    rename_i q; exact XS.dstoreN X.here hx rfl hd rfl q k
  · split at hs <;> first | cases hs | skip
    split at hs <;> first | cases hs | skip
    rename_i q; exact XS.dstore X.here hx rfl hd rfl q k
  · split at hs <;> first | cases hs | skip
    all_goals
      split at hs <;> first | cases hs | skip
      rename_i q; exact XS.astoreN X.here hx rfl hd rfl rfl q k
  · split at hs <;> first | cases hs | skip
    all_goals
      split at hs <;> first | cases hs | skip
      rename_i q; exact XS.astore X.here hx rfl hd rfl rfl q k
  · split at hs <;> first | cases hs | skip
    rename_i q0
    split at hs <;> first | cases hs | skip
    rename_i q; exact XS.iinc X.here hx rfl hd q0 q k
  · split at hs <;> first | cases hs | skip
    exact XS.iconst X.here hx rfl hd k
  · split at hs <;> first | cases hs | skip
    exact XS.bipush X.here hx rfl hd k
  · split at hs <;> first | cases hs | skip
    exact XS.sipush X.here hx rfl hd k
  · split at hs <;> first | cases hs | skip
    exact Jvm.Free.XT.lconst X.here hx rfl hd k
  · split at hs <;> first | cases hs | skip
    exact XS.aconstNull X.here hx rfl hd k
  · split at hs <;> first | cases hs | skip
    exact XS.iadd X.here hx rfl hd rfl k
  · split at hs <;> first | cases hs | skip
    exact XS.isub X.here hx rfl hd rfl k
  · split at hs <;> first | cases hs | skip
    exact XS.imul X.here hx rfl hd rfl k
  · split at hs <;> first | cases hs | skip
    exact XS.iand X.here hx rfl hd rfl k
  · split at hs <;> first | cases hs | skip
    exact Jvm.Free.XT.ior X.here hx rfl hd rfl k
  · split at hs <;> first | cases hs | skip
    exact Jvm.Free.XT.ixor X.here hx rfl hd rfl k
  · split at hs <;> first | cases hs | skip
    exact Jvm.Free.XT.ishl X.here hx rfl hd rfl k
  · split at hs <;> first | cases hs | skip
    exact Jvm.Free.XT.ishr X.here hx rfl hd rfl k
  · split at hs <;> first | cases hs | skip
    exact Jvm.Free.XT.iushr X.here hx rfl hd rfl k
  · split at hs <;> first | cases hs | skip
    exact XS.ineg X.here hx rfl hd rfl k
  · split at hs <;> first | cases hs | skip
    exact Jvm.Free.XT.ladd X.here hx rfl hd rfl k
  · split at hs <;> first | cases hs | skip
    exact Jvm.Free.XT.lsub X.here hx rfl hd rfl k
  · split at hs <;> first | cases hs | skip
    exact Jvm.Free.XT.lmul X.here hx rfl hd rfl k
  · split at hs <;> first | cases hs | skip
    exact Jvm.Free.XT.land X.here hx rfl hd rfl k
  · split at hs <;> first | cases hs | skip
    exact Jvm.Free.XT.lor X.here hx rfl hd rfl k
  · split at hs <;> first | cases hs | skip
    exact Jvm.Free.XT.lshl X.here hx rfl hd rfl k
  · split at hs <;> first | cases hs | skip
    exact Jvm.Free.XT.lshr X.here hx rfl hd rfl k
  · split at hs <;> first | cases hs | skip
    exact Jvm.Free.XT.lushr X.here hx rfl hd rfl k
  · split at hs <;> first | cases hs | skip
    exact Jvm.Free.XT.lcmp X.here hx rfl hd rfl k
  · split at hs <;> first | cases hs | skip
    exact Jvm.Free.XT.i2l X.here hx rfl hd rfl k
  · split at hs <;> first | cases hs | skip
    exact Jvm.Free.XT.l2i X.here hx rfl hd rfl k
  · split at hs <;> first | cases hs | skip
    exact Jvm.Free.XT.i2b X.here hx rfl hd rfl k
  · split at hs <;> first | cases hs | skip
    exact Jvm.Free.XT.i2c X.here hx rfl hd rfl k
  · split at hs <;> first | cases hs | skip
    exact Jvm.Free.XT.i2s X.here hx rfl hd rfl k
  · split at hs <;> first | cases hs | skip
    exact XS.i2dS X.here hx rfl hd rfl rfl k
  · split at hs <;> first | cases hs | skip
    all_goals exact XS.dup X.here hx rfl hd rfl rfl k
  · split at hs <;> first | cases hs | skip
    all_goals exact Jvm.Free.XT.pop X.here hx rfl hd rfl rfl k
  · split at hs <;> first | cases hs | skip
    all_goals exact Jvm.Free.XT.dupX1 X.here hx rfl hd rfl rfl rfl k
  · split at hs <;> first | cases hs | skip
    · exact Jvm.Free.XT.dup2 X.here hx rfl hd rfl rfl rfl k
    · exact Jvm.Free.XT.dup2 X.here hx rfl hd rfl rfl rfl k
    · exact Jvm.Free.XT.dup2L X.here hx rfl hd rfl k
  · split at hs <;> first | cases hs | skip
    rename_i q; exact XS.goto X.here hx rfl rfl hd (of_decide_eq_true q) rfl k
  · split at hs <;> first | cases hs | skip
    · rename_i q; exact XS.ifnullYes X.here hx rfl rfl hd rfl (of_decide_eq_true q) rfl k
    · exact XS.ifnullNo X.here hx rfl hd rfl k
  · split at hs <;> first | cases hs | skip
    · rename_i q; exact Jvm.Free.XT.ifnonnullYes X.here hx rfl rfl hd rfl (of_decide_eq_true q) rfl k
    · exact Jvm.Free.XT.ifnonnullNo X.here hx rfl hd rfl k
  · split at hs <;> first | cases hs | skip
    rename_i q1
    split at hs <;> (rename_i hc; rw [← if0] at hc; simp only [Option.some.injEq, Prod.mk.injEq] at hs; obtain ⟨rfl, rfl, rfl⟩ := hs)
    · exact XS.ifYes X.here hx rfl rfl hd rfl hc (of_decide_eq_true q1) rfl k
    · exact XS.ifNo X.here hx rfl hd rfl hc k
  · split at hs <;> first | cases hs | skip
    rename_i q1
    split at hs <;> (rename_i hc; simp only [Option.some.injEq, Prod.mk.injEq] at hs; obtain ⟨rfl, rfl, rfl⟩ := hs)
    · exact XS.icmpYes X.here hx rfl rfl hd rfl hc (of_decide_eq_true q1) rfl k
    · exact XS.icmpNo X.here hx rfl hd rfl hc k
  · cases hs
/-- a row of plain instructions -/
def own_run : List (Nat × Instr × Nat) → Nat → Array Slot → List Value → Option (Nat × Array Slot × List Value)
  | [], pc, ls, st => some (pc, ls, st)
  | x :: seg, pc, ls, st => match decide (pc = x.1) with
    | true => (match own_st x.2.1 x.2.2 x.1 ls st with | some (pc', ls', st') => own_run seg pc' ls' st' | none => none)
    | false => none
def own_dec (cd : ByteArray) (seg : List (Nat × Instr × Nat)) : Bool := seg.all fun x => decide (decode cd x.1 = .ok x.2)
theorem own_run_ok (X : Stand p l e R s m args below meth c T locs cells slots) (hx : p.tables.exec = Jvm.exec) (hby : c.code = cd) : ∀ (seg : List (Nat × Instr × Nat)) {pc pc' : Nat} {ls ls' : Array Slot} {st st' : List Value}, own_dec cd seg = true → own_run seg pc ls st = some (pc', ls', st') → ∀ t,
    Steps p.tables e below (T.setTop (mkF m pc' ls' st')) t → Steps p.tables e below (T.setTop (mkF m pc ls st)) t := by
  intro seg
  induction seg with
  | nil =>
    intro pc pc' ls ls' st st' _ hr t k
    simp only [own_run, Option.some.injEq, Prod.mk.injEq] at hr
    obtain ⟨rfl, rfl, rfl⟩ := hr
    exact k
  | cons x seg ih =>
    intro pc pc' ls ls' st st' hd hr t k
    simp only [own_dec, List.all_cons, Bool.and_eq_true, decide_eq_true_eq] at hd
    simp only [own_run] at hr
    split at hr
    · rename_i q
      have q' : pc = x.1 := of_decide_eq_true q
      subst q'
      split at hr
      · rename_i a1 b1 c1 q2
        exact own_st_ok X hx (by rw [hby]; exact hd.1) q2 t (ih hd.2 hr t k)
      · cases hr
    · cases hr
theorem own_seg (C : own_Cx p s m meth c Z own cd maxL ret nm) (S : own_S p l e R s m args below meth c n0 T h cells slots) (seg : List (Nat × Instr × Nat)) (hd : own_dec cd seg = true) (pc' : Nat) (ls' : Array Slot) (st' : List Value)
    (hr : own_run seg pc ls st = some (pc', ls', st')) (k : own_Go p e below En T (mkF m pc' ls' st')) : own_Go p e below En T (mkF m pc ls st) := by
  obtain ⟨locs, kk, n, X, -⟩ := S
  exact own_step (own_run_ok X C.1 C.2.1 seg hd hr) k
def own_P : ClassFile.Cond → Int32 → Int32 → Prop
  | .eq, x, y => x = y | .ne, x, y => ¬ x = y | .lt, x, y => x < y | .ge, x, y => ¬ x < y | .gt, x, y => y < x | .le, x, y => ¬ y < x
def own_N : ClassFile.Cond → Int32 → Int32 → Prop
  | .eq, x, y => ¬ x = y | .ne, x, y => x = y | .lt, x, y => ¬ x < y | .ge, x, y => x < y | .gt, x, y => ¬ y < x | .le, x, y => y < x
theorem own_holds (q : ClassFile.Cond) (x y : Int32) : (own_P q x y ∧ if_icmp.holds q x y = true) ∨ (own_N q x y ∧ if_icmp.holds q x y = false) := by
  cases q
  · by_cases g : x = y
    · exact Or.inl ⟨g, (teq g).1⟩
    · exact Or.inr ⟨g, (feq g).1⟩
  · by_cases g : x = y
    · exact Or.inr ⟨g, (teq g).2⟩
    · exact Or.inl ⟨g, (feq g).2⟩
  · by_cases g : x < y
    · exact Or.inl ⟨g, (tlt g).1⟩
    · exact Or.inr ⟨g, (flt g).1⟩
  · by_cases g : x < y
    · exact Or.inr ⟨g, (tlt g).2.1⟩
    · exact Or.inl ⟨g, (flt g).2.1⟩
  · by_cases g : y < x
    · exact Or.inl ⟨g, (tlt g).2.2.1⟩
    · exact Or.inr ⟨g, (flt g).2.2.1⟩
  · by_cases g : y < x
    · exact Or.inr ⟨g, (tlt g).2.2.2⟩
    · exact Or.inl ⟨g, (flt g).2.2.2⟩
theorem own_icmp (C : own_Cx p s m meth c Z own cd maxL ret nm) (S : own_S p l e R s m args below meth c n0 T h cells slots) {q : ClassFile.Cond} {o : Int} {x y : Int32} (hd : decode cd pc = .ok (.if_icmp q o, 3)) (pc' : Nat) (ho : 0 ≤ (pc : Int) + o) (hp : ((pc : Int) + o).toNat = pc')
    (k1 : own_P q x y → own_Go p e below En T (mkF m pc' ls st)) (k2 : own_N q x y → own_Go p e below En T (mkF m (pc + 3) ls st)) : own_Go p e below En T (mkF m pc ls (.int y :: .int x :: st)) := by
  obtain ⟨locs, kk, n, X, -⟩ := S
  rcases own_holds q x y with ⟨g, hc⟩ | ⟨g, hc⟩
  · exact own_step (fun t k => XS.icmpYes X.here C.1 rfl rfl (own_hd C hd) rfl hc ho hp k) (k1 g)
  · exact own_step (fun t k => XS.icmpNo X.here C.1 rfl (own_hd C hd) rfl hc k) (k2 g)
theorem own_if (C : own_Cx p s m meth c Z own cd maxL ret nm) (S : own_S p l e R s m args below meth c n0 T h cells slots) {q : ClassFile.Cond} {o : Int} {x : Int32} (hd : decode cd pc = .ok (.ifCond q o, 3)) (pc' : Nat) (ho : 0 ≤ (pc : Int) + o) (hp : ((pc : Int) + o).toNat = pc')
    (k1 : own_P q x 0 → own_Go p e below En T (mkF m pc' ls st)) (k2 : own_N q x 0 → own_Go p e below En T (mkF m (pc + 3) ls st)) : own_Go p e below En T (mkF m pc ls (.int x :: st)) := by
  obtain ⟨locs, kk, n, X, -⟩ := S
  rcases own_holds q x 0 with ⟨g, hc⟩ | ⟨g, hc⟩ <;> rw [← if0] at hc
  · exact own_step (fun t k => XS.ifYes X.here C.1 rfl rfl (own_hd C hd) rfl hc ho hp k) (k1 g)
  · exact own_step (fun t k => XS.ifNo X.here C.1 rfl (own_hd C hd) rfl hc k) (k2 g)
theorem own_idiv (C : own_Cx p s m meth c Z own cd maxL ret nm) (S : own_S p l e R s m args below meth c n0 T h cells slots) {x y : Int32} (hd : decode cd pc = .ok (.idiv, 1)) (hy : y ≠ 0) (k : own_Go p e below En T (mkF m (pc + 1) ls (.int (x / y) :: st))) : own_Go p e below En T (mkF m pc ls (.int y :: .int x :: st)) := by
  obtain ⟨locs, kk, n, X, -⟩ := S
  exact own_step (fun t k => XS.idiv X.here C.1 rfl (own_hd C hd) rfl hy k) k
theorem own_irem (C : own_Cx p s m meth c Z own cd maxL ret nm) (S : own_S p l e R s m args below meth c n0 T h cells slots) {x y : Int32} (hd : decode cd pc = .ok (.irem, 1)) (hy : y ≠ 0) (k : own_Go p e below En T (mkF m (pc + 1) ls (.int (x % y) :: st))) : own_Go p e below En T (mkF m pc ls (.int y :: .int x :: st)) := by
  obtain ⟨locs, kk, n, X, -⟩ := S
  exact own_step (fun t k => iremM X C.1 rfl (own_hd C hd) rfl hy k) k
theorem own_ldc (C : own_Cx p s m meth c Z own cd maxL ret nm) (S : own_S p l e R s m args below meth c n0 T h cells slots) {index : Nat} {v : Int32} (w : (Jvm.Cond.constant own index v).before a0 Z = true) (hd : decode cd pc = .ok (.ldc index, 2)) (k : own_Go p e below En T (mkF m (pc + 2) ls (.int v :: st))) : own_Go p e below En T (mkF m pc ls st) := by
  obtain ⟨locs, kk, n, X, -⟩ := S
  exact own_step (fun t k => X.ldcInt C.1 C.2.2.2.1 (mv C.2.2.2.2.2.2.2 w) (g := mkF m pc ls st) rfl (own_hd C hd) t k) k
theorem own_getF (C : own_Cx p s m meth c Z own cd maxL ret nm) (S : own_S p l e R s m args below meth c n0 T h cells slots) {index : Nat} {R0 O n d host : String} {a : Addr} {v : Value} (w : (Jvm.Cond.fieldLink own index R0 n d).before a0 Z = true ∨ (Jvm.Cond.fieldLinkNest own index R0 n d host).before a0 Z = true) (via : Via Z R0 O n d) (FF : Fld Z h a O n d v) (hd : decode cd pc = .ok (.getfield index, 3))
    (k : ∀ T', own_S p l e R s m args below meth c n0 T' h cells slots → own_Go p e below En T' (mkF m (pc + 3) ls (v :: st))) : own_Go p e below En T (mkF m pc ls (.ref a :: st)) := by
  obtain ⟨locs, kk, nn, X, eT, N, q1, q2⟩ := S
  obtain ⟨T', X', e', stp⟩ := getF X C.1 C.2.2.2.2.2.2.2 C.2.2.2.1 w via eT FF (g := mkF m pc ls (.ref a :: st)) rfl rfl (own_hd C hd)
  exact own_step stp (k T' ⟨_, _, _, X', e', N, q1, q2⟩)
theorem own_getS (C : own_Cx p s m meth c Z own cd maxL ret nm) (S : own_S p l e R s m args below meth c n0 T h cells slots) {index : Nat} {R0 O n d : String} {v : Value} (w : (Jvm.Cond.fieldLink own index R0 n d).before a0 Z = true) (via : Via Z R0 O n d) (FF : Sta Z h O n d v) (hd : decode cd pc = .ok (.getstatic index, 3))
    (k : ∀ T', own_S p l e R s m args below meth c n0 T' h cells slots → own_Go p e below En T' (mkF m (pc + 3) ls (v :: st))) : own_Go p e below En T (mkF m pc ls st) := by
  obtain ⟨locs, kk, nn, X, eT, N, q1, q2⟩ := S
  obtain ⟨T', X', e', stp⟩ := getS X C.1 C.2.2.2.2.2.2.2 (host := "") C.2.2.2.1 w via eT FF (g := mkF m pc ls st) rfl (own_hd C hd)
  exact own_step stp (k T' ⟨_, _, _, X', e', N, q1, q2⟩)
theorem own_putF (C : own_Cx p s m meth c Z own cd maxL ret nm) (S : own_S p l e R s m args below meth c n0 T h cells slots) {index ki : Nat} {R0 O n d host Cl : String} {a : Addr} {v old : Value} {ty : FieldType} (w : (Jvm.Cond.fieldLink own index R0 n d).before a0 Z = true ∨ (Jvm.Cond.fieldLinkNest own index R0 n d host).before a0 Z = true) (via : Via Z R0 O n d) (FF : Fld Z h a O n d old) (E : Exa Z h a Cl)
    (L : (Jvm.Cond.lays Cl O n d).before a0 Z = true ∨ ((Jvm.Cond.laysFinal Cl O n d).before a0 Z = true ∧ own = O ∧ nm = "<init>")) (wi : (Jvm.Cond.instantiable Cl ki).before a0 Z = true) (hty : parseFieldDescriptor d = some ty) (hn : narrow ty v = v) (hf : fits ty v = true) (hge : n0 ≤ a) (hd : decode cd pc = .ok (.putfield index, 3))
    (k : ∀ T' h', own_S p l e R s m args below meth c n0 T' h' cells slots → Wr h h' a (Jvm.RoadKit.slotOf Z O n d) v → own_Go p e below En T' (mkF m (pc + 3) ls st)) : own_Go p e below En T (mkF m pc ls (v :: .ref a :: st)) := by
  obtain ⟨locs, kk, nn, X, eT, N, q1, q2⟩ := S
  obtain ⟨T', h', X', e', W, stp⟩ := putF X C.1 C.2.2.2.2.2.2.2 C.2.2.2.1 w via eT FF E (L.imp id (fun q => ⟨q.1, q.2.1, C.2.2.2.2.1.trans q.2.2⟩)) wi hty hn hf (g := mkF m pc ls (v :: .ref a :: st)) rfl rfl (own_hd C hd)
  exact own_step stp (k T' h' ⟨_, _, _, X', e', Fr.snoc X' N hge, q1, q2⟩ W)
theorem own_new (C : own_Cx p s m meth c Z own cd maxL ret nm) (S : own_S p l e R s m args below meth c n0 T h cells slots) {index ki : Nat} {Cl : String} (w : (Jvm.Cond.classLink own index Cl).before a0 Z = true) (wi : (Jvm.Cond.instantiable Cl ki).before a0 Z = true) (wz : (Jvm.Cond.initialized Cl).before a0 Z = true) (hd : decode cd pc = .ok (.new index, 3)) (hc : cells + 1 ≤ R.cells) (hl : slots + ki ≤ R.slots)
    (k : ∀ T' h' a, own_S p l e R s m args below meth c n0 T' h' (cells + 1) (slots + ki) → a = h.size → Ext h h' → Exa Z h' a Cl → (∀ {O nm d : String} {ty : FieldType}, Laid Z a0 Cl O nm d → parseFieldDescriptor d = some ty → Fld Z h' a O nm d (defaultValue ty)) → own_Go p e below En T' (mkF m (pc + 3) ls (.ref a :: st))) : own_Go p e below En T (mkF m pc ls st) := by
  obtain ⟨locs, kk, nn, X, eT, N, q1, q2⟩ := S
  obtain ⟨T', h', X', e', E, A, D, -, stp⟩ := newO X C.1 C.2.2.2.2.2.2.2 C.2.2.2.1 w wi wz eT (g := mkF m pc ls st) rfl (own_hd C hd) (by omega) (by omega)
  exact own_step stp (k T' h' _ ⟨_, _, _, X', e', N, by omega, by omega⟩ rfl E A D)
theorem own_initO (C : own_Cx p s m meth c Z own cd maxL ret nm) (S : own_S p l e R s m args below meth c n0 T h cells slots) {index : Nat} (w1 : (Jvm.Cond.methodLink own index Lib.objectInit).before a0 Z = true) (w2 : (Jvm.Cond.instanceMethod Lib.objectInit).before a0 Z = true) (w3 : (Jvm.Cond.code Lib.objectInit ⟨#[0xb1]⟩ 1 none).before a0 Z = true) {a : Addr} (hsz : ls.size = maxL) (hd : decode cd pc = .ok (.invokespecial index, 3)) (hf : 1 ≤ R.frames) (W : Nat) (hW : (st.map fun v => v.category).sum ≤ W) (hl : W + 12 ≤ R.locals)
    (k : ∀ T', own_S p l e R s m args below meth c n0 T' h cells slots → own_Go p e below En T' (mkF m (pc + 3) ls st)) : own_Go p e below En T (mkF m pc ls (.ref a :: st)) := by
  obtain ⟨locs, kk, nn, X, eT, N, q1, q2⟩ := S
  obtain ⟨T', X', e', stp⟩ := initO X C.1 C.2.2.2.2.2.2.2 C.2.2.2.1 w1 w2 w3 eT (g := mkF m pc ls (.ref a :: st)) rfl (own_hsz C hsz) rfl (own_hd C hd) hf (W := W) (by show 2 * 0 + _ ≤ W; omega) hl
  exact own_step stp (k T' ⟨_, _, _, X', e', N, q1, q2⟩)
theorem own_newP (C : own_Cx p s m meth c Z own cd maxL ret nm) (S : own_S p l e R s m args below meth c n0 T h cells slots) {aty : ArrayType} (w : (Jvm.Cond.arrayClass (newarray.typeOf aty)).before a0 Z = true) (hd : decode cd pc = .ok (.newarray aty, 2)) {n : Int32} (hn : ¬ n < 0) (cap : Nat) (hcap : n.toNatClampNeg ≤ cap) (hb : cap * 8 ≤ 536870912) (hc : cells + 1 ≤ R.cells) (hl : slots + cap ≤ R.slots)
    (k : ∀ T' h' a cA, own_S p l e R s m args below meth c n0 T' h' (cells + 1) (slots + cap) → a = h.size → Ext h h' → Arv Z h' a cA (newarray.typeOf aty) n [] (defaultValue (newarray.typeOf aty)) → own_Go p e below En T' (mkF m (pc + 2) ls (.ref a :: st))) : own_Go p e below En T (mkF m pc ls (.int n :: st)) := by
  obtain ⟨locs, kk, nn, X, eT, N, q1, q2⟩ := S
  obtain ⟨T', h', cA, X', e', E, A, stp⟩ := newP X C.1 C.2.2.2.2.2.2.2 w eT (g := mkF m pc ls (.int n :: st)) rfl (own_hd C hd) rfl hn hcap hb (by omega) (by omega)
  exact own_step stp (k T' h' _ cA ⟨_, _, _, X', e', N, by omega, by omega⟩ rfl E (Arv.new A hn))
theorem own_baload (C : own_Cx p s m meth c Z own cd maxL ret nm) (S : own_S p l e R s m args below meth c n0 T h cells slots) {a : Addr} {ka : ClassId} {N j : Int32} {vs : List Value} {dv : Value} (FF : Arv Z h a ka .byte N vs dv) (hin : ¬ j < 0 ∧ j < N) (v : Value) (hv : vs.getD j.toNatClampNeg dv = v) (hd : decode cd pc = .ok (.baload, 1)) (k : own_Go p e below En T (mkF m (pc + 1) ls (v :: st))) : own_Go p e below En T (mkF m pc ls (.int j :: .ref a :: st)) := by
  obtain ⟨locs, kk, nn, X, eT, -⟩ := S
  obtain ⟨cl, A, -, sz, hN, H, -⟩ := FF
  exact own_step (fun t k => X.baloadBytes C.1 (by rw [eT]; exact A.1) (State.isArrayOf_alike C.2.2.2.2.2.2.2.alike A.2.1) A.2.2 (inb_of sz hin) (Has.at H (inb_of sz hin) hv) (g := mkF m pc ls (.int j :: .ref a :: st)) rfl rfl (own_hd C hd) t k) k
theorem own_castore (C : own_Cx p s m meth c Z own cd maxL ret nm) (S : own_S p l e R s m args below meth c n0 T h cells slots) {a : Addr} {ka : ClassId} {N j x : Int32} {vs : List Value} {dv : Value} (FF : Arv Z h a ka .char N vs dv) (hin : ¬ j < 0 ∧ j < N) (i : Nat) (hj : j.toNatClampNeg = i) (hi : i < vs.length) (x' : Int32) (hx' : nar .char x = x') (hge : n0 ≤ a) (hd : decode cd pc = .ok (.castore, 1))
    (k : ∀ T' h', own_S p l e R s m args below meth c n0 T' h' cells slots → Wr h h' a j.toNatClampNeg (.int x') → Arv Z h' a ka .char N (vs.set i (.int x')) dv → own_Go p e below En T' (mkF m (pc + 1) ls st)) : own_Go p e below En T (mkF m pc ls (.int x :: .int j :: .ref a :: st)) := by
  subst hx'
  obtain ⟨locs, kk, nn, X, eT, N, q1, q2⟩ := S
  obtain ⟨cl, A, ck, sz, hN, H, G⟩ := FF
  obtain ⟨T', h', X', e', W, stp⟩ := stC X C.1 C.2.2.2.2.2.2.2 eT A (inb_of sz hin) (g := mkF m pc ls (.int x :: .int j :: .ref a :: st)) rfl rfl (own_hd C hd)
  exact own_step stp (k T' h' ⟨_, _, _, X', e', Fr.snoc X' N hge, q1, q2⟩ W (Arv.set A ck sz hN H G (fits_nar_char x) W i hj hi))
theorem own_bastore (C : own_Cx p s m meth c Z own cd maxL ret nm) (S : own_S p l e R s m args below meth c n0 T h cells slots) {a : Addr} {ka : ClassId} {N j x : Int32} {vs : List Value} {dv : Value} (FF : Arv Z h a ka .byte N vs dv) (hin : ¬ j < 0 ∧ j < N) (i : Nat) (hj : j.toNatClampNeg = i) (hi : i < vs.length) (x' : Int32) (hx' : nar .byte x = x') (hge : n0 ≤ a) (hd : decode cd pc = .ok (.bastore, 1))
    (k : ∀ T' h', own_S p l e R s m args below meth c n0 T' h' cells slots → Wr h h' a j.toNatClampNeg (.int x') → Arv Z h' a ka .byte N (vs.set i (.int x')) dv → own_Go p e below En T' (mkF m (pc + 1) ls st)) : own_Go p e below En T (mkF m pc ls (.int x :: .int j :: .ref a :: st)) := by
  subst hx'
  obtain ⟨locs, kk, nn, X, eT, N, q1, q2⟩ := S
  obtain ⟨cl, A, ck, sz, hN, H, G⟩ := FF
  obtain ⟨T', h', X', e', W, stp⟩ := stB X C.1 C.2.2.2.2.2.2.2 eT A (inb_of sz hin) (g := mkF m pc ls (.int x :: .int j :: .ref a :: st)) rfl rfl (own_hd C hd)
  exact own_step stp (k T' h' ⟨_, _, _, X', e', Fr.snoc X' N hge, q1, q2⟩ W (Arv.set A ck sz hN H G (fits_nar_byte x) W i hj hi))
theorem own_cast (C : own_Cx p s m meth c Z own cd maxL ret nm) (S : own_S p l e R s m args below meth c n0 T h cells slots) {index : Nat} {K : String} {a : Addr} (w : (Jvm.Cond.classLink own index K).before a0 Z = true) (FF : Ins Z h a K true) (hd : decode cd pc = .ok (.checkcast index, 3))
    (k : ∀ T', own_S p l e R s m args below meth c n0 T' h cells slots → own_Go p e below En T' (mkF m (pc + 3) ls (.ref a :: st))) : own_Go p e below En T (mkF m pc ls (.ref a :: st)) := by
  obtain ⟨locs, kk, nn, X, eT, N, q1, q2⟩ := S
  obtain ⟨T', X', e', stp⟩ := castY X C.1 C.2.2.2.2.2.2.2 C.2.2.2.1 w eT FF (g := mkF m pc ls (.ref a :: st)) rfl rfl (own_hd C hd)
  exact own_step stp (k T' ⟨_, _, _, X', e', N, q1, q2⟩)
theorem own_inst (C : own_Cx p s m meth c Z own cd maxL ret nm) (S : own_S p l e R s m args below meth c n0 T h cells slots) {index : Nat} {K : String} {a : Addr} (w : (Jvm.Cond.classLink own index K).before a0 Z = true) (FF : Ins Z h a K true) (hd : decode cd pc = .ok (.instanceof index, 3))
    (k : ∀ T', own_S p l e R s m args below meth c n0 T' h cells slots → own_Go p e below En T' (mkF m (pc + 3) ls (.int 1 :: st))) : own_Go p e below En T (mkF m pc ls (.ref a :: st)) := by
  obtain ⟨locs, kk, nn, X, eT, N, q1, q2⟩ := S
  obtain ⟨T', X', e', stp⟩ := instY X C.1 C.2.2.2.2.2.2.2 C.2.2.2.1 w eT FF (g := mkF m pc ls (.ref a :: st)) rfl rfl (own_hd C hd)
  exact own_step stp (k T' ⟨_, _, _, X', e', N, q1, q2⟩)
theorem own_ret {t : FieldType} (C : own_Cx p s m meth c Z own cd maxL (some t) nm) (S : own_S p l e R s m args below meth c n0 T h cells slots) {i : Instr} {w : Value} (hd : decode cd pc = .ok (i, 1)) (hn : narrow t w = w)
    (hi : (i = .ireturn ∧ (t = .int ∨ t = .boolean ∨ t = .byte ∨ t = .char ∨ t = .short) ∧ ∃ z, w = .int z) ∨ (i = .lreturn ∧ t = .long ∧ ∃ z, w = .long z) ∨ (i = .dreturn ∧ t = .double ∧ ∃ z, w = .double z) ∨ (i = .freturn ∧ t = .float ∧ ∃ z, w = .float z) ∨ (i = .areturn ∧ t.isReference = true ∧ w.isRef = true))
    (hc : cells ≤ kc) (hs : slots ≤ ks) (hF : F (some w) h) : own_Go p e below (own_En s n0 F kc ks) T (mkF m pc ls (w :: st)) := by
  obtain ⟨locs, kk, nn, X, eT, N, q1, q2⟩ := S
  obtain ⟨fs, hr, hrun, hended, hW, hsame⟩ := X.leave (v := some w) (fun q => by rw [C.2.2.2.2.2.1] at q; cases q) C.2.2.2.2.2.2.1
  refine ⟨_, _, retOut X C.1 C.2.2.2.2.2.1 hn hi (own_hd C hd) hr, hrun, hended, _, _, rfl, ⟨?_, N⟩, ⟨_, rfl⟩, hW, hsame.mono (Nat.le_trans q1 hc) (Nat.le_trans q2 hs)⟩
  show F (some w) T.heap
  rw [eT]; exact hF
theorem own_retI (C : own_Cx p s m meth c Z own cd maxL (some .int) nm) (S : own_S p l e R s m args below meth c n0 T h cells slots) {z : Int32} (hd : decode cd pc = .ok (.ireturn, 1)) (hc : cells ≤ kc) (hs : slots ≤ ks) (hF : F (some (.int z)) h) : own_Go p e below (own_En s n0 F kc ks) T (mkF m pc ls (.int z :: st)) :=
  own_ret C S hd rfl (Or.inl ⟨rfl, Or.inl rfl, z, rfl⟩) hc hs hF
theorem own_retZ (C : own_Cx p s m meth c Z own cd maxL (some .boolean) nm) (S : own_S p l e R s m args below meth c n0 T h cells slots) {z : Int32} (hd : decode cd pc = .ok (.ireturn, 1)) (hz : z &&& 1 = z) (hc : cells ≤ kc) (hs : slots ≤ ks) (hF : F (some (.int z)) h) : own_Go p e below (own_En s n0 F kc ks) T (mkF m pc ls (.int z :: st)) :=
  own_ret C S hd (by show Value.int (z &&& 1) = _; rw [hz]) (Or.inl ⟨rfl, Or.inr (Or.inl rfl), z, rfl⟩) hc hs hF
theorem own_retA {t : FieldType} (C : own_Cx p s m meth c Z own cd maxL (some t) nm) (S : own_S p l e R s m args below meth c n0 T h cells slots) {w : Value} (ht : t.isReference = true) (hr : w.isRef = true) (hd : decode cd pc = .ok (.areturn, 1)) (hc : cells ≤ kc) (hs : slots ≤ ks) (hF : F (some w) h) : own_Go p e below (own_En s n0 F kc ks) T (mkF m pc ls (w :: st)) :=
  own_ret C S hd (by cases w <;> simp [Value.isRef] at hr <;> cases t <;> first | rfl | (simp [FieldType.isReference] at ht)) (by simp [ht, hr]) hc hs hF
theorem own_retV (C : own_Cx p s m meth c Z own cd maxL none nm) (S : own_S p l e R s m args below meth c n0 T h cells slots) (hd : decode cd pc = .ok (.return_, 1)) (hc : cells ≤ kc) (hs : slots ≤ ks) (hF : F none h) : own_Go p e below (own_En s n0 F kc ks) T (mkF m pc ls []) := by
  obtain ⟨locs, kk, nn, X, eT, N, q1, q2⟩ := S
  obtain ⟨fs, hr, hrun, hended, hW, hsame⟩ := X.leave (v := none) (fun _ => rfl) C.2.2.2.2.2.2.1
  refine ⟨_, _, X.returnOut C.1 C.2.2.2.2.2.1 (own_hd C hd) hr, hrun, hended, _, _, rfl, ⟨?_, N⟩, ⟨_, rfl⟩, hW, hsame.mono (Nat.le_trans q1 hc) (Nat.le_trans q2 hs)⟩
  show F none T.heap
  rw [eT]; exact hF
def own_Met (l : Launch) (Z : State) (y : MethodName) (cd : ByteArray) (maxL : Nat) (ret : Option FieldType) (rm : Room) (n0 : Nat) (as' : Array Value) (h0 : Heap) (Q : Option Value → Heap → Prop) : Prop :=
  ∀ ws, MetFree l y (head1 (Jvm.Cond.code y cd maxL ret :: ws) rm) (fun a U => a = as' ∧ Z.Warmed39 U.vm ∧ U.heap = h0) (fun _ _ _ _ _ => True) (fun _ U o U' => ∃ v L, o = .returned v ∧ (Q v U'.heap ∧ Fr n0 L) ∧ FrameEnd U o U' L rm.cells rm.slots)
theorem own_met {y : MethodName} {rm : Room} {as' : Array Value} {h0 : Heap} {Q : Option Value → Heap → Prop} (hp : plainFor y = true) (ls : Array Slot) (hef : ∀ m, entryFrame m as' maxL = mkF m 0 ls [])
    (H : ∀ (p : Program) (e : Env) (s : State) (m : MethodId) (below : List Frame) (meth : Method) (c : Code) (T : State), own_Cx p s m meth c Z y.cls cd maxL ret y.name → own_S p l e rm s m as' below meth c n0 T h0 0 0 → own_Go p e below (own_En s n0 Q rm.cells rm.slots) T (mkF m 0 ls [])) : own_Met l Z y cd maxL ret rm n0 as' h0 Q := by
  intro ws
  refine MetFree.of_bodySF hp hisR ?_
  intro p e s m args below meth c s₁ Bd hml hP hK
  obtain ⟨rfl, hZ, hh⟩ := hP
  have e0 : s₁.heap = h0 := by rw [← hh, Bd.state]; rfl
  have G := H p e s m below meth c s₁ ⟨Bd.exec, Bd.bytes, hml, findClass_of_methodNamed Bd.named, (name_of_methodNamed Bd.named Bd.method).1, Bd.returns, BodyLoose.notSynchronized Bd, hZ⟩ ⟨_, _, _, Stand.of_body Bd, e0, Fr.nil n0, Nat.le_refl _, Nat.le_refl _⟩
  rw [← hef m] at G
  exact G
/-- who pays a call -/
abbrev own_Pay (l : Launch) (R : Room) (p : Program) (e : Env) (below : List Frame) (s : State) (args : Array Value) (y : MethodName) (len W : Nat) (as' : Array Value) (h : Heap) (k1 k2 : Nat) (Q : Option Value → Heap → List Loc → Prop) : Prop :=
  Back l R p e below s args y len W (fun P a => a = as' ∧ P.U.heap = h ∧ P.cells + k1 ≤ R.cells ∧ P.slots + k2 ≤ R.slots) (fun P _ v B => ∃ L, Q v B.U.heap L ∧ B.locs = P.locs ++ L ∧ B.cells = P.cells + k1 ∧ B.slots = P.slots + k2)
theorem own_Met.pay {y : MethodName} {cdy : ByteArray} {maxy : Nat} {rety : Option FieldType} {rm : Room} {as' : Array Value} {Q : Option Value → Heap → Prop} (M : own_Met l Z y cdy maxy rety rm n0 as' h Q) (C : own_Cx p s m meth c Z own cd maxL ret nm) {len : Nat} (W : Nat) (wc : (Jvm.Cond.code y cdy maxy rety).before a0 Z = true) (wz : (Jvm.Cond.initialized y.cls).before a0 Z = true) (hf : rm.frames + 1 ≤ R.frames) (hl : W + (maxy + 11) + rm.locals ≤ R.locals) :
    own_Pay l R p e below s args y len W as' h rm.cells rm.slots (fun v h' L => Q v h' ∧ Fr n0 L) := backOf (Q := fun v h' L => Q v h' ∧ Fr n0 L) (M []) C.2.2.2.2.2.2.2 wc wz hf hl
theorem own_callS (C : own_Cx p s m meth c Z own cd maxL ret nm) (S : own_S p l e R s m args below meth c n0 T h cells slots) {y : MethodName} {index : Nat} {cdy : ByteArray} {maxy : Nat} {rety : Option FieldType} {W k1 k2 : Nat} {as' : Array Value} {Q : Option Value → Heap → List Loc → Prop}
    (w1 : (Jvm.Cond.methodLink own index y).before a0 Z = true) (w2 : (Jvm.Cond.static y).before a0 Z = true) (w3 : (Jvm.Cond.initialized y.cls).before a0 Z = true) (w4 : (Jvm.Cond.code y cdy maxy rety).before a0 Z = true) (hy : y.cls ≠ "java/lang/invoke/MethodHandle" ∧ y.cls ≠ "java/lang/invoke/VarHandle")
    (hK : own_Pay l R p e below s args y 3 W as' h k1 k2 Q) (hfr : ∀ v h' L, Q v h' L → Fr n0 L) (argsL rest : List Value) {ps : List FieldType} {rr : Option FieldType} (has : argsL.toArray = as') (hpd : parseMethodDescriptor y.desc = some ⟨ps, rr⟩) (hlen : argsL.length = ps.length) (hstk : st = argsL.reverse ++ rest) (hsz : ls.size = maxL) (hW : (rest.map fun v => v.category).sum ≤ W)
    (hc : cells + k1 ≤ R.cells) (hs : slots + k2 ≤ R.slots) (hd : decode cd pc = .ok (.invokestatic index, 3))
    (k : ∀ T' h' v L, own_S p l e R s m args below meth c n0 T' h' (cells + k1) (slots + k2) → Q v h' L → own_Go p e below En T' (mkF m (pc + 3) ls (v.toList ++ rest))) : own_Go p e below En T (mkF m pc ls st) := by
  obtain ⟨locs, kk, nn, X, eT, N, q1, q2⟩ := S
  have hZ := C.2.2.2.2.2.2.2
  obtain ⟨v, vm1, B, -, X', ⟨L, hQ, l1, l2, l3⟩, stp⟩ := Jvm.LawKit.callS X C.1 C.2.2.2.1 (mvT hZ w1) (mvT hZ w2) (mvT hZ w3) (mvT hZ w4) hy hK (g := mkF m pc ls st) rfl (own_hsz C hsz) (argsL := argsL) (rest := rest) (lenOf hpd hlen) hstk (by show 2 * 0 + _ ≤ W; omega) (own_hd C hd) (fun _ _ => ⟨has, eT, by show kk + k1 ≤ _; omega, by show nn + k2 ≤ _; omega⟩)
  refine own_step stp (k B.U _ v L ⟨B.locs, B.cells, B.slots, X', rfl, ?_, ?_, ?_⟩ hQ)
  · rw [l1]; exact Fr.app N (hfr _ _ _ hQ)
  · rw [l2]; show kk + k1 ≤ _; omega
  · rw [l3]; show nn + k2 ≤ _; omega
theorem own_callI (C : own_Cx p s m meth c Z own cd maxL ret nm) (S : own_S p l e R s m args below meth c n0 T h cells slots) {y : MethodName} {index : Nat} {cdy : ByteArray} {maxy : Nat} {W k1 k2 : Nat} {as' : Array Value} {Q : Option Value → Heap → List Loc → Prop}
    (hy1 : y.name = "<init>") (w1 : (Jvm.Cond.methodLink own index y).before a0 Z = true) (w2 : (Jvm.Cond.instanceMethod y).before a0 Z = true) (w4 : (Jvm.Cond.code y cdy maxy none).before a0 Z = true) (hy : y.cls ≠ "java/lang/invoke/MethodHandle" ∧ y.cls ≠ "java/lang/invoke/VarHandle")
    (hK : own_Pay l R p e below s args y 3 W as' h k1 k2 Q) (hfr : ∀ v h' L, Q v h' L → Fr n0 L) {a : Addr} (argsL rest : List Value) {ps : List FieldType} {rr : Option FieldType} (has : (.ref a :: argsL).toArray = as') (hpd : parseMethodDescriptor y.desc = some ⟨ps, rr⟩) (hlen : argsL.length = ps.length) (hstk : st = argsL.reverse ++ .ref a :: rest) (hsz : ls.size = maxL) (hW : (rest.map fun v => v.category).sum ≤ W)
    (hc : cells + k1 ≤ R.cells) (hs : slots + k2 ≤ R.slots) (hd : decode cd pc = .ok (.invokespecial index, 3))
    (k : ∀ T' h' v L, own_S p l e R s m args below meth c n0 T' h' (cells + k1) (slots + k2) → Q v h' L → own_Go p e below En T' (mkF m (pc + 3) ls (v.toList ++ rest))) : own_Go p e below En T (mkF m pc ls st) := by
  obtain ⟨locs, kk, nn, X, eT, N, q1, q2⟩ := S
  have hZ := C.2.2.2.2.2.2.2
  obtain ⟨v, vm1, B, -, X', ⟨L, hQ, l1, l2, l3⟩, stp⟩ := X.specialBack C.1 hy1 C.2.2.2.1 (mvT hZ w1) (mvT hZ w2) (mvT hZ w4) hy hK (g := mkF m pc ls st) rfl (own_hsz C hsz) (Steps.refl _) (a := a) (argsL := argsL) (rest := rest) (lenOf hpd hlen) hstk (by show 2 * 0 + _ ≤ W; omega) (own_hd C hd) (fun _ _ => ⟨has, eT, by show kk + k1 ≤ _; omega, by show nn + k2 ≤ _; omega⟩)
  refine own_step (fun t k => stp.trans k) (k B.U _ v L ⟨B.locs, B.cells, B.slots, X', rfl, ?_, ?_, ?_⟩ hQ)
  · rw [l1]; exact Fr.app N (hfr _ _ _ hQ)
  · rw [l2]; show kk + k1 ≤ _; omega
  · rw [l3]; show nn + k2 ≤ _; omega
theorem own_nf {args : Array Value} {s : State} {C : String} {y y' : MethodName} (hyc : y'.cls = y.cls) (hsel : (Jvm.Cond.selects C y' y').before args s = true) : NotFace s y := fun r0 h0 => by
  obtain ⟨c2, r2, m2, q1, q2, q3, q4, kP, hkP, hkPi⟩ := Cond.selects_spec hsel
  have e1 := findClass_of_methodNamed h0
  have e2 := findClass_of_methodNamed q3
  rw [hyc, e1] at e2
  rw [Option.some.inj e2]
  exact ⟨kP, hkP, hkPi⟩
theorem own_callV (C : own_Cx p s m meth c Z own cd maxL ret nm) (S : own_S p l e R s m args below meth c n0 T h cells slots) {y z : MethodName} {Cl : String} {index : Nat} {W k1 k2 : Nat} {as' : Array Value} {Q : Option Value → Heap → List Loc → Prop}
    (w1 : (Jvm.Cond.methodLink own index y).before a0 Z = true) (w2 : (Jvm.Cond.declares y).before a0 Z = true) (w3 : (Jvm.Cond.selects Cl y z).before a0 Z = true) {Cl' : String} {y' : MethodName} (w3' : (Jvm.Cond.selects Cl' y' y').before a0 Z = true) (hyc : y'.cls = y.cls) (w4 : (Jvm.Cond.instanceMethod z).before a0 Z = true) (hy : y.cls ≠ "java/lang/invoke/MethodHandle" ∧ y.cls ≠ "java/lang/invoke/VarHandle")
    (hK : own_Pay l R p e below s args z 3 W as' h k1 k2 Q) (hfr : ∀ v h' L, Q v h' L → Fr n0 L) {a : Addr} (E : Exa Z h a Cl) (argsL rest : List Value) {ps : List FieldType} {rr : Option FieldType} (has : (.ref a :: argsL).toArray = as') (hpd : parseMethodDescriptor y.desc = some ⟨ps, rr⟩) (hlen : argsL.length = ps.length) (hstk : st = argsL.reverse ++ .ref a :: rest) (hsz : ls.size = maxL) (hW : (rest.map fun v => v.category).sum ≤ W)
    (hc : cells + k1 ≤ R.cells) (hs : slots + k2 ≤ R.slots) (hd : decode cd pc = .ok (.invokevirtual index, 3))
    (k : ∀ T' h' v L, own_S p l e R s m args below meth c n0 T' h' (cells + k1) (slots + k2) → Q v h' L → own_Go p e below En T' (mkF m (pc + 3) ls (v.toList ++ rest))) : own_Go p e below En T (mkF m pc ls st) := by
  obtain ⟨locs, kk, nn, X, eT, N, q1, q2⟩ := S
  have hZ := C.2.2.2.2.2.2.2
  obtain ⟨cq, kq, qa, qb, qc⟩ := isOf (T := T) hZ eT E
  obtain ⟨v, vm1, B, -, X', ⟨L, hQ, l1, l2, l3⟩, stp⟩ := X.virtualBack C.1 C.2.2.2.1 (mvT hZ w1) (mvT hZ w2) (own_nf (args := #[]) hyc (mvT hZ w3')) (mvT hZ w3) (mvT hZ w4) hy hK qa qc (g := mkF m pc ls st) rfl (own_hsz C hsz) (Steps.refl _) (argsL := argsL) (rest := rest) (lenOf hpd hlen) hstk (by show 2 * 0 + _ ≤ W; omega) (own_hd C hd) (fun _ _ => ⟨has, eT, by show kk + k1 ≤ _; omega, by show nn + k2 ≤ _; omega⟩)
  refine own_step (fun t k => stp.trans k) (k B.U _ v L ⟨B.locs, B.cells, B.slots, X', rfl, ?_, ?_, ?_⟩ hQ)
  · rw [l1]; exact Fr.app N (hfr _ _ _ hQ)
  · rw [l2]; show kk + k1 ≤ _; omega
  · rw [l3]; show nn + k2 ≤ _; omega
end OwnKit

section OwnKitW
open Jvm.Free.SB Jvm.Free.SBG
variable {p : Program} {l : Launch} {e : Env} {R : Room} {s : State} {m : MethodId} {args : Array Value} {below : List Frame} {meth : Method} {c : Code} {T : State} {locs : List Loc} {cells slots : Nat} {Z : State} {a0 : Array Value} {h : Heap} {own : String} {cd : ByteArray} {maxL : Nat} {ret : Option FieldType} {nm : String} {n0 : Nat} {F : Option Value → Heap → Prop} {kc ks : Nat} {En : Outcome → State → Prop} {pc : Nat} {ls : Array Slot} {st : List Value} {EL : List (String × Nat)} {G : List Addr}
end OwnKitW

theorem own_i2b2 (x : Int32) : nar .byte x.toInt8.toInt32 = x.toInt8.toInt32 := by
  have h := Jvm.Free.XT.narrow_b x
  exact Value.int.inj h
theorem own_up (cs : List Int32) (h : ∀ c ∈ cs, ¬ c < 0 ∧ ¬ (255 : Int32) < c) : ∀ c ∈ cs, ¬ c < 0 ∧ ¬ (65535 : Int32) < c := fun c hc => ⟨(h c hc).1, fun q => (h c hc).2 (by rw [Int32.lt_iff_toInt_lt] at q ⊢; have e1 : (65535 : Int32).toInt = 65535 := rfl; have e2 : (255 : Int32).toInt = 255 := rfl; omega)⟩
theorem own_ofNat_nn {i : Nat} (h : i ≤ 4000) : ¬ Int32.ofNat i < 0 ∧ (Int32.ofNat i).toNatClampNeg = i := by
  have e : (Int32.ofNat i).toInt = i := Int32.toInt_ofNat_of_lt (by omega)
  refine ⟨?_, ?_⟩
  · rw [Int32.lt_iff_toInt_lt, e]
    have e0 : (0 : Int32).toInt = 0 := rfl
    omega
  · simp only [Int32.toNatClampNeg, e]; omega
theorem own_getD_mem {cs : List Int32} {i : Nat} (hi : i < cs.length) : cs.getD i 0 ∈ cs := by
  simp [List.getD, List.getElem?_eq_getElem hi]
theorem own_oN {n : Nat} (h : n ≤ 4000) : (Int32.ofNat n).toInt = n ∧ (Int32.ofNat n).toNatClampNeg = n := by
  have e : (Int32.ofNat n).toInt = n := Int32.toInt_ofNat_of_lt (by omega)
  exact ⟨e, (own_ofNat_nn h).2⟩
def own_DB (a : Int32) : Prop := ∃ k, k < 28 ∧ a = Int32.ofNat (k + 1)
theorem own_ab (x : Int32) : own_DB (((x &&& (2147483647 : Int32)) % (28 : Int32)) + (1 : Int32)) := by
  have h := c_and x (2147483647 : Int32) (by decide)
  have e1 : (28 : Int32).toInt = 28 := rfl
  have e2 : ((x &&& (2147483647 : Int32)) % (28 : Int32)).toInt = (x &&& (2147483647 : Int32)).toInt % 28 := by
    rw [Int32.toInt_mod, e1, Int.tmod_eq_emod_of_nonneg h.1]
  refine ⟨((x &&& (2147483647 : Int32)) % (28 : Int32)).toInt.toNat, by omega, ?_⟩
  have e3 : Int32.ofNat (((x &&& (2147483647 : Int32)) % (28 : Int32)).toInt.toNat) = (x &&& (2147483647 : Int32)) % (28 : Int32) := by
    apply Int32.toInt_inj.mp
    rw [(own_oN (by omega)).1]; omega
  rw [Int32.ofNat_add, e3]; rfl
def own_DOi : List Int32 := (List.range 100).map fun i => 48 + i.toInt32 % 10
def own_DTi : List Int32 := (List.range 100).map fun i => 48 + i.toInt32 / 10
def own_DO : List Value := own_DOi.map Value.int
def own_DT : List Value := own_DTi.map Value.int
theorem own_fO : ∀ v ∈ own_DOi, fits .byte (.int v) = true := by decide +kernel
theorem own_fT : ∀ v ∈ own_DTi, fits .byte (.int v) = true := by decide +kernel
theorem own_gO : ∀ i < 100, own_DOi.getD i 0 = 48 + i.toInt32 % 10 := by decide +kernel
theorem own_gT : ∀ i < 100, own_DTi.getD i 0 = 48 + i.toInt32 / 10 := by decide +kernel
theorem own_w1_k : ∀ k < 28, ¬ (Int32.ofNat (k + 1)) < (1 : Int32) := by decide +kernel
theorem own_w1 {y : Int32} (h : own_DB y) : ¬ y < (1 : Int32) := by
  obtain ⟨k, hk, rfl⟩ := h; exact own_w1_k k hk
theorem own_w2_k : ∀ k < 28, ¬ (28 : Int32) < (Int32.ofNat (k + 1)) := by decide +kernel
theorem own_w2 {y : Int32} (h : own_DB y) : ¬ (28 : Int32) < y := by
  obtain ⟨k, hk, rfl⟩ := h; exact own_w2_k k hk
theorem own_w3_k : ∀ k < 28, ¬ (Int32.ofNat (k + 1)) < (0 : Int32) := by decide +kernel
theorem own_w3 {y : Int32} (h : own_DB y) : ¬ y < (0 : Int32) := by
  obtain ⟨k, hk, rfl⟩ := h; exact own_w3_k k hk
theorem own_w4_k : ∀ k < 28, (Int32.ofNat (k + 1)) < (10 : Int32) → (-10 : Int32) < (-(Int32.ofNat (k + 1))) := by decide +kernel
theorem own_w4 {y : Int32} (h : own_DB y) : y < (10 : Int32) → (-10 : Int32) < (-y) := by
  obtain ⟨k, hk, rfl⟩ := h; exact own_w4_k k hk
theorem own_w5_k : ∀ k < 28, ¬ (Int32.ofNat (k + 1)) < (10 : Int32) → ¬ (-10 : Int32) < (-(Int32.ofNat (k + 1))) := by decide +kernel
theorem own_w5 {y : Int32} (h : own_DB y) : ¬ y < (10 : Int32) → ¬ (-10 : Int32) < (-y) := by
  obtain ⟨k, hk, rfl⟩ := h; exact own_w5_k k hk
theorem own_w6_k : ∀ k < 28, (-100 : Int32) < (-(Int32.ofNat (k + 1))) := by decide +kernel
theorem own_w6 {y : Int32} (h : own_DB y) : (-100 : Int32) < (-y) := by
  obtain ⟨k, hk, rfl⟩ := h; exact own_w6_k k hk
theorem own_w7_k : ∀ k < 28, (Int32.ofNat (k + 1)) < (100 : Int32) := by decide +kernel
theorem own_w7 {y : Int32} (h : own_DB y) : y < (100 : Int32) := by
  obtain ⟨k, hk, rfl⟩ := h; exact own_w7_k k hk
theorem own_w8_k : ∀ k < 28, (Int32.ofNat (k + 1)) < (10 : Int32) → ¬ (-(Int32.ofNat (k + 1))) < (-9 : Int32) := by decide +kernel
theorem own_w8 {y : Int32} (h : own_DB y) : y < (10 : Int32) → ¬ (-y) < (-9 : Int32) := by
  obtain ⟨k, hk, rfl⟩ := h; exact own_w8_k k hk
theorem own_w8n_k : ∀ k < 28, ¬ (Int32.ofNat (k + 1)) < (10 : Int32) → (-(Int32.ofNat (k + 1))) < (-9 : Int32) := by decide +kernel
theorem own_w8n {y : Int32} (h : own_DB y) : ¬ y < (10 : Int32) → (-y) < (-9 : Int32) := by
  obtain ⟨k, hk, rfl⟩ := h; exact own_w8n_k k hk
theorem own_w9_k : ∀ k < 28, ¬ (Int32.ofNat (k + 1)) = (29 : Int32) := by decide +kernel
theorem own_w9 {y : Int32} (h : own_DB y) : ¬ y = (29 : Int32) := by
  obtain ⟨k, hk, rfl⟩ := h; exact own_w9_k k hk
theorem own_w10_k : ∀ k < 28, (Int32.ofNat (k + 1)) < (29 : Int32) := by decide +kernel
theorem own_w10 {y : Int32} (h : own_DB y) : y < (29 : Int32) := by
  obtain ⟨k, hk, rfl⟩ := h; exact own_w10_k k hk
theorem own_w11_k : ∀ k < 28, ¬ (29 : Int32) < (Int32.ofNat (k + 1)) := by decide +kernel
theorem own_w11 {y : Int32} (h : own_DB y) : ¬ (29 : Int32) < y := by
  obtain ⟨k, hk, rfl⟩ := h; exact own_w11_k k hk
theorem own_w12_k : ∀ k < 28, -(-(Int32.ofNat (k + 1))) = (Int32.ofNat (k + 1)) := by decide +kernel
theorem own_w12 {y : Int32} (h : own_DB y) : -(-y) = y := by
  obtain ⟨k, hk, rfl⟩ := h; exact own_w12_k k hk
theorem own_y1_k : ∀ k < 28, own_DO.getD (Int32.ofNat (k + 1)).toNatClampNeg (.int 0) = .int ((48 : Int32) + ((Int32.ofNat (k + 1)) % (10 : Int32))) := by decide +kernel
theorem own_y1 {y : Int32} (h : own_DB y) : own_DO.getD y.toNatClampNeg (.int 0) = .int ((48 : Int32) + (y % (10 : Int32))) := by
  obtain ⟨k, hk, rfl⟩ := h; exact own_y1_k k hk
theorem own_y1t_k : ∀ k < 28, own_DT.getD (Int32.ofNat (k + 1)).toNatClampNeg (.int 0) = .int ((48 : Int32) + ((Int32.ofNat (k + 1)) / (10 : Int32))) := by decide +kernel
theorem own_y1t {y : Int32} (h : own_DB y) : own_DT.getD y.toNatClampNeg (.int 0) = .int ((48 : Int32) + (y / (10 : Int32))) := by
  obtain ⟨k, hk, rfl⟩ := h; exact own_y1t_k k hk
theorem own_y2_k : ∀ k < 28, nar .byte ((48 : Int32) + ((Int32.ofNat (k + 1)) % (10 : Int32))) = ((48 : Int32) + ((Int32.ofNat (k + 1)) % (10 : Int32))).toInt8.toInt32 := by decide +kernel
theorem own_y2 {y : Int32} (h : own_DB y) : nar .byte ((48 : Int32) + (y % (10 : Int32))) = ((48 : Int32) + (y % (10 : Int32))).toInt8.toInt32 := by
  obtain ⟨k, hk, rfl⟩ := h; exact own_y2_k k hk
theorem own_y2t_k : ∀ k < 28, nar .byte ((48 : Int32) + ((Int32.ofNat (k + 1)) / (10 : Int32))) = ((48 : Int32) + ((Int32.ofNat (k + 1)) / (10 : Int32))).toInt8.toInt32 := by decide +kernel
theorem own_y2t {y : Int32} (h : own_DB y) : nar .byte ((48 : Int32) + (y / (10 : Int32))) = ((48 : Int32) + (y / (10 : Int32))).toInt8.toInt32 := by
  obtain ⟨k, hk, rfl⟩ := h; exact own_y2t_k k hk
theorem own_y3_k : ∀ k < 28, ((48 : Int32) + (Int32.ofNat (k + 1))).toUInt32.toUInt16.toUInt32.toInt32 = ((48 : Int32) + (Int32.ofNat (k + 1))) := by decide +kernel
theorem own_y3 {y : Int32} (h : own_DB y) : ((48 : Int32) + y).toUInt32.toUInt16.toUInt32.toInt32 = ((48 : Int32) + y) := by
  obtain ⟨k, hk, rfl⟩ := h; exact own_y3_k k hk
theorem own_y3l_k : ∀ k < 28, ¬ (255 : Int32) < ((48 : Int32) + (Int32.ofNat (k + 1))) := by decide +kernel
theorem own_y3l {y : Int32} (h : own_DB y) : ¬ (255 : Int32) < ((48 : Int32) + y) := by
  obtain ⟨k, hk, rfl⟩ := h; exact own_y3l_k k hk
theorem own_y3r_k : ∀ k < 28, ¬ ((48 : Int32) + (Int32.ofNat (k + 1))) < 0 ∧ ¬ (255 : Int32) < ((48 : Int32) + (Int32.ofNat (k + 1))) := by decide +kernel
theorem own_y3r {y : Int32} (h : own_DB y) : ¬ ((48 : Int32) + y) < 0 ∧ ¬ (255 : Int32) < ((48 : Int32) + y) := by
  obtain ⟨k, hk, rfl⟩ := h; exact own_y3r_k k hk
theorem own_y4_k : ∀ k < 28, nar .char ((48 : Int32) + ((Int32.ofNat (k + 1)) % (10 : Int32))).toUInt32.toUInt16.toUInt32.toInt32 = ((48 : Int32) + ((Int32.ofNat (k + 1)) % (10 : Int32))) := by decide +kernel
theorem own_y4 {y : Int32} (h : own_DB y) : nar .char ((48 : Int32) + (y % (10 : Int32))).toUInt32.toUInt16.toUInt32.toInt32 = ((48 : Int32) + (y % (10 : Int32))) := by
  obtain ⟨k, hk, rfl⟩ := h; exact own_y4_k k hk
theorem own_y4t_k : ∀ k < 28, nar .char ((48 : Int32) + ((Int32.ofNat (k + 1)) / (10 : Int32))).toUInt32.toUInt16.toUInt32.toInt32 = ((48 : Int32) + ((Int32.ofNat (k + 1)) / (10 : Int32))) := by decide +kernel
theorem own_y4t {y : Int32} (h : own_DB y) : nar .char ((48 : Int32) + (y / (10 : Int32))).toUInt32.toUInt16.toUInt32.toInt32 = ((48 : Int32) + (y / (10 : Int32))) := by
  obtain ⟨k, hk, rfl⟩ := h; exact own_y4t_k k hk
theorem own_y5_k : ∀ k < 28, (Int32.ofNat (k + 1)) < (10 : Int32) → ([((48 : Int32) + ((Int32.ofNat (k + 1)) % (10 : Int32)))] : List Int32) = [((48 : Int32) + (Int32.ofNat (k + 1)))] := by decide +kernel
theorem own_y5 {y : Int32} (h : own_DB y) : y < (10 : Int32) → ([((48 : Int32) + (y % (10 : Int32)))] : List Int32) = [((48 : Int32) + y)] := by
  obtain ⟨k, hk, rfl⟩ := h; exact own_y5_k k hk
theorem own_y6_k : ∀ k < 28, ¬ ((48 : Int32) + ((Int32.ofNat (k + 1)) % (10 : Int32))) < 0 ∧ ¬ (255 : Int32) < ((48 : Int32) + ((Int32.ofNat (k + 1)) % (10 : Int32))) := by decide +kernel
theorem own_y6 {y : Int32} (h : own_DB y) : ¬ ((48 : Int32) + (y % (10 : Int32))) < 0 ∧ ¬ (255 : Int32) < ((48 : Int32) + (y % (10 : Int32))) := by
  obtain ⟨k, hk, rfl⟩ := h; exact own_y6_k k hk
theorem own_y6t_k : ∀ k < 28, ¬ ((48 : Int32) + ((Int32.ofNat (k + 1)) / (10 : Int32))) < 0 ∧ ¬ (255 : Int32) < ((48 : Int32) + ((Int32.ofNat (k + 1)) / (10 : Int32))) := by decide +kernel
theorem own_y6t {y : Int32} (h : own_DB y) : ¬ ((48 : Int32) + (y / (10 : Int32))) < 0 ∧ ¬ (255 : Int32) < ((48 : Int32) + (y / (10 : Int32))) := by
  obtain ⟨k, hk, rfl⟩ := h; exact own_y6t_k k hk
theorem own_TE {s : State} {a : Array Value} {t u : Term} (vs : List Int32) (hn : vs.length = 100) (hst : ∀ i, t.eval a s none [i] s = t.eval a s none [] s)
    (h0 : (Jvm.Cond.exactly t "[B").before a s = true) (hc : (Jvm.Cond.arrayClass .byte).before a s = true) (h2 : (Jvm.Cond.eq (.length t) (.int 100)).before a s = true) (h3 : (Jvm.Cond.all t (.eq (.elem t (.index 0)) u)).before a s = true)
    (hu : ∀ i < 100, u.eval a s none [i] s = some (.int (vs.getD i 0))) (h4 : ∀ v ∈ vs, fits .byte (.int v) = true) :
    ∃ D k, t.eval a s none [] s = some (.ref D) ∧ Arv s s.heap D k .byte (100 : Int32) (vs.map Value.int) (.int 0) ∧ D < s.heap.size := by
  obtain ⟨y, e1, e2⟩ := Cond.eq_one (show (Jvm.Cond.eq (.length t) (.int 100)).holds a s none s [] = true from h2)
  obtain ⟨D, c, d1, d2, rfl⟩ := Term.length_spec e1
  obtain ⟨q1, q2, q3, -⟩ := State.arrayAt?_spec d2
  obtain ⟨D', cB, c', kB, f1, f2, f3, f4, f5, f6, -⟩ := Cond.exactly_spec h0
  cases d1.symm.trans f1
  cases q1.symm.trans f3
  obtain ⟨cB', kB', comp, g1, g2, g3⟩ := Cond.arrayClass_spec hc
  have eBA : ("[" ++ FieldType.toString .byte) = "[B" := by decide
  rw [eBA] at g1
  cases f2.symm.trans g1
  cases f4.symm.trans g2
  have A : Arr s s.heap D c .byte := ⟨q1, ⟨fun q h => (by rw [h] at f5; cases f5), kB, by rw [f6]; exact f4, comp, g3⟩, q2⟩
  have hlt : c.slots.size < 2 ^ 31 := by
    by_cases g : c.slots.size < 2 ^ 31
    · exact g
    · simp [Term.eval, d1, d2, g] at e1
  rw [Term.int_eval] at e2
  have e4 : c.slots.size.toInt32 = (100 : Int32) := Value.int.inj (Option.some.inj e2).symm
  have e5 : c.slots.size = 100 := by
    have := congrArg Int32.toInt e4
    rw [Jvm.RoadKit.len_toInt hlt] at this
    have e0 : (100 : Int32).toInt = 100 := rfl
    omega
  have hg : ∀ i, i < 100 → (vs.map Value.int).getD i (.int 0) = .int (vs.getD i 0) := by
    intro i hi
    simp [List.getD, List.getElem?_map, List.getElem?_eq_getElem (show i < vs.length by omega)]
  have hall := Cond.all_elim d1 d2 (Cond.before_iff.mp h3)
  refine ⟨D, c.cls, d1, ⟨c, A, rfl, by rw [e5]; rfl, by decide, fun i hi => ?_, fun i hi => ?_⟩, A.lt⟩
  · have hv := hall i hi
    rw [e5] at hi
    obtain ⟨y, f1, f2⟩ := Cond.eq_one (beq_iff_eq.mpr hv : (Jvm.Cond.eq (.elem t (.index 0)) u).holds a s none s [i] = true)
    obtain ⟨D', j, cell', g1, g2, g3, -, g4⟩ := Term.elem_spec f1
    rw [hst, d1] at g1; cases g1
    rw [d2] at g3; cases g3
    rw [Term.index_eval] at g2; rw [hu i hi] at f2
    cases g2; cases f2
    rw [show i.toInt32.toNatClampNeg = i from (own_oN (n := i) (by omega)).2] at g4
    rw [hg i hi]; exact g4
  · rw [e5] at hi
    rw [hg i hi]
    exact h4 _ (own_getD_mem (by omega))
theorem own_fst {s : State} {a : Array Value} {t u : Term} {C n d : String} {x : Addr} {v : Value} (e1 : t.eval a s none [] s = some (.ref x)) (h : (Jvm.Cond.eq (.field t C n d) u).before a s = true) (hu : u.eval a s none [] s = some v) : Fld s s.heap x C n d v := by
  obtain ⟨y, e2, e3⟩ := Cond.eq_one (show (Jvm.Cond.eq (.field t C n d) u).holds a s none s [] = true from h)
  rw [hu] at e3
  cases e3
  simp only [Term.eval, e1, Option.bind_eq_bind, Option.bind_some] at e2
  exact Fld.start e2

theorem own_fd0 : parseFieldDescriptor "I" = some .int := by decide +kernel
theorem own_di (l : Launch) (Z : State) (a0 : Array Value) (hw : ∀ d ∈ tables_1, d.before a0 Z = true) (a : Addr) (y : Int32) (h0 : Heap) (n0 : Nat) (z0 : n0 ≤ h0.size) (ge_a : n0 ≤ a) (pE : Exa Z h0 a "com/example/reckoner/reckoner/model/DayOfMonth") (pF : Fld Z h0 a "com/example/reckoner/reckoner/model/DayOfMonth" "number" "I" (.int 0)) :
    own_Met l Z (⟨"com/example/reckoner/reckoner/model/DayOfMonth", "<init>", "(I)V"⟩ : MethodName) prog_9_method_1_code 2 none ({ frames := 1, cells := 0, slots := 0, locals := 12 } : Room) n0 #[(.ref a), (.int y)] h0 (fun v h => v = none ∧ Keep h0 h [a] ∧ Exa Z h a "com/example/reckoner/reckoner/model/DayOfMonth" ∧ Fld Z h a "com/example/reckoner/reckoner/model/DayOfMonth" "number" "I" (.int y)) := by
  refine own_met (by decide +kernel) #[.val (.ref a), .val (.int y)] (fun m => by first | (simp [entryFrame, mkF, argsToLocals, Value.category]; done) | rfl) ?_
  intro p e s m below meth c T0 C S0
  refine own_seg C S0 [(0, .aload_n 0, 1)] (by decide +kernel) 1 #[.val (.ref a), .val (.int y)] [(.ref a)] rfl ?_
  refine own_initO C S0 (own_wd hw 10 rfl) (own_wd hw 11 rfl) (own_wd hw 12 rfl) rfl (by decide +kernel) (by decide) 0 (Nat.le_of_ble_eq_true rfl) (by decide) ?_
  intro T1 S2
  refine own_seg C S2 [(4, .aload_n 0, 1), (5, .iload_n 1, 1)] (by decide +kernel) 6 #[.val (.ref a), .val (.int y)] [(.int y), (.ref a)] rfl ?_
  refine own_putF C S2 (ty := .int) (host := "") (Or.inl (own_wd hw 13 rfl)) Via.refl pF pE (Or.inr ⟨(own_wd hw 14 rfl), rfl, rfl⟩) (own_wd hw 6 rfl) own_fd0 rfl rfl ge_a (by decide +kernel) ?_
  intro T3 h5 S4 W6
  have f7 : Fld Z h5 a "com/example/reckoner/reckoner/model/DayOfMonth" "number" "I" (.int y) := Fld.same W6 pF
  refine own_retV C S4 (by decide +kernel) (by decide) (by decide) ?_
  have f8 := (Exa.wr W6 pE)
  exact ⟨rfl, ((Keep.refl _ _).wr W6 (Or.inl (List.mem_of_getElem? (i := 0) rfl))), f8, f7⟩
theorem own_pd0 : parseMethodDescriptor "(I)V" = some ⟨[.int], none⟩ := by decide +kernel
theorem own_nu (l : Launch) (Z : State) (a0 : Array Value) (hw : ∀ d ∈ tables_1, d.before a0 Z = true) (y : Int32) (h0 : Heap) (n0 : Nat) (z0 : n0 ≤ h0.size) (hy : own_DB y) :
    own_Met l Z (⟨"com/example/reckoner/reckoner/model/DayOfMonth", "numbered", "(I)Lcom/example/reckoner/reckoner/model/DayOfMonth;"⟩ : MethodName) prog_9_method_2_code 1 (some (.object "com/example/reckoner/reckoner/model/DayOfMonth")) ({ frames := 2, cells := 1, slots := 1, locals := 26 } : Room) n0 #[(.int y)] h0 (fun v h => ∃ r : Addr, v = some (.ref r) ∧ h0.size ≤ r ∧ Keep h0 h [] ∧ Exa Z h r "com/example/reckoner/reckoner/model/DayOfMonth" ∧ Fld Z h r "com/example/reckoner/reckoner/model/DayOfMonth" "number" "I" (.int y)) := by
  refine own_met (by decide +kernel) #[.val (.int y)] (fun m => by first | (simp [entryFrame, mkF, argsToLocals, Value.category]; done) | rfl) ?_
  intro p e s m below meth c T0 C S0
  refine own_seg C S0 [(0, .iload_n 0, 1), (1, .iconst 1, 1)] (by decide +kernel) 2 #[.val (.int y)] [(.int 1), (.int y)] rfl ?_
  refine own_icmp C S0 (q := .lt) (o := 9) (by decide +kernel) 11 (by decide) (by decide) (fun (hq : y < (1 : Int32)) => False.elim (own_w1 hy hq)) (fun (q9 : ¬ y < (1 : Int32)) => ?_)
  refine own_seg C S0 [(5, .iload_n 0, 1), (6, .bipush 28, 2)] (by decide +kernel) 8 #[.val (.int y)] [(.int 28), (.int y)] rfl ?_
  refine own_icmp C S0 (q := .le) (o := 17) (by decide +kernel) 25 (by decide) (by decide) (fun (q10 : ¬ (28 : Int32) < y) => ?_) (fun (hq : (28 : Int32) < y) => False.elim (own_w2 hy hq))
  refine own_new C S0 (own_wd hw 5 rfl) (own_wd hw 6 rfl) (own_wd hw 3 rfl) (by decide +kernel) (by decide) (by decide) ?_
  intro T11 h13 a14 S12 g15 E16 x17 D18
  have f19 : Fld Z h13 a14 "com/example/reckoner/reckoner/model/DayOfMonth" "number" "I" (.int 0) := D18 (ty := .int) (Or.inr (own_wd hw 14 rfl)) own_fd0
  refine own_seg C S12 [(28, .dup, 1), (29, .iload_n 0, 1)] (by decide +kernel) 30 #[.val (.int y)] [(.int y), (.ref a14), (.ref a14)] rfl ?_
  have f20 : n0 ≤ h13.size := (Nat.le_trans z0 E16.1)
  have g21 : n0 ≤ a14 := by rw [g15]; exact z0
  refine own_callI C S12 rfl (own_wd hw 7 rfl) (own_wd hw 8 rfl) (own_wd hw 9 rfl) (by decide) (own_Met.pay (own_di l Z a0 hw a14 y h13 n0 f20 g21 x17 f19) C 1 (own_wd hw 9 rfl) (own_wd hw 3 rfl) (by decide) (by decide)) (fun _ _ _ q => q.2) [(.int y)] [(.ref a14)] rfl own_pd0 rfl rfl rfl (Nat.le_of_ble_eq_true rfl) (by decide) (by decide) (by decide +kernel) ?_
  rintro T25 h26 v27 L28 S29 ⟨⟨rfl, K22, f23, f24⟩, -⟩
  show own_Go p e below _ T25 (mkF m 33 #[.val (.int y)] [(.ref a14)])
  refine own_retA C S29 rfl rfl (by decide +kernel) (by decide) (by decide) ?_
  have o30 : h0.size ≤ a14 := by rw [g15]; exact (Nat.le_refl _)
  exact ⟨a14, rfl, o30, (((Keep.refl _ _).ext E16).trans K22 (allS (Or.inr o30) all0)), f23, f24⟩
theorem own_ib (l : Launch) (Z : State) (a0 : Array Value) (hw : ∀ d ∈ tables_1, d.before a0 Z = true) (a : Addr) (b : Addr) (x1 : Int32) (x2 : Int32) (h0 : Heap) (n0 : Nat) (z0 : n0 ≤ h0.size) (p1 : Fld Z h0 a "com/example/reckoner/reckoner/model/DayOfMonth" "number" "I" (.int x1)) (p2 : Fld Z h0 b "com/example/reckoner/reckoner/model/DayOfMonth" "number" "I" (.int x2)) :
    own_Met l Z (⟨"com/example/reckoner/reckoner/model/DayOfMonth", "isBefore", "(Lcom/example/reckoner/reckoner/model/DayOfMonth;)Z"⟩ : MethodName) prog_9_method_4_code 2 (some .boolean) ({ frames := 0, cells := 0, slots := 0, locals := 0 } : Room) n0 #[(.ref a), (.ref b)] h0 (fun v h => v = some (.int (if x1 < x2 then (1 : Int32) else (0 : Int32))) ∧ h = h0) := by
  refine own_met (by decide +kernel) #[.val (.ref a), .val (.ref b)] (fun m => by first | (simp [entryFrame, mkF, argsToLocals, Value.category]; done) | rfl) ?_
  intro p e s m below meth c T0 C S0
  refine own_seg C S0 [(0, .aload_n 0, 1)] (by decide +kernel) 1 #[.val (.ref a), .val (.ref b)] [(.ref a)] rfl ?_
  refine own_getF C S0 (host := "") (Or.inl (own_wd hw 13 rfl)) Via.refl p1 (by decide +kernel) ?_
  intro T31 S32
  refine own_seg C S32 [(4, .aload_n 1, 1)] (by decide +kernel) 5 #[.val (.ref a), .val (.ref b)] [(.ref b), (.int x1)] rfl ?_
  refine own_getF C S32 (host := "") (Or.inl (own_wd hw 13 rfl)) Via.refl p2 (by decide +kernel) ?_
  intro T33 S34
  refine own_icmp C S34 (q := .ge) (o := 7) (by decide +kernel) 15 (by decide) (by decide) (fun (q35 : ¬ x1 < x2) => ?_) (fun (q36 : x1 < x2) => ?_)
  · refine own_seg C S34 [(15, .iconst 0, 1)] (by decide +kernel) 16 #[.val (.ref a), .val (.ref b)] [(.int 0)] rfl ?_
    refine own_retZ C S34 (by decide +kernel) (by decide) (by decide) (by decide) ?_
    exact ⟨(by rw [if_neg q35]), rfl⟩
  · refine own_seg C S34 [(11, .iconst 1, 1), (12, .goto 4, 3)] (by decide +kernel) 16 #[.val (.ref a), .val (.ref b)] [(.int 1)] rfl ?_
    refine own_retZ C S34 (by decide +kernel) (by decide) (by decide) (by decide) ?_
    exact ⟨(by rw [if_pos q36]), rfl⟩
theorem own_eq (l : Launch) (Z : State) (a0 : Array Value) (hw : ∀ d ∈ tables_1, d.before a0 Z = true) (a : Addr) (b : Addr) (x1 : Int32) (x2 : Int32) (h0 : Heap) (n0 : Nat) (z0 : n0 ≤ h0.size) (bE : Exa Z h0 b "com/example/reckoner/reckoner/model/DayOfMonth") (p1 : Fld Z h0 a "com/example/reckoner/reckoner/model/DayOfMonth" "number" "I" (.int x1)) (p2 : Fld Z h0 b "com/example/reckoner/reckoner/model/DayOfMonth" "number" "I" (.int x2)) :
    own_Met l Z (⟨"com/example/reckoner/reckoner/model/DayOfMonth", "equals", "(Ljava/lang/Object;)Z"⟩ : MethodName) prog_9_method_5_code 3 (some .boolean) ({ frames := 0, cells := 0, slots := 0, locals := 0 } : Room) n0 #[(.ref a), (.ref b)] h0 (fun v h => v = some (.int (if x1 = x2 then (1 : Int32) else (0 : Int32))) ∧ h = h0) := by
  refine own_met (by decide +kernel) #[.val (.ref a), .val (.ref b), .unset] (fun m => by first | (simp [entryFrame, mkF, argsToLocals, Value.category]; done) | rfl) ?_
  intro p e s m below meth c T0 C S0
  refine own_seg C S0 [(0, .aload_n 1, 1)] (by decide +kernel) 1 #[.val (.ref a), .val (.ref b), .unset] [(.ref b)] rfl ?_
  refine own_inst C S0 (own_wd hw 5 rfl) (Ins.self bE) (by decide +kernel) ?_
  intro T37 S38
  refine own_if C S38 (q := .eq) (o := 23) (by decide +kernel) 27 (by decide) (by decide) (fun (hq : (1 : Int32) = (0 : Int32)) => False.elim (by revert hq; decide)) (fun (q39 : ¬ (1 : Int32) = (0 : Int32)) => ?_)
  refine own_seg C S38 [(7, .aload_n 1, 1)] (by decide +kernel) 8 #[.val (.ref a), .val (.ref b), .unset] [(.ref b)] rfl ?_
  refine own_cast C S38 (own_wd hw 5 rfl) (Ins.self bE) (by decide +kernel) ?_
  intro T40 S41
  refine own_seg C S41 [(11, .astore_n 2, 1), (12, .aload_n 0, 1)] (by decide +kernel) 13 #[.val (.ref a), .val (.ref b), .val (.ref b)] [(.ref a)] rfl ?_
  refine own_getF C S41 (host := "") (Or.inl (own_wd hw 13 rfl)) Via.refl p1 (by decide +kernel) ?_
  intro T42 S43
  refine own_seg C S43 [(16, .aload_n 2, 1)] (by decide +kernel) 17 #[.val (.ref a), .val (.ref b), .val (.ref b)] [(.ref b), (.int x1)] rfl ?_
  refine own_getF C S43 (host := "") (Or.inl (own_wd hw 13 rfl)) Via.refl p2 (by decide +kernel) ?_
  intro T44 S45
  refine own_icmp C S45 (q := .ne) (o := 7) (by decide +kernel) 27 (by decide) (by decide) (fun (q46 : ¬ x1 = x2) => ?_) (fun (q47 : x1 = x2) => ?_)
  · refine own_seg C S45 [(27, .iconst 0, 1)] (by decide +kernel) 28 #[.val (.ref a), .val (.ref b), .val (.ref b)] [(.int 0)] rfl ?_
    refine own_retZ C S45 (by decide +kernel) (by decide) (by decide) (by decide) ?_
    exact ⟨(by rw [if_neg q46]), rfl⟩
  · refine own_seg C S45 [(23, .iconst 1, 1), (24, .goto 4, 3)] (by decide +kernel) 28 #[.val (.ref a), .val (.ref b), .val (.ref b)] [(.int 1)] rfl ?_
    refine own_retZ C S45 (by decide +kernel) (by decide) (by decide) (by decide) ?_
    exact ⟨(by rw [if_pos q47]), rfl⟩
theorem own_ss0 (l : Launch) (Z : State) (a0 : Array Value) (hw : ∀ d ∈ tables_1, d.before a0 Z = true) (y : Int32) (h0 : Heap) (n0 : Nat) (z0 : n0 ≤ h0.size) (hy : own_DB y) (hl : y < (10 : Int32)) :
    own_Met l Z (⟨"java/lang/Integer", "stringSize", "(I)I"⟩ : MethodName) jdk_33_method_13_code 4 (some .int) ({ frames := 0, cells := 0, slots := 0, locals := 0 } : Room) n0 #[(.int y)] h0 (fun v h => v = some (.int 1) ∧ h = h0) := by
  refine own_met (by decide +kernel) #[.val (.int y), .unset, .unset, .unset] (fun m => by first | (simp [entryFrame, mkF, argsToLocals, Value.category]; done) | rfl) ?_
  intro p e s m below meth c T0 C S0
  refine own_seg C S0 [(0, .iconst 1, 1), (1, .istore_n 1, 1), (2, .iload_n 0, 1)] (by decide +kernel) 3 #[.val (.int y), .val (.int 1), .unset, .unset] [(.int y)] rfl ?_
  refine own_if C S0 (q := .lt) (o := 8) (by decide +kernel) 11 (by decide) (by decide) (fun (hq : y < (0 : Int32)) => False.elim (own_w3 hy hq)) (fun (q48 : ¬ y < (0 : Int32)) => ?_)
  refine own_seg C S0 [(6, .iconst 0, 1), (7, .istore_n 1, 1), (8, .iload_n 0, 1), (9, .ineg, 1), (10, .istore_n 0, 1), (11, .bipush (-10), 2), (13, .istore_n 2, 1), (14, .iconst 1, 1), (15, .istore_n 3, 1), (16, .iload_n 3, 1), (17, .bipush 10, 2)] (by decide +kernel) 19 #[.val (.int (-y)), .val (.int 0), .val (.int (-10 : Int32)), .val (.int 1)] [(.int 10), (.int 1)] rfl ?_
  refine own_icmp C S0 (q := .ge) (o := 23) (by decide +kernel) 42 (by decide) (by decide) (fun (hq : ¬ (1 : Int32) < (10 : Int32)) => False.elim (by revert hq; decide)) (fun (q49 : (1 : Int32) < (10 : Int32)) => ?_)
  refine own_seg C S0 [(22, .iload_n 0, 1), (23, .iload_n 2, 1)] (by decide +kernel) 24 #[.val (.int (-y)), .val (.int 0), .val (.int (-10 : Int32)), .val (.int 1)] [(.int (-10 : Int32)), (.int (-y))] rfl ?_
  refine own_icmp C S0 (q := .le) (o := 7) (by decide +kernel) 31 (by decide) (by decide) (fun (hq : ¬ (-10 : Int32) < (-y)) => False.elim (hq (own_w4 hy hl))) (fun (q50 : (-10 : Int32) < (-y)) => ?_)
  refine own_seg C S0 [(27, .iload_n 3, 1), (28, .iload_n 1, 1), (29, .iadd, 1)] (by decide +kernel) 30 #[.val (.int (-y)), .val (.int 0), .val (.int (-10 : Int32)), .val (.int 1)] [(.int ((1 : Int32) + (0 : Int32)))] rfl ?_
  refine own_retI C S0 (by decide +kernel) (by decide) (by decide) ?_
  exact ⟨rfl, rfl⟩
theorem own_ss1 (l : Launch) (Z : State) (a0 : Array Value) (hw : ∀ d ∈ tables_1, d.before a0 Z = true) (y : Int32) (h0 : Heap) (n0 : Nat) (z0 : n0 ≤ h0.size) (hy : own_DB y) (hl : ¬ y < (10 : Int32)) :
    own_Met l Z (⟨"java/lang/Integer", "stringSize", "(I)I"⟩ : MethodName) jdk_33_method_13_code 4 (some .int) ({ frames := 0, cells := 0, slots := 0, locals := 0 } : Room) n0 #[(.int y)] h0 (fun v h => v = some (.int 2) ∧ h = h0) := by
  refine own_met (by decide +kernel) #[.val (.int y), .unset, .unset, .unset] (fun m => by first | (simp [entryFrame, mkF, argsToLocals, Value.category]; done) | rfl) ?_
  intro p e s m below meth c T0 C S0
  refine own_seg C S0 [(0, .iconst 1, 1), (1, .istore_n 1, 1), (2, .iload_n 0, 1)] (by decide +kernel) 3 #[.val (.int y), .val (.int 1), .unset, .unset] [(.int y)] rfl ?_
  refine own_if C S0 (q := .lt) (o := 8) (by decide +kernel) 11 (by decide) (by decide) (fun (hq : y < (0 : Int32)) => False.elim (own_w3 hy hq)) (fun (q51 : ¬ y < (0 : Int32)) => ?_)
  refine own_seg C S0 [(6, .iconst 0, 1), (7, .istore_n 1, 1), (8, .iload_n 0, 1), (9, .ineg, 1), (10, .istore_n 0, 1), (11, .bipush (-10), 2), (13, .istore_n 2, 1), (14, .iconst 1, 1), (15, .istore_n 3, 1), (16, .iload_n 3, 1), (17, .bipush 10, 2)] (by decide +kernel) 19 #[.val (.int (-y)), .val (.int 0), .val (.int (-10 : Int32)), .val (.int 1)] [(.int 10), (.int 1)] rfl ?_
  refine own_icmp C S0 (q := .ge) (o := 23) (by decide +kernel) 42 (by decide) (by decide) (fun (hq : ¬ (1 : Int32) < (10 : Int32)) => False.elim (by revert hq; decide)) (fun (q52 : (1 : Int32) < (10 : Int32)) => ?_)
  refine own_seg C S0 [(22, .iload_n 0, 1), (23, .iload_n 2, 1)] (by decide +kernel) 24 #[.val (.int (-y)), .val (.int 0), .val (.int (-10 : Int32)), .val (.int 1)] [(.int (-10 : Int32)), (.int (-y))] rfl ?_
  refine own_icmp C S0 (q := .le) (o := 7) (by decide +kernel) 31 (by decide) (by decide) (fun (q53 : ¬ (-10 : Int32) < (-y)) => ?_) (fun (hq : (-10 : Int32) < (-y)) => False.elim (own_w5 hy hl hq))
  refine own_seg C S0 [(31, .bipush 10, 2), (33, .iload_n 2, 1), (34, .imul, 1), (35, .istore_n 2, 1), (36, .iinc 3 1, 3), (39, .goto (-23), 3), (16, .iload_n 3, 1), (17, .bipush 10, 2)] (by decide +kernel) 19 #[.val (.int (-y)), .val (.int 0), .val (.int ((10 : Int32) * (-10 : Int32))), .val (.int ((1 : Int32) + (1 : Int32)))] [(.int 10), (.int ((1 : Int32) + (1 : Int32)))] rfl ?_
  show own_Go p e below _ T0 (mkF m 19 #[.val (.int (-y)), .val (.int 0), .val (.int (-100 : Int32)), .val (.int 2)] [(.int 10), (.int 2)])
  refine own_icmp C S0 (q := .ge) (o := 23) (by decide +kernel) 42 (by decide) (by decide) (fun (hq : ¬ (2 : Int32) < (10 : Int32)) => False.elim (by revert hq; decide)) (fun (q54 : (2 : Int32) < (10 : Int32)) => ?_)
  refine own_seg C S0 [(22, .iload_n 0, 1), (23, .iload_n 2, 1)] (by decide +kernel) 24 #[.val (.int (-y)), .val (.int 0), .val (.int (-100 : Int32)), .val (.int 2)] [(.int (-100 : Int32)), (.int (-y))] rfl ?_
  refine own_icmp C S0 (q := .le) (o := 7) (by decide +kernel) 31 (by decide) (by decide) (fun (hq : ¬ (-100 : Int32) < (-y)) => False.elim (hq (own_w6 hy))) (fun (q55 : (-100 : Int32) < (-y)) => ?_)
  refine own_seg C S0 [(27, .iload_n 3, 1), (28, .iload_n 1, 1), (29, .iadd, 1)] (by decide +kernel) 30 #[.val (.int (-y)), .val (.int 0), .val (.int (-100 : Int32)), .val (.int 2)] [(.int ((2 : Int32) + (0 : Int32)))] rfl ?_
  refine own_retI C S0 (by decide +kernel) (by decide) (by decide) ?_
  exact ⟨rfl, rfl⟩
theorem own_gc0 (l : Launch) (Z : State) (a0 : Array Value) (hw : ∀ d ∈ tables_1, d.before a0 Z = true) (G1 : Int32) (G3 : Value) (La : Addr) (D1 : Addr) (D1k : ClassId) (D2 : Addr) (D2k : ClassId) (y : Int32) (b : Addr) (bk : ClassId) (h0 : Heap) (n0 : Nat) (z0 : n0 ≤ h0.size) (ge_b : n0 ≤ b) (X00 : Old Z n0 h0) (LE : Exa Z h0 La "com/example/reckoner/reckoner/model/DayOfMonth") (LF : Fld Z h0 La "com/example/reckoner/reckoner/model/DayOfMonth" "number" "I" (.int 29)) (K1 : Arv Z h0 D1 D1k .byte (100 : Int32) own_DO (.int 0)) (K2 : Arv Z h0 D2 D2k .byte (100 : Int32) own_DT (.int 0)) (bK : Arv Z h0 b bk .byte (1 : Int32) ([(.int 0)]) (.int 0)) (O2 : Sta Z Z.heap "java/lang/String" "COMPACT_STRINGS" "Z" (.int G1)) (O4 : Sta Z Z.heap "jdk/internal/util/Preconditions" "SIOOBE_FORMATTER" "Ljava/util/function/BiFunction;" G3) (P5 : ¬ G1 = (0 : Int32)) (rG3 : G3.isRef = true) (OL : Sta Z Z.heap "com/example/reckoner/reckoner/model/DayOfMonth" "LAST" "Lcom/example/reckoner/reckoner/model/DayOfMonth;" (.ref La)) (O1 : Sta Z Z.heap "java/lang/Integer" "DigitOnes" "[B" (.ref D1)) (OT : Sta Z Z.heap "java/lang/Integer" "DigitTens" "[B" (.ref D2)) (Lalt : La < n0) (D1lt : D1 < n0) (D2lt : D2 < n0) (hy : own_DB y) (hl : y < (10 : Int32)) :
    own_Met l Z (⟨"java/lang/Integer", "getChars", "(II[B)I"⟩ : MethodName) jdk_33_method_12_code 7 (some .int) ({ frames := 0, cells := 0, slots := 0, locals := 0 } : Room) n0 #[(.int y), (.int 1), (.ref b)] h0 (fun v h => v = some (.int 0) ∧ Keep h0 h [b] ∧ Arv Z h b bk .byte (1 : Int32) ([(.int (((48 : Int32) + (y % (10 : Int32))).toInt8.toInt32))]) (.int 0)) := by
  refine own_met (by decide +kernel) #[.val (.int y), .val (.int 1), .val (.ref b), .unset, .unset, .unset, .unset] (fun m => by first | (simp [entryFrame, mkF, argsToLocals, Value.category]; done) | rfl) ?_
  intro p e s m below meth c T0 C S0
  refine own_seg C S0 [(0, .iload_n 1, 1), (1, .istore 5, 2), (3, .iload_n 0, 1)] (by decide +kernel) 4 #[.val (.int y), .val (.int 1), .val (.ref b), .unset, .unset, .val (.int 1), .unset] [(.int y)] rfl ?_
  refine own_if C S0 (q := .ge) (o := 7) (by decide +kernel) 11 (by decide) (by decide) (fun (q56 : ¬ y < (0 : Int32)) => ?_) (fun (hq : y < (0 : Int32)) => False.elim (own_w3 hy hq))
  refine own_seg C S0 [(11, .iconst 0, 1), (12, .istore 6, 2), (14, .iload 6, 2)] (by decide +kernel) 16 #[.val (.int y), .val (.int 1), .val (.ref b), .unset, .unset, .val (.int 1), .val (.int 0)] [(.int 0)] rfl ?_
  refine own_if C S0 (q := .ne) (o := 6) (by decide +kernel) 22 (by decide) (by decide) (fun (hq : ¬ (0 : Int32) = (0 : Int32)) => False.elim (by revert hq; decide)) (fun (q57 : (0 : Int32) = (0 : Int32)) => ?_)
  refine own_seg C S0 [(19, .iload_n 0, 1), (20, .ineg, 1), (21, .istore_n 0, 1), (22, .iload_n 0, 1), (23, .bipush (-100), 2)] (by decide +kernel) 25 #[.val (.int (-y)), .val (.int 1), .val (.ref b), .unset, .unset, .val (.int 1), .val (.int 0)] [(.int (-100 : Int32)), (.int (-y))] rfl ?_
  refine own_icmp C S0 (q := .gt) (o := 47) (by decide +kernel) 72 (by decide) (by decide) (fun (q58 : (-100 : Int32) < (-y)) => ?_) (fun (hq : ¬ (-100 : Int32) < (-y)) => False.elim (hq (own_w6 hy)))
  refine own_seg C S0 [(72, .aload_n 2, 1), (73, .iinc 5 (-1), 3), (76, .iload 5, 2)] (by decide +kernel) 78 #[.val (.int (-y)), .val (.int 1), .val (.ref b), .unset, .unset, .val (.int ((1 : Int32) + (-1 : Int32))), .val (.int 0)] [(.int ((1 : Int32) + (-1 : Int32))), (.ref b)] rfl ?_
  refine own_getS C S0 (own_wd hw 51 rfl) Via.refl (O1.ext X00.2) (by decide +kernel) ?_
  intro T59 S60
  refine own_seg C S60 [(81, .iload_n 0, 1), (82, .ineg, 1)] (by decide +kernel) 83 #[.val (.int (-y)), .val (.int 1), .val (.ref b), .unset, .unset, .val (.int ((1 : Int32) + (-1 : Int32))), .val (.int 0)] [(.int (-(-y))), (.ref D1), (.int ((1 : Int32) + (-1 : Int32))), (.ref b)] rfl ?_
  rw [show (-(-y)) = y from own_w12 hy]
  show own_Go p e below _ T59 (mkF m 83 #[.val (.int (-y)), .val (.int 1), .val (.ref b), .unset, .unset, .val (.int 0), .val (.int 0)] [(.int y), (.ref D1), (.int 0), (.ref b)])
  refine own_baload C S60 K1 ⟨own_w3 hy, own_w7 hy⟩ (.int ((48 : Int32) + (y % (10 : Int32)))) (own_y1 hy) (by decide +kernel) ?_
  refine own_bastore C S60 bK ⟨(by decide), (by decide)⟩ 0 rfl (Nat.le_of_ble_eq_true rfl) (((48 : Int32) + (y % (10 : Int32))).toInt8.toInt32) (own_y2 hy) ge_b (by decide +kernel) ?_
  intro T61 h63 S62 W64 f65
  have f66 : Arv Z h63 b bk .byte (1 : Int32) ([(.int (((48 : Int32) + (y % (10 : Int32))).toInt8.toInt32))]) (.int 0) := f65
  refine own_seg C S62 [(85, .iload_n 0, 1), (86, .bipush (-9), 2)] (by decide +kernel) 88 #[.val (.int (-y)), .val (.int 1), .val (.ref b), .unset, .unset, .val (.int 0), .val (.int 0)] [(.int (-9 : Int32)), (.int (-y))] rfl ?_
  refine own_icmp C S62 (q := .ge) (o := 16) (by decide +kernel) 104 (by decide) (by decide) (fun (q67 : ¬ (-y) < (-9 : Int32)) => ?_) (fun (hq : (-y) < (-9 : Int32)) => False.elim (own_w8 hy hl hq))
  refine own_seg C S62 [(104, .iload 6, 2)] (by decide +kernel) 106 #[.val (.int (-y)), .val (.int 1), .val (.ref b), .unset, .unset, .val (.int 0), .val (.int 0)] [(.int 0)] rfl ?_
  refine own_if C S62 (q := .eq) (o := 12) (by decide +kernel) 118 (by decide) (by decide) (fun (q68 : (0 : Int32) = (0 : Int32)) => ?_) (fun (hq : ¬ (0 : Int32) = (0 : Int32)) => False.elim (by revert hq; decide))
  refine own_seg C S62 [(118, .iload 5, 2)] (by decide +kernel) 120 #[.val (.int (-y)), .val (.int 1), .val (.ref b), .unset, .unset, .val (.int 0), .val (.int 0)] [(.int 0)] rfl ?_
  refine own_retI C S62 (by decide +kernel) (by decide) (by decide) ?_
  exact ⟨rfl, ((Keep.refl _ _).wr W64 (Or.inl (List.mem_of_getElem? (i := 0) rfl))), f66⟩
theorem own_gc1 (l : Launch) (Z : State) (a0 : Array Value) (hw : ∀ d ∈ tables_1, d.before a0 Z = true) (G1 : Int32) (G3 : Value) (La : Addr) (D1 : Addr) (D1k : ClassId) (D2 : Addr) (D2k : ClassId) (y : Int32) (b : Addr) (bk : ClassId) (h0 : Heap) (n0 : Nat) (z0 : n0 ≤ h0.size) (ge_b : n0 ≤ b) (X00 : Old Z n0 h0) (LE : Exa Z h0 La "com/example/reckoner/reckoner/model/DayOfMonth") (LF : Fld Z h0 La "com/example/reckoner/reckoner/model/DayOfMonth" "number" "I" (.int 29)) (K1 : Arv Z h0 D1 D1k .byte (100 : Int32) own_DO (.int 0)) (K2 : Arv Z h0 D2 D2k .byte (100 : Int32) own_DT (.int 0)) (bK : Arv Z h0 b bk .byte (2 : Int32) ([(.int 0), (.int 0)]) (.int 0)) (O2 : Sta Z Z.heap "java/lang/String" "COMPACT_STRINGS" "Z" (.int G1)) (O4 : Sta Z Z.heap "jdk/internal/util/Preconditions" "SIOOBE_FORMATTER" "Ljava/util/function/BiFunction;" G3) (P5 : ¬ G1 = (0 : Int32)) (rG3 : G3.isRef = true) (OL : Sta Z Z.heap "com/example/reckoner/reckoner/model/DayOfMonth" "LAST" "Lcom/example/reckoner/reckoner/model/DayOfMonth;" (.ref La)) (O1 : Sta Z Z.heap "java/lang/Integer" "DigitOnes" "[B" (.ref D1)) (OT : Sta Z Z.heap "java/lang/Integer" "DigitTens" "[B" (.ref D2)) (Lalt : La < n0) (D1lt : D1 < n0) (D2lt : D2 < n0) (hy : own_DB y) (hl : ¬ y < (10 : Int32)) :
    own_Met l Z (⟨"java/lang/Integer", "getChars", "(II[B)I"⟩ : MethodName) jdk_33_method_12_code 7 (some .int) ({ frames := 0, cells := 0, slots := 0, locals := 0 } : Room) n0 #[(.int y), (.int 2), (.ref b)] h0 (fun v h => v = some (.int 0) ∧ Keep h0 h [b] ∧ Arv Z h b bk .byte (2 : Int32) ([(.int (((48 : Int32) + (y / (10 : Int32))).toInt8.toInt32)), (.int (((48 : Int32) + (y % (10 : Int32))).toInt8.toInt32))]) (.int 0)) := by
  refine own_met (by decide +kernel) #[.val (.int y), .val (.int 2), .val (.ref b), .unset, .unset, .unset, .unset] (fun m => by first | (simp [entryFrame, mkF, argsToLocals, Value.category]; done) | rfl) ?_
  intro p e s m below meth c T0 C S0
  refine own_seg C S0 [(0, .iload_n 1, 1), (1, .istore 5, 2), (3, .iload_n 0, 1)] (by decide +kernel) 4 #[.val (.int y), .val (.int 2), .val (.ref b), .unset, .unset, .val (.int 2), .unset] [(.int y)] rfl ?_
  refine own_if C S0 (q := .ge) (o := 7) (by decide +kernel) 11 (by decide) (by decide) (fun (q69 : ¬ y < (0 : Int32)) => ?_) (fun (hq : y < (0 : Int32)) => False.elim (own_w3 hy hq))
  refine own_seg C S0 [(11, .iconst 0, 1), (12, .istore 6, 2), (14, .iload 6, 2)] (by decide +kernel) 16 #[.val (.int y), .val (.int 2), .val (.ref b), .unset, .unset, .val (.int 2), .val (.int 0)] [(.int 0)] rfl ?_
  refine own_if C S0 (q := .ne) (o := 6) (by decide +kernel) 22 (by decide) (by decide) (fun (hq : ¬ (0 : Int32) = (0 : Int32)) => False.elim (by revert hq; decide)) (fun (q70 : (0 : Int32) = (0 : Int32)) => ?_)
  refine own_seg C S0 [(19, .iload_n 0, 1), (20, .ineg, 1), (21, .istore_n 0, 1), (22, .iload_n 0, 1), (23, .bipush (-100), 2)] (by decide +kernel) 25 #[.val (.int (-y)), .val (.int 2), .val (.ref b), .unset, .unset, .val (.int 2), .val (.int 0)] [(.int (-100 : Int32)), (.int (-y))] rfl ?_
  refine own_icmp C S0 (q := .gt) (o := 47) (by decide +kernel) 72 (by decide) (by decide) (fun (q71 : (-100 : Int32) < (-y)) => ?_) (fun (hq : ¬ (-100 : Int32) < (-y)) => False.elim (hq (own_w6 hy)))
  refine own_seg C S0 [(72, .aload_n 2, 1), (73, .iinc 5 (-1), 3), (76, .iload 5, 2)] (by decide +kernel) 78 #[.val (.int (-y)), .val (.int 2), .val (.ref b), .unset, .unset, .val (.int ((2 : Int32) + (-1 : Int32))), .val (.int 0)] [(.int ((2 : Int32) + (-1 : Int32))), (.ref b)] rfl ?_
  refine own_getS C S0 (own_wd hw 51 rfl) Via.refl (O1.ext X00.2) (by decide +kernel) ?_
  intro T72 S73
  refine own_seg C S73 [(81, .iload_n 0, 1), (82, .ineg, 1)] (by decide +kernel) 83 #[.val (.int (-y)), .val (.int 2), .val (.ref b), .unset, .unset, .val (.int ((2 : Int32) + (-1 : Int32))), .val (.int 0)] [(.int (-(-y))), (.ref D1), (.int ((2 : Int32) + (-1 : Int32))), (.ref b)] rfl ?_
  rw [show (-(-y)) = y from own_w12 hy]
  show own_Go p e below _ T72 (mkF m 83 #[.val (.int (-y)), .val (.int 2), .val (.ref b), .unset, .unset, .val (.int 1), .val (.int 0)] [(.int y), (.ref D1), (.int 1), (.ref b)])
  refine own_baload C S73 K1 ⟨own_w3 hy, own_w7 hy⟩ (.int ((48 : Int32) + (y % (10 : Int32)))) (own_y1 hy) (by decide +kernel) ?_
  refine own_bastore C S73 bK ⟨(by decide), (by decide)⟩ 1 rfl (Nat.le_of_ble_eq_true rfl) (((48 : Int32) + (y % (10 : Int32))).toInt8.toInt32) (own_y2 hy) ge_b (by decide +kernel) ?_
  intro T74 h76 S75 W77 f78
  have f79 : Arv Z h76 b bk .byte (2 : Int32) ([(.int 0), (.int (((48 : Int32) + (y % (10 : Int32))).toInt8.toInt32))]) (.int 0) := f78
  refine own_seg C S75 [(85, .iload_n 0, 1), (86, .bipush (-9), 2)] (by decide +kernel) 88 #[.val (.int (-y)), .val (.int 2), .val (.ref b), .unset, .unset, .val (.int 1), .val (.int 0)] [(.int (-9 : Int32)), (.int (-y))] rfl ?_
  refine own_icmp C S75 (q := .ge) (o := 16) (by decide +kernel) 104 (by decide) (by decide) (fun (hq : ¬ (-y) < (-9 : Int32)) => False.elim (hq (own_w8n hy hl))) (fun (q80 : (-y) < (-9 : Int32)) => ?_)
  refine own_seg C S75 [(91, .aload_n 2, 1), (92, .iinc 5 (-1), 3), (95, .iload 5, 2)] (by decide +kernel) 97 #[.val (.int (-y)), .val (.int 2), .val (.ref b), .unset, .unset, .val (.int ((1 : Int32) + (-1 : Int32))), .val (.int 0)] [(.int ((1 : Int32) + (-1 : Int32))), (.ref b)] rfl ?_
  have f81 := (X00.wr W77 ge_b)
  refine own_getS C S75 (own_wd hw 88 rfl) Via.refl (OT.ext f81.2) (by decide +kernel) ?_
  intro T82 S83
  refine own_seg C S83 [(100, .iload_n 0, 1), (101, .ineg, 1)] (by decide +kernel) 102 #[.val (.int (-y)), .val (.int 2), .val (.ref b), .unset, .unset, .val (.int ((1 : Int32) + (-1 : Int32))), .val (.int 0)] [(.int (-(-y))), (.ref D2), (.int ((1 : Int32) + (-1 : Int32))), (.ref b)] rfl ?_
  rw [show (-(-y)) = y from own_w12 hy]
  show own_Go p e below _ T82 (mkF m 102 #[.val (.int (-y)), .val (.int 2), .val (.ref b), .unset, .unset, .val (.int 0), .val (.int 0)] [(.int y), (.ref D2), (.int 0), (.ref b)])
  have f84 := (K2.other W77 (Nat.ne_of_lt (Nat.lt_of_lt_of_le D2lt ge_b)))
  refine own_baload C S83 f84 ⟨own_w3 hy, own_w7 hy⟩ (.int ((48 : Int32) + (y / (10 : Int32)))) (own_y1t hy) (by decide +kernel) ?_
  refine own_bastore C S83 f79 ⟨(by decide), (by decide)⟩ 0 rfl (Nat.le_of_ble_eq_true rfl) (((48 : Int32) + (y / (10 : Int32))).toInt8.toInt32) (own_y2t hy) ge_b (by decide +kernel) ?_
  intro T85 h87 S86 W88 f89
  have f90 : Arv Z h87 b bk .byte (2 : Int32) ([(.int (((48 : Int32) + (y / (10 : Int32))).toInt8.toInt32)), (.int (((48 : Int32) + (y % (10 : Int32))).toInt8.toInt32))]) (.int 0) := f89
  refine own_seg C S86 [(104, .iload 6, 2)] (by decide +kernel) 106 #[.val (.int (-y)), .val (.int 2), .val (.ref b), .unset, .unset, .val (.int 0), .val (.int 0)] [(.int 0)] rfl ?_
  refine own_if C S86 (q := .eq) (o := 12) (by decide +kernel) 118 (by decide) (by decide) (fun (q91 : (0 : Int32) = (0 : Int32)) => ?_) (fun (hq : ¬ (0 : Int32) = (0 : Int32)) => False.elim (by revert hq; decide))
  refine own_seg C S86 [(118, .iload 5, 2)] (by decide +kernel) 120 #[.val (.int (-y)), .val (.int 2), .val (.ref b), .unset, .unset, .val (.int 0), .val (.int 0)] [(.int 0)] rfl ?_
  refine own_retI C S86 (by decide +kernel) (by decide) (by decide) ?_
  exact ⟨rfl, (((Keep.refl _ _).wr W77 (Or.inl (List.mem_of_getElem? (i := 0) rfl))).wr W88 (Or.inl (List.mem_of_getElem? (i := 0) rfl))), f90⟩
theorem own_fd1 : parseFieldDescriptor "[B" = some (.array .byte) := by decide +kernel
theorem own_fd2 : parseFieldDescriptor "B" = some .byte := by decide +kernel
theorem own_sn0 {Z : State} {a0 : Array Value} (hw : ∀ d ∈ tables_1, d.before a0 Z = true) : Jvm.RoadKit.slotOf Z "java/lang/String" "coder" "B" ≠ Jvm.RoadKit.slotOf Z "java/lang/String" "value" "[B" := slot_ne (Or.inr (own_wd hw 62 rfl)) (Or.inr (own_wd hw 60 rfl)) (by decide) own_fd2 own_fd1
theorem own_sn1 {Z : State} {a0 : Array Value} (hw : ∀ d ∈ tables_1, d.before a0 Z = true) : Jvm.RoadKit.slotOf Z "java/lang/String" "value" "[B" ≠ Jvm.RoadKit.slotOf Z "java/lang/String" "coder" "B" := slot_ne (Or.inr (own_wd hw 60 rfl)) (Or.inr (own_wd hw 62 rfl)) (by decide) own_fd1 own_fd2
theorem own_sb (l : Launch) (Z : State) (a0 : Array Value) (hw : ∀ d ∈ tables_1, d.before a0 Z = true) (a : Addr) (b : Addr) (h0 : Heap) (n0 : Nat) (z0 : n0 ≤ h0.size) (ge_a : n0 ≤ a) (p0 : Exa Z h0 a "java/lang/String") (p1 : Fld Z h0 a "java/lang/String" "value" "[B" .null) (p2 : Fld Z h0 a "java/lang/String" "coder" "B" (.int 0)) :
    own_Met l Z (⟨"java/lang/String", "<init>", "([BB)V"⟩ : MethodName) jdk_42_method_151_code 3 none ({ frames := 1, cells := 0, slots := 0, locals := 12 } : Room) n0 #[(.ref a), (.ref b), (.int 0)] h0 (fun v h => v = none ∧ Keep h0 h [a] ∧ Exa Z h a "java/lang/String" ∧ Fld Z h a "java/lang/String" "value" "[B" (.ref b) ∧ Fld Z h a "java/lang/String" "coder" "B" (.int 0)) := by
  refine own_met (by decide +kernel) #[.val (.ref a), .val (.ref b), .val (.int 0)] (fun m => by first | (simp [entryFrame, mkF, argsToLocals, Value.category]; done) | rfl) ?_
  intro p e s m below meth c T0 C S0
  refine own_seg C S0 [(0, .aload_n 0, 1)] (by decide +kernel) 1 #[.val (.ref a), .val (.ref b), .val (.int 0)] [(.ref a)] rfl ?_
  refine own_initO C S0 (own_wd hw 58 rfl) (own_wd hw 11 rfl) (own_wd hw 12 rfl) rfl (by decide +kernel) (by decide) 0 (Nat.le_of_ble_eq_true rfl) (by decide) ?_
  intro T92 S93
  refine own_seg C S93 [(4, .aload_n 0, 1), (5, .aload_n 1, 1)] (by decide +kernel) 6 #[.val (.ref a), .val (.ref b), .val (.int 0)] [(.ref b), (.ref a)] rfl ?_
  refine own_putF C S93 (ty := (.array .byte)) (host := "") (Or.inl (own_wd hw 59 rfl)) Via.refl p1 p0 (Or.inr ⟨(own_wd hw 60 rfl), rfl, rfl⟩) (own_wd hw 53 rfl) own_fd1 rfl rfl ge_a (by decide +kernel) ?_
  intro T94 h96 S95 W97
  have f98 : Fld Z h96 a "java/lang/String" "value" "[B" (.ref b) := Fld.same W97 p1
  refine own_seg C S95 [(9, .aload_n 0, 1), (10, .iload_n 2, 1)] (by decide +kernel) 11 #[.val (.ref a), .val (.ref b), .val (.int 0)] [(.int 0), (.ref a)] rfl ?_
  have f99 := (Fld.other W97 p2 (Or.inr (own_sn0 hw)))
  have f100 := (Exa.wr W97 p0)
  refine own_putF C S95 (ty := .byte) (host := "") (Or.inl (own_wd hw 61 rfl)) Via.refl f99 f100 (Or.inr ⟨(own_wd hw 62 rfl), rfl, rfl⟩) (own_wd hw 53 rfl) own_fd2 rfl rfl ge_a (by decide +kernel) ?_
  intro T101 h103 S102 W104
  have f105 : Fld Z h103 a "java/lang/String" "coder" "B" (.int 0) := Fld.same W104 f99
  refine own_retV C S102 (by decide +kernel) (by decide) (by decide) ?_
  have f106 := (Exa.wr W104 f100)
  have f107 := (Fld.other W104 f98 (Or.inr (own_sn1 hw)))
  exact ⟨rfl, (((Keep.refl _ _).wr W97 (Or.inl (List.mem_of_getElem? (i := 0) rfl))).wr W104 (Or.inl (List.mem_of_getElem? (i := 0) rfl))), f106, f107, f105⟩
theorem own_pd1 : parseMethodDescriptor "(I)I" = some ⟨[.int], (some .int)⟩ := by decide +kernel
theorem own_pd2 : parseMethodDescriptor "(II[B)I" = some ⟨[.int, .int, (.array .byte)], (some .int)⟩ := by decide +kernel
theorem own_pd3 : parseMethodDescriptor "([BB)V" = some ⟨[(.array .byte), .byte], none⟩ := by decide +kernel
theorem own_ts0 (l : Launch) (Z : State) (a0 : Array Value) (hw : ∀ d ∈ tables_1, d.before a0 Z = true) (G1 : Int32) (G3 : Value) (La : Addr) (D1 : Addr) (D1k : ClassId) (D2 : Addr) (D2k : ClassId) (y : Int32) (h0 : Heap) (n0 : Nat) (z0 : n0 ≤ h0.size) (X00 : Old Z n0 h0) (LE : Exa Z h0 La "com/example/reckoner/reckoner/model/DayOfMonth") (LF : Fld Z h0 La "com/example/reckoner/reckoner/model/DayOfMonth" "number" "I" (.int 29)) (K1 : Arv Z h0 D1 D1k .byte (100 : Int32) own_DO (.int 0)) (K2 : Arv Z h0 D2 D2k .byte (100 : Int32) own_DT (.int 0)) (O2 : Sta Z Z.heap "java/lang/String" "COMPACT_STRINGS" "Z" (.int G1)) (O4 : Sta Z Z.heap "jdk/internal/util/Preconditions" "SIOOBE_FORMATTER" "Ljava/util/function/BiFunction;" G3) (P5 : ¬ G1 = (0 : Int32)) (rG3 : G3.isRef = true) (OL : Sta Z Z.heap "com/example/reckoner/reckoner/model/DayOfMonth" "LAST" "Lcom/example/reckoner/reckoner/model/DayOfMonth;" (.ref La)) (O1 : Sta Z Z.heap "java/lang/Integer" "DigitOnes" "[B" (.ref D1)) (OT : Sta Z Z.heap "java/lang/Integer" "DigitTens" "[B" (.ref D2)) (Lalt : La < n0) (D1lt : D1 < n0) (D2lt : D2 < n0) (hy : own_DB y) (hl : y < (10 : Int32)) :
    own_Met l Z (⟨"java/lang/Integer", "toString", "(I)Ljava/lang/String;"⟩ : MethodName) jdk_33_method_10_code 3 (some (.object "java/lang/String")) ({ frames := 2, cells := 2, slots := 5, locals := 27 } : Room) n0 #[(.int y)] h0 (fun v h => ∃ r : Addr, ∃ rt : Addr, ∃ rk : ClassId, v = some (.ref r) ∧ h0.size ≤ r ∧ Keep h0 h [] ∧ Exa Z h r "java/lang/String" ∧ Fld Z h r "java/lang/String" "value" "[B" (.ref rt) ∧ Fld Z h r "java/lang/String" "coder" "B" (.int 0) ∧ Arv Z h rt rk .byte (1 : Int32) ([(.int (((48 : Int32) + (y % (10 : Int32))).toInt8.toInt32))]) (.int 0)) := by
  refine own_met (by decide +kernel) #[.val (.int y), .unset, .unset] (fun m => by first | (simp [entryFrame, mkF, argsToLocals, Value.category]; done) | rfl) ?_
  intro p e s m below meth c T0 C S0
  refine own_seg C S0 [(0, .iload_n 0, 1)] (by decide +kernel) 1 #[.val (.int y), .unset, .unset] [(.int y)] rfl ?_
  refine own_callS C S0 (own_wd hw 43 rfl) (own_wd hw 44 rfl) (own_wd hw 41 rfl) (own_wd hw 45 rfl) (by decide) (own_Met.pay (own_ss0 l Z a0 hw y h0 n0 z0 hy hl) C 0 (own_wd hw 45 rfl) (own_wd hw 41 rfl) (by decide) (by decide)) (fun _ _ _ q => q.2) [(.int y)] [] rfl own_pd1 rfl rfl rfl (Nat.le_of_ble_eq_true rfl) (by decide) (by decide) (by decide +kernel) ?_
  rintro T109 h110 v111 L112 S113 ⟨⟨rfl, e108⟩, -⟩
  rw [e108] at S113; clear e108
  show own_Go p e below _ T109 (mkF m 4 #[.val (.int y), .unset, .unset] [(.int 1)])
  refine own_seg C S113 [(4, .istore_n 1, 1)] (by decide +kernel) 5 #[.val (.int y), .val (.int 1), .unset] [] rfl ?_
  refine own_getS C S113 (own_wd hw 46 rfl) Via.refl (O2.ext X00.2) (by decide +kernel) ?_
  intro T114 S115
  refine own_if C S115 (q := .eq) (o := 24) (by decide +kernel) 32 (by decide) (by decide) (fun (hq : G1 = (0 : Int32)) => False.elim (P5 hq)) (fun (q116 : ¬ G1 = (0 : Int32)) => ?_)
  refine own_seg C S115 [(11, .iload_n 1, 1)] (by decide +kernel) 12 #[.val (.int y), .val (.int 1), .unset] [(.int 1)] rfl ?_
  refine own_newP C S115 (aty := .byte) (own_wd hw 47 rfl) (by decide +kernel) (by decide) 1 (by decide) (by decide) (by decide) (by decide) ?_
  intro T117 h119 a120 k121 S118 g122 E123 f124 
  have f125 : Arv Z h119 a120 k121 .byte (1 : Int32) ([(.int 0)]) (.int 0) := Arv.pad f124 (pad_rep [] (.int 0) 1)
  refine own_seg C S118 [(14, .astore_n 2, 1), (15, .iload_n 0, 1), (16, .iload_n 1, 1), (17, .aload_n 2, 1)] (by decide +kernel) 18 #[.val (.int y), .val (.int 1), .val (.ref a120)] [(.ref a120), (.int 1), (.int y)] rfl ?_
  have f126 := (X00.ext E123)
  have f127 := (Exa.ext E123 LE)
  have f128 := (Fld.ext E123 LF)
  have f129 := (K1.ext E123)
  have f130 := (K2.ext E123)
  have f131 : n0 ≤ h119.size := (Nat.le_trans z0 E123.1)
  have g132 : n0 ≤ a120 := by rw [g122]; exact z0
  refine own_callS C S118 (own_wd hw 48 rfl) (own_wd hw 49 rfl) (own_wd hw 41 rfl) (own_wd hw 50 rfl) (by decide) (own_Met.pay (own_gc0 l Z a0 hw G1 G3 La D1 D1k D2 D2k y a120 _ h119 n0 f131 g132 f126 f127 f128 f129 f130 f125 O2 O4 P5 rG3 OL O1 OT Lalt D1lt D2lt hy hl) C 0 (own_wd hw 50 rfl) (own_wd hw 41 rfl) (by decide) (by decide)) (fun _ _ _ q => q.2) [(.int y), (.int 1), (.ref a120)] [] rfl own_pd2 rfl rfl rfl (Nat.le_of_ble_eq_true rfl) (by decide) (by decide) (by decide +kernel) ?_
  rintro T135 h136 v137 L138 S139 ⟨⟨rfl, K133, f134⟩, -⟩
  show own_Go p e below _ T135 (mkF m 21 #[.val (.int y), .val (.int 1), .val (.ref a120)] [(.int 0)])
  refine own_seg C S139 [(21, .pop, 1)] (by decide +kernel) 22 #[.val (.int y), .val (.int 1), .val (.ref a120)] [] rfl ?_
  refine own_new C S139 (own_wd hw 52 rfl) (own_wd hw 53 rfl) (own_wd hw 37 rfl) (by decide +kernel) (by decide) (by decide) ?_
  intro T140 h142 a143 S141 g144 E145 x146 D147
  have f148 : Fld Z h142 a143 "java/lang/String" "value" "[B" .null := D147 (ty := (.array .byte)) (Or.inr (own_wd hw 60 rfl)) own_fd1
  have f149 : Fld Z h142 a143 "java/lang/String" "coder" "B" (.int 0) := D147 (ty := .byte) (Or.inr (own_wd hw 62 rfl)) own_fd2
  refine own_seg C S141 [(25, .dup, 1), (26, .aload_n 2, 1), (27, .iconst 0, 1)] (by decide +kernel) 28 #[.val (.int y), .val (.int 1), .val (.ref a120)] [(.int 0), (.ref a120), (.ref a143), (.ref a143)] rfl ?_
  have f150 : n0 ≤ h142.size := (Nat.le_trans (Nat.le_trans f131 K133.1) E145.1)
  have f151 : n0 ≤ h136.size := (Nat.le_trans f131 K133.1)
  have g152 : n0 ≤ a143 := by rw [g144]; exact f151
  refine own_callI C S141 rfl (own_wd hw 54 rfl) (own_wd hw 55 rfl) (own_wd hw 57 rfl) (by decide) (own_Met.pay (own_sb l Z a0 hw a143 a120 h142 n0 f150 g152 x146 f148 f149) C 1 (own_wd hw 57 rfl) (own_wd hw 37 rfl) (by decide) (by decide)) (fun _ _ _ q => q.2) [(.ref a120), (.int 0)] [(.ref a143)] rfl own_pd3 rfl rfl rfl (Nat.le_of_ble_eq_true rfl) (by decide) (by decide) (by decide +kernel) ?_
  rintro T157 h158 v159 L160 S161 ⟨⟨rfl, K153, f154, f155, f156⟩, -⟩
  show own_Go p e below _ T157 (mkF m 31 #[.val (.int y), .val (.int 1), .val (.ref a120)] [(.ref a143)])
  refine own_retA C S161 rfl rfl (by decide +kernel) (by decide) (by decide) ?_
  have o163 : h0.size ≤ h136.size := (Nat.le_trans (Nat.le_trans (Nat.le_refl _) E123.1) K133.1)
  have o162 : h0.size ≤ a143 := by rw [g144]; exact o163
  have o164 : h0.size ≤ a120 := by rw [g122]; exact (Nat.le_refl _)
  have f165 : a120 < h136.size := (Nat.lt_of_lt_of_le f125.lt K133.1)
  have n166 : a120 ≠ a143 := by rw [g144]; exact Nat.ne_of_lt f165
  have f167 := ((f134.ext E145).keep K153 (ninS n166 nin0))
  exact ⟨a143, a120, k121, rfl, o162, (((((Keep.refl _ _).ext E123).trans K133 (allS (Or.inr o164) all0)).ext E145).trans K153 (allS (Or.inr o162) all0)), f154, f155, f156, f167⟩
theorem own_ts1 (l : Launch) (Z : State) (a0 : Array Value) (hw : ∀ d ∈ tables_1, d.before a0 Z = true) (G1 : Int32) (G3 : Value) (La : Addr) (D1 : Addr) (D1k : ClassId) (D2 : Addr) (D2k : ClassId) (y : Int32) (h0 : Heap) (n0 : Nat) (z0 : n0 ≤ h0.size) (X00 : Old Z n0 h0) (LE : Exa Z h0 La "com/example/reckoner/reckoner/model/DayOfMonth") (LF : Fld Z h0 La "com/example/reckoner/reckoner/model/DayOfMonth" "number" "I" (.int 29)) (K1 : Arv Z h0 D1 D1k .byte (100 : Int32) own_DO (.int 0)) (K2 : Arv Z h0 D2 D2k .byte (100 : Int32) own_DT (.int 0)) (O2 : Sta Z Z.heap "java/lang/String" "COMPACT_STRINGS" "Z" (.int G1)) (O4 : Sta Z Z.heap "jdk/internal/util/Preconditions" "SIOOBE_FORMATTER" "Ljava/util/function/BiFunction;" G3) (P5 : ¬ G1 = (0 : Int32)) (rG3 : G3.isRef = true) (OL : Sta Z Z.heap "com/example/reckoner/reckoner/model/DayOfMonth" "LAST" "Lcom/example/reckoner/reckoner/model/DayOfMonth;" (.ref La)) (O1 : Sta Z Z.heap "java/lang/Integer" "DigitOnes" "[B" (.ref D1)) (OT : Sta Z Z.heap "java/lang/Integer" "DigitTens" "[B" (.ref D2)) (Lalt : La < n0) (D1lt : D1 < n0) (D2lt : D2 < n0) (hy : own_DB y) (hl : ¬ y < (10 : Int32)) :
    own_Met l Z (⟨"java/lang/Integer", "toString", "(I)Ljava/lang/String;"⟩ : MethodName) jdk_33_method_10_code 3 (some (.object "java/lang/String")) ({ frames := 2, cells := 2, slots := 6, locals := 27 } : Room) n0 #[(.int y)] h0 (fun v h => ∃ r : Addr, ∃ rt : Addr, ∃ rk : ClassId, v = some (.ref r) ∧ h0.size ≤ r ∧ Keep h0 h [] ∧ Exa Z h r "java/lang/String" ∧ Fld Z h r "java/lang/String" "value" "[B" (.ref rt) ∧ Fld Z h r "java/lang/String" "coder" "B" (.int 0) ∧ Arv Z h rt rk .byte (2 : Int32) ([(.int (((48 : Int32) + (y / (10 : Int32))).toInt8.toInt32)), (.int (((48 : Int32) + (y % (10 : Int32))).toInt8.toInt32))]) (.int 0)) := by
  refine own_met (by decide +kernel) #[.val (.int y), .unset, .unset] (fun m => by first | (simp [entryFrame, mkF, argsToLocals, Value.category]; done) | rfl) ?_
  intro p e s m below meth c T0 C S0
  refine own_seg C S0 [(0, .iload_n 0, 1)] (by decide +kernel) 1 #[.val (.int y), .unset, .unset] [(.int y)] rfl ?_
  refine own_callS C S0 (own_wd hw 43 rfl) (own_wd hw 44 rfl) (own_wd hw 41 rfl) (own_wd hw 45 rfl) (by decide) (own_Met.pay (own_ss1 l Z a0 hw y h0 n0 z0 hy hl) C 0 (own_wd hw 45 rfl) (own_wd hw 41 rfl) (by decide) (by decide)) (fun _ _ _ q => q.2) [(.int y)] [] rfl own_pd1 rfl rfl rfl (Nat.le_of_ble_eq_true rfl) (by decide) (by decide) (by decide +kernel) ?_
  rintro T169 h170 v171 L172 S173 ⟨⟨rfl, e168⟩, -⟩
  rw [e168] at S173; clear e168
  show own_Go p e below _ T169 (mkF m 4 #[.val (.int y), .unset, .unset] [(.int 2)])
  refine own_seg C S173 [(4, .istore_n 1, 1)] (by decide +kernel) 5 #[.val (.int y), .val (.int 2), .unset] [] rfl ?_
  refine own_getS C S173 (own_wd hw 46 rfl) Via.refl (O2.ext X00.2) (by decide +kernel) ?_
  intro T174 S175
  refine own_if C S175 (q := .eq) (o := 24) (by decide +kernel) 32 (by decide) (by decide) (fun (hq : G1 = (0 : Int32)) => False.elim (P5 hq)) (fun (q176 : ¬ G1 = (0 : Int32)) => ?_)
  refine own_seg C S175 [(11, .iload_n 1, 1)] (by decide +kernel) 12 #[.val (.int y), .val (.int 2), .unset] [(.int 2)] rfl ?_
  refine own_newP C S175 (aty := .byte) (own_wd hw 47 rfl) (by decide +kernel) (by decide) 2 (by decide) (by decide) (by decide) (by decide) ?_
  intro T177 h179 a180 k181 S178 g182 E183 f184 
  have f185 : Arv Z h179 a180 k181 .byte (2 : Int32) ([(.int 0), (.int 0)]) (.int 0) := Arv.pad f184 (pad_rep [] (.int 0) 2)
  refine own_seg C S178 [(14, .astore_n 2, 1), (15, .iload_n 0, 1), (16, .iload_n 1, 1), (17, .aload_n 2, 1)] (by decide +kernel) 18 #[.val (.int y), .val (.int 2), .val (.ref a180)] [(.ref a180), (.int 2), (.int y)] rfl ?_
  have f186 := (X00.ext E183)
  have f187 := (Exa.ext E183 LE)
  have f188 := (Fld.ext E183 LF)
  have f189 := (K1.ext E183)
  have f190 := (K2.ext E183)
  have f191 : n0 ≤ h179.size := (Nat.le_trans z0 E183.1)
  have g192 : n0 ≤ a180 := by rw [g182]; exact z0
  refine own_callS C S178 (own_wd hw 48 rfl) (own_wd hw 49 rfl) (own_wd hw 41 rfl) (own_wd hw 50 rfl) (by decide) (own_Met.pay (own_gc1 l Z a0 hw G1 G3 La D1 D1k D2 D2k y a180 _ h179 n0 f191 g192 f186 f187 f188 f189 f190 f185 O2 O4 P5 rG3 OL O1 OT Lalt D1lt D2lt hy hl) C 0 (own_wd hw 50 rfl) (own_wd hw 41 rfl) (by decide) (by decide)) (fun _ _ _ q => q.2) [(.int y), (.int 2), (.ref a180)] [] rfl own_pd2 rfl rfl rfl (Nat.le_of_ble_eq_true rfl) (by decide) (by decide) (by decide +kernel) ?_
  rintro T195 h196 v197 L198 S199 ⟨⟨rfl, K193, f194⟩, -⟩
  show own_Go p e below _ T195 (mkF m 21 #[.val (.int y), .val (.int 2), .val (.ref a180)] [(.int 0)])
  refine own_seg C S199 [(21, .pop, 1)] (by decide +kernel) 22 #[.val (.int y), .val (.int 2), .val (.ref a180)] [] rfl ?_
  refine own_new C S199 (own_wd hw 52 rfl) (own_wd hw 53 rfl) (own_wd hw 37 rfl) (by decide +kernel) (by decide) (by decide) ?_
  intro T200 h202 a203 S201 g204 E205 x206 D207
  have f208 : Fld Z h202 a203 "java/lang/String" "value" "[B" .null := D207 (ty := (.array .byte)) (Or.inr (own_wd hw 60 rfl)) own_fd1
  have f209 : Fld Z h202 a203 "java/lang/String" "coder" "B" (.int 0) := D207 (ty := .byte) (Or.inr (own_wd hw 62 rfl)) own_fd2
  refine own_seg C S201 [(25, .dup, 1), (26, .aload_n 2, 1), (27, .iconst 0, 1)] (by decide +kernel) 28 #[.val (.int y), .val (.int 2), .val (.ref a180)] [(.int 0), (.ref a180), (.ref a203), (.ref a203)] rfl ?_
  have f210 : n0 ≤ h202.size := (Nat.le_trans (Nat.le_trans f191 K193.1) E205.1)
  have f211 : n0 ≤ h196.size := (Nat.le_trans f191 K193.1)
  have g212 : n0 ≤ a203 := by rw [g204]; exact f211
  refine own_callI C S201 rfl (own_wd hw 54 rfl) (own_wd hw 55 rfl) (own_wd hw 57 rfl) (by decide) (own_Met.pay (own_sb l Z a0 hw a203 a180 h202 n0 f210 g212 x206 f208 f209) C 1 (own_wd hw 57 rfl) (own_wd hw 37 rfl) (by decide) (by decide)) (fun _ _ _ q => q.2) [(.ref a180), (.int 0)] [(.ref a203)] rfl own_pd3 rfl rfl rfl (Nat.le_of_ble_eq_true rfl) (by decide) (by decide) (by decide +kernel) ?_
  rintro T217 h218 v219 L220 S221 ⟨⟨rfl, K213, f214, f215, f216⟩, -⟩
  show own_Go p e below _ T217 (mkF m 31 #[.val (.int y), .val (.int 2), .val (.ref a180)] [(.ref a203)])
  refine own_retA C S221 rfl rfl (by decide +kernel) (by decide) (by decide) ?_
  have o223 : h0.size ≤ h196.size := (Nat.le_trans (Nat.le_trans (Nat.le_refl _) E183.1) K193.1)
  have o222 : h0.size ≤ a203 := by rw [g204]; exact o223
  have o224 : h0.size ≤ a180 := by rw [g182]; exact (Nat.le_refl _)
  have f225 : a180 < h196.size := (Nat.lt_of_lt_of_le f185.lt K193.1)
  have n226 : a180 ≠ a203 := by rw [g204]; exact Nat.ne_of_lt f225
  have f227 := ((f194.ext E205).keep K213 (ninS n226 nin0))
  exact ⟨a203, a180, k181, rfl, o222, (((((Keep.refl _ _).ext E183).trans K193 (allS (Or.inr o224) all0)).ext E205).trans K213 (allS (Or.inr o222) all0)), f214, f215, f216, f227⟩
theorem own_pd4 : parseMethodDescriptor "(I)Ljava/lang/String;" = some ⟨[.int], (some (.object "java/lang/String"))⟩ := by decide +kernel
theorem own_vo0 (l : Launch) (Z : State) (a0 : Array Value) (hw : ∀ d ∈ tables_1, d.before a0 Z = true) (G1 : Int32) (G3 : Value) (La : Addr) (D1 : Addr) (D1k : ClassId) (D2 : Addr) (D2k : ClassId) (y : Int32) (h0 : Heap) (n0 : Nat) (z0 : n0 ≤ h0.size) (X00 : Old Z n0 h0) (LE : Exa Z h0 La "com/example/reckoner/reckoner/model/DayOfMonth") (LF : Fld Z h0 La "com/example/reckoner/reckoner/model/DayOfMonth" "number" "I" (.int 29)) (K1 : Arv Z h0 D1 D1k .byte (100 : Int32) own_DO (.int 0)) (K2 : Arv Z h0 D2 D2k .byte (100 : Int32) own_DT (.int 0)) (O2 : Sta Z Z.heap "java/lang/String" "COMPACT_STRINGS" "Z" (.int G1)) (O4 : Sta Z Z.heap "jdk/internal/util/Preconditions" "SIOOBE_FORMATTER" "Ljava/util/function/BiFunction;" G3) (P5 : ¬ G1 = (0 : Int32)) (rG3 : G3.isRef = true) (OL : Sta Z Z.heap "com/example/reckoner/reckoner/model/DayOfMonth" "LAST" "Lcom/example/reckoner/reckoner/model/DayOfMonth;" (.ref La)) (O1 : Sta Z Z.heap "java/lang/Integer" "DigitOnes" "[B" (.ref D1)) (OT : Sta Z Z.heap "java/lang/Integer" "DigitTens" "[B" (.ref D2)) (Lalt : La < n0) (D1lt : D1 < n0) (D2lt : D2 < n0) (hy : own_DB y) (hl : y < (10 : Int32)) :
    own_Met l Z (⟨"java/lang/String", "valueOf", "(I)Ljava/lang/String;"⟩ : MethodName) jdk_42_method_140_code 1 (some (.object "java/lang/String")) ({ frames := 3, cells := 2, slots := 5, locals := 41 } : Room) n0 #[(.int y)] h0 (fun v h => ∃ r : Addr, ∃ rt : Addr, ∃ rk : ClassId, v = some (.ref r) ∧ h0.size ≤ r ∧ Keep h0 h [] ∧ Exa Z h r "java/lang/String" ∧ Fld Z h r "java/lang/String" "value" "[B" (.ref rt) ∧ Fld Z h r "java/lang/String" "coder" "B" (.int 0) ∧ Arv Z h rt rk .byte (1 : Int32) ([(.int (((48 : Int32) + (y % (10 : Int32))).toInt8.toInt32))]) (.int 0)) := by
  refine own_met (by decide +kernel) #[.val (.int y)] (fun m => by first | (simp [entryFrame, mkF, argsToLocals, Value.category]; done) | rfl) ?_
  intro p e s m below meth c T0 C S0
  refine own_seg C S0 [(0, .iload_n 0, 1)] (by decide +kernel) 1 #[.val (.int y)] [(.int y)] rfl ?_
  refine own_callS C S0 (own_wd hw 39 rfl) (own_wd hw 40 rfl) (own_wd hw 41 rfl) (own_wd hw 42 rfl) (by decide) (own_Met.pay (own_ts0 l Z a0 hw G1 G3 La D1 D1k D2 D2k y h0 n0 z0 X00 LE LF K1 K2 O2 O4 P5 rG3 OL O1 OT Lalt D1lt D2lt hy hl) C 0 (own_wd hw 42 rfl) (own_wd hw 41 rfl) (by decide) (by decide)) (fun _ _ _ q => q.2) [(.int y)] [] rfl own_pd4 rfl rfl rfl (Nat.le_of_ble_eq_true rfl) (by decide) (by decide) (by decide +kernel) ?_
  rintro T237 h238 v239 L240 S241 ⟨⟨a228, a229, k230, rfl, g231, K232, f233, f234, f235, f236⟩, -⟩
  show own_Go p e below _ T237 (mkF m 4 #[.val (.int y)] [(.ref a228)])
  refine own_retA C S241 rfl rfl (by decide +kernel) (by decide) (by decide) ?_
  have o242 : h0.size ≤ a228 := Nat.le_trans (Nat.le_refl _) g231
  exact ⟨a228, a229, k230, rfl, o242, ((Keep.refl _ _).trans K232 all0), f233, f234, f235, f236⟩
theorem own_vo1 (l : Launch) (Z : State) (a0 : Array Value) (hw : ∀ d ∈ tables_1, d.before a0 Z = true) (G1 : Int32) (G3 : Value) (La : Addr) (D1 : Addr) (D1k : ClassId) (D2 : Addr) (D2k : ClassId) (y : Int32) (h0 : Heap) (n0 : Nat) (z0 : n0 ≤ h0.size) (X00 : Old Z n0 h0) (LE : Exa Z h0 La "com/example/reckoner/reckoner/model/DayOfMonth") (LF : Fld Z h0 La "com/example/reckoner/reckoner/model/DayOfMonth" "number" "I" (.int 29)) (K1 : Arv Z h0 D1 D1k .byte (100 : Int32) own_DO (.int 0)) (K2 : Arv Z h0 D2 D2k .byte (100 : Int32) own_DT (.int 0)) (O2 : Sta Z Z.heap "java/lang/String" "COMPACT_STRINGS" "Z" (.int G1)) (O4 : Sta Z Z.heap "jdk/internal/util/Preconditions" "SIOOBE_FORMATTER" "Ljava/util/function/BiFunction;" G3) (P5 : ¬ G1 = (0 : Int32)) (rG3 : G3.isRef = true) (OL : Sta Z Z.heap "com/example/reckoner/reckoner/model/DayOfMonth" "LAST" "Lcom/example/reckoner/reckoner/model/DayOfMonth;" (.ref La)) (O1 : Sta Z Z.heap "java/lang/Integer" "DigitOnes" "[B" (.ref D1)) (OT : Sta Z Z.heap "java/lang/Integer" "DigitTens" "[B" (.ref D2)) (Lalt : La < n0) (D1lt : D1 < n0) (D2lt : D2 < n0) (hy : own_DB y) (hl : ¬ y < (10 : Int32)) :
    own_Met l Z (⟨"java/lang/String", "valueOf", "(I)Ljava/lang/String;"⟩ : MethodName) jdk_42_method_140_code 1 (some (.object "java/lang/String")) ({ frames := 3, cells := 2, slots := 6, locals := 41 } : Room) n0 #[(.int y)] h0 (fun v h => ∃ r : Addr, ∃ rt : Addr, ∃ rk : ClassId, v = some (.ref r) ∧ h0.size ≤ r ∧ Keep h0 h [] ∧ Exa Z h r "java/lang/String" ∧ Fld Z h r "java/lang/String" "value" "[B" (.ref rt) ∧ Fld Z h r "java/lang/String" "coder" "B" (.int 0) ∧ Arv Z h rt rk .byte (2 : Int32) ([(.int (((48 : Int32) + (y / (10 : Int32))).toInt8.toInt32)), (.int (((48 : Int32) + (y % (10 : Int32))).toInt8.toInt32))]) (.int 0)) := by
  refine own_met (by decide +kernel) #[.val (.int y)] (fun m => by first | (simp [entryFrame, mkF, argsToLocals, Value.category]; done) | rfl) ?_
  intro p e s m below meth c T0 C S0
  refine own_seg C S0 [(0, .iload_n 0, 1)] (by decide +kernel) 1 #[.val (.int y)] [(.int y)] rfl ?_
  refine own_callS C S0 (own_wd hw 39 rfl) (own_wd hw 40 rfl) (own_wd hw 41 rfl) (own_wd hw 42 rfl) (by decide) (own_Met.pay (own_ts1 l Z a0 hw G1 G3 La D1 D1k D2 D2k y h0 n0 z0 X00 LE LF K1 K2 O2 O4 P5 rG3 OL O1 OT Lalt D1lt D2lt hy hl) C 0 (own_wd hw 42 rfl) (own_wd hw 41 rfl) (by decide) (by decide)) (fun _ _ _ q => q.2) [(.int y)] [] rfl own_pd4 rfl rfl rfl (Nat.le_of_ble_eq_true rfl) (by decide) (by decide) (by decide +kernel) ?_
  rintro T252 h253 v254 L255 S256 ⟨⟨a243, a244, k245, rfl, g246, K247, f248, f249, f250, f251⟩, -⟩
  show own_Go p e below _ T252 (mkF m 4 #[.val (.int y)] [(.ref a243)])
  refine own_retA C S256 rfl rfl (by decide +kernel) (by decide) (by decide) ?_
  have o257 : h0.size ≤ a243 := Nat.le_trans (Nat.le_refl _) g246
  exact ⟨a243, a244, k245, rfl, o257, ((Keep.refl _ _).trans K247 all0), f248, f249, f250, f251⟩
theorem own_pd5 : parseMethodDescriptor "(Ljava/lang/Object;)Z" = some ⟨[(.object "java/lang/Object")], (some .boolean)⟩ := by decide +kernel
theorem own_dt0 (l : Launch) (Z : State) (a0 : Array Value) (hw : ∀ d ∈ tables_1, d.before a0 Z = true) (G1 : Int32) (G3 : Value) (La : Addr) (D1 : Addr) (D1k : ClassId) (D2 : Addr) (D2k : ClassId) (a : Addr) (y : Int32) (h0 : Heap) (n0 : Nat) (z0 : n0 ≤ h0.size) (X00 : Old Z n0 h0) (LE : Exa Z h0 La "com/example/reckoner/reckoner/model/DayOfMonth") (LF : Fld Z h0 La "com/example/reckoner/reckoner/model/DayOfMonth" "number" "I" (.int 29)) (K1 : Arv Z h0 D1 D1k .byte (100 : Int32) own_DO (.int 0)) (K2 : Arv Z h0 D2 D2k .byte (100 : Int32) own_DT (.int 0)) (aE : Exa Z h0 a "com/example/reckoner/reckoner/model/DayOfMonth") (aF : Fld Z h0 a "com/example/reckoner/reckoner/model/DayOfMonth" "number" "I" (.int y)) (O2 : Sta Z Z.heap "java/lang/String" "COMPACT_STRINGS" "Z" (.int G1)) (O4 : Sta Z Z.heap "jdk/internal/util/Preconditions" "SIOOBE_FORMATTER" "Ljava/util/function/BiFunction;" G3) (P5 : ¬ G1 = (0 : Int32)) (rG3 : G3.isRef = true) (OL : Sta Z Z.heap "com/example/reckoner/reckoner/model/DayOfMonth" "LAST" "Lcom/example/reckoner/reckoner/model/DayOfMonth;" (.ref La)) (O1 : Sta Z Z.heap "java/lang/Integer" "DigitOnes" "[B" (.ref D1)) (OT : Sta Z Z.heap "java/lang/Integer" "DigitTens" "[B" (.ref D2)) (Lalt : La < n0) (D1lt : D1 < n0) (D2lt : D2 < n0) (hy : own_DB y) (hl : y < (10 : Int32)) :
    own_Met l Z (⟨"com/example/reckoner/reckoner/model/DayOfMonth", "toString", "()Ljava/lang/String;"⟩ : MethodName) prog_9_method_7_code 1 (some (.object "java/lang/String")) ({ frames := 4, cells := 2, slots := 5, locals := 53 } : Room) n0 #[(.ref a)] h0 (fun v h => ∃ r : Addr, ∃ rt : Addr, ∃ rk : ClassId, v = some (.ref r) ∧ h0.size ≤ r ∧ Keep h0 h [] ∧ Exa Z h r "java/lang/String" ∧ Fld Z h r "java/lang/String" "value" "[B" (.ref rt) ∧ Fld Z h r "java/lang/String" "coder" "B" (.int 0) ∧ Arv Z h rt rk .byte (1 : Int32) ([(.int (((48 : Int32) + (y % (10 : Int32))).toInt8.toInt32))]) (.int 0)) := by
  refine own_met (by decide +kernel) #[.val (.ref a)] (fun m => by first | (simp [entryFrame, mkF, argsToLocals, Value.category]; done) | rfl) ?_
  intro p e s m below meth c T0 C S0
  refine own_seg C S0 [(0, .aload_n 0, 1)] (by decide +kernel) 1 #[.val (.ref a)] [(.ref a)] rfl ?_
  refine own_getS C S0 (own_wd hw 33 rfl) Via.refl (OL.ext X00.2) (by decide +kernel) ?_
  intro T258 S259
  refine own_callV C S259 (own_wd hw 34 rfl) (own_wd hw 23 rfl) (own_wd hw 25 rfl) (own_wd hw 25 rfl) rfl (own_wd hw 24 rfl) (by decide) (own_Met.pay (own_eq l Z a0 hw a La _ _ h0 n0 z0 LE aF LF) C 0 (own_wd hw 26 rfl) (own_wd hw 3 rfl) (by decide) (by decide)) (fun _ _ _ q => q.2) aE [(.ref La)] [] rfl own_pd5 rfl rfl rfl (Nat.le_of_ble_eq_true rfl) (by decide) (by decide) (by decide +kernel) ?_
  rintro T261 h262 v263 L264 S265 ⟨⟨rfl, e260⟩, -⟩
  rw [e260] at S265; clear e260
  show own_Go p e below _ T261 (mkF m 7 #[.val (.ref a)] [(.int (if y = (29 : Int32) then (1 : Int32) else (0 : Int32)))])
  refine own_if C S265 (q := .eq) (o := 8) (by decide +kernel) 15 (by decide) (by decide) (fun (q266 : (if y = (29 : Int32) then (1 : Int32) else (0 : Int32)) = (0 : Int32)) => ?_) (fun (hq : ¬ (if y = (29 : Int32) then (1 : Int32) else (0 : Int32)) = (0 : Int32)) => False.elim (hq (if_neg (own_w9 hy))))
  refine own_seg C S265 [(15, .aload_n 0, 1)] (by decide +kernel) 16 #[.val (.ref a)] [(.ref a)] rfl ?_
  refine own_getF C S265 (host := "") (Or.inl (own_wd hw 13 rfl)) Via.refl aF (by decide +kernel) ?_
  intro T267 S268
  refine own_callS C S268 (own_wd hw 35 rfl) (own_wd hw 36 rfl) (own_wd hw 37 rfl) (own_wd hw 38 rfl) (by decide) (own_Met.pay (own_vo0 l Z a0 hw G1 G3 La D1 D1k D2 D2k y h0 n0 z0 X00 LE LF K1 K2 O2 O4 P5 rG3 OL O1 OT Lalt D1lt D2lt hy hl) C 0 (own_wd hw 38 rfl) (own_wd hw 37 rfl) (by decide) (by decide)) (fun _ _ _ q => q.2) [(.int y)] [] rfl own_pd4 rfl rfl rfl (Nat.le_of_ble_eq_true rfl) (by decide) (by decide) (by decide +kernel) ?_
  rintro T278 h279 v280 L281 S282 ⟨⟨a269, a270, k271, rfl, g272, K273, f274, f275, f276, f277⟩, -⟩
  show own_Go p e below _ T278 (mkF m 22 #[.val (.ref a)] [(.ref a269)])
  refine own_retA C S282 rfl rfl (by decide +kernel) (by decide) (by decide) ?_
  have o283 : h0.size ≤ a269 := Nat.le_trans (Nat.le_refl _) g272
  exact ⟨a269, a270, k271, rfl, o283, ((Keep.refl _ _).trans K273 all0), f274, f275, f276, f277⟩
theorem own_dt1 (l : Launch) (Z : State) (a0 : Array Value) (hw : ∀ d ∈ tables_1, d.before a0 Z = true) (G1 : Int32) (G3 : Value) (La : Addr) (D1 : Addr) (D1k : ClassId) (D2 : Addr) (D2k : ClassId) (a : Addr) (y : Int32) (h0 : Heap) (n0 : Nat) (z0 : n0 ≤ h0.size) (X00 : Old Z n0 h0) (LE : Exa Z h0 La "com/example/reckoner/reckoner/model/DayOfMonth") (LF : Fld Z h0 La "com/example/reckoner/reckoner/model/DayOfMonth" "number" "I" (.int 29)) (K1 : Arv Z h0 D1 D1k .byte (100 : Int32) own_DO (.int 0)) (K2 : Arv Z h0 D2 D2k .byte (100 : Int32) own_DT (.int 0)) (aE : Exa Z h0 a "com/example/reckoner/reckoner/model/DayOfMonth") (aF : Fld Z h0 a "com/example/reckoner/reckoner/model/DayOfMonth" "number" "I" (.int y)) (O2 : Sta Z Z.heap "java/lang/String" "COMPACT_STRINGS" "Z" (.int G1)) (O4 : Sta Z Z.heap "jdk/internal/util/Preconditions" "SIOOBE_FORMATTER" "Ljava/util/function/BiFunction;" G3) (P5 : ¬ G1 = (0 : Int32)) (rG3 : G3.isRef = true) (OL : Sta Z Z.heap "com/example/reckoner/reckoner/model/DayOfMonth" "LAST" "Lcom/example/reckoner/reckoner/model/DayOfMonth;" (.ref La)) (O1 : Sta Z Z.heap "java/lang/Integer" "DigitOnes" "[B" (.ref D1)) (OT : Sta Z Z.heap "java/lang/Integer" "DigitTens" "[B" (.ref D2)) (Lalt : La < n0) (D1lt : D1 < n0) (D2lt : D2 < n0) (hy : own_DB y) (hl : ¬ y < (10 : Int32)) :
    own_Met l Z (⟨"com/example/reckoner/reckoner/model/DayOfMonth", "toString", "()Ljava/lang/String;"⟩ : MethodName) prog_9_method_7_code 1 (some (.object "java/lang/String")) ({ frames := 4, cells := 2, slots := 6, locals := 53 } : Room) n0 #[(.ref a)] h0 (fun v h => ∃ r : Addr, ∃ rt : Addr, ∃ rk : ClassId, v = some (.ref r) ∧ h0.size ≤ r ∧ Keep h0 h [] ∧ Exa Z h r "java/lang/String" ∧ Fld Z h r "java/lang/String" "value" "[B" (.ref rt) ∧ Fld Z h r "java/lang/String" "coder" "B" (.int 0) ∧ Arv Z h rt rk .byte (2 : Int32) ([(.int (((48 : Int32) + (y / (10 : Int32))).toInt8.toInt32)), (.int (((48 : Int32) + (y % (10 : Int32))).toInt8.toInt32))]) (.int 0)) := by
  refine own_met (by decide +kernel) #[.val (.ref a)] (fun m => by first | (simp [entryFrame, mkF, argsToLocals, Value.category]; done) | rfl) ?_
  intro p e s m below meth c T0 C S0
  refine own_seg C S0 [(0, .aload_n 0, 1)] (by decide +kernel) 1 #[.val (.ref a)] [(.ref a)] rfl ?_
  refine own_getS C S0 (own_wd hw 33 rfl) Via.refl (OL.ext X00.2) (by decide +kernel) ?_
  intro T284 S285
  refine own_callV C S285 (own_wd hw 34 rfl) (own_wd hw 23 rfl) (own_wd hw 25 rfl) (own_wd hw 25 rfl) rfl (own_wd hw 24 rfl) (by decide) (own_Met.pay (own_eq l Z a0 hw a La _ _ h0 n0 z0 LE aF LF) C 0 (own_wd hw 26 rfl) (own_wd hw 3 rfl) (by decide) (by decide)) (fun _ _ _ q => q.2) aE [(.ref La)] [] rfl own_pd5 rfl rfl rfl (Nat.le_of_ble_eq_true rfl) (by decide) (by decide) (by decide +kernel) ?_
  rintro T287 h288 v289 L290 S291 ⟨⟨rfl, e286⟩, -⟩
  rw [e286] at S291; clear e286
  show own_Go p e below _ T287 (mkF m 7 #[.val (.ref a)] [(.int (if y = (29 : Int32) then (1 : Int32) else (0 : Int32)))])
  refine own_if C S291 (q := .eq) (o := 8) (by decide +kernel) 15 (by decide) (by decide) (fun (q292 : (if y = (29 : Int32) then (1 : Int32) else (0 : Int32)) = (0 : Int32)) => ?_) (fun (hq : ¬ (if y = (29 : Int32) then (1 : Int32) else (0 : Int32)) = (0 : Int32)) => False.elim (hq (if_neg (own_w9 hy))))
  refine own_seg C S291 [(15, .aload_n 0, 1)] (by decide +kernel) 16 #[.val (.ref a)] [(.ref a)] rfl ?_
  refine own_getF C S291 (host := "") (Or.inl (own_wd hw 13 rfl)) Via.refl aF (by decide +kernel) ?_
  intro T293 S294
  refine own_callS C S294 (own_wd hw 35 rfl) (own_wd hw 36 rfl) (own_wd hw 37 rfl) (own_wd hw 38 rfl) (by decide) (own_Met.pay (own_vo1 l Z a0 hw G1 G3 La D1 D1k D2 D2k y h0 n0 z0 X00 LE LF K1 K2 O2 O4 P5 rG3 OL O1 OT Lalt D1lt D2lt hy hl) C 0 (own_wd hw 38 rfl) (own_wd hw 37 rfl) (by decide) (by decide)) (fun _ _ _ q => q.2) [(.int y)] [] rfl own_pd4 rfl rfl rfl (Nat.le_of_ble_eq_true rfl) (by decide) (by decide) (by decide +kernel) ?_
  rintro T304 h305 v306 L307 S308 ⟨⟨a295, a296, k297, rfl, g298, K299, f300, f301, f302, f303⟩, -⟩
  show own_Go p e below _ T304 (mkF m 22 #[.val (.ref a)] [(.ref a295)])
  refine own_retA C S308 rfl rfl (by decide +kernel) (by decide) (by decide) ?_
  have o309 : h0.size ≤ a295 := Nat.le_trans (Nat.le_refl _) g298
  exact ⟨a295, a296, k297, rfl, o309, ((Keep.refl _ _).trans K299 all0), f300, f301, f302, f303⟩
theorem own_ce (l : Launch) (Z : State) (a0 : Array Value) (hw : ∀ d ∈ tables_1, d.before a0 Z = true) (x : Int32) (h0 : Heap) (n0 : Nat) (z0 : n0 ≤ h0.size) (hx : ¬ (255 : Int32) < x) :
    own_Met l Z (⟨"java/lang/StringLatin1", "canEncode", "(C)Z"⟩ : MethodName) jdk_43_method_3_code 1 (some .boolean) ({ frames := 0, cells := 0, slots := 0, locals := 0 } : Room) n0 #[(.int x)] h0 (fun v h => v = some (.int 1) ∧ h = h0) := by
  refine own_met (by decide +kernel) #[.val (.int x)] (fun m => by first | (simp [entryFrame, mkF, argsToLocals, Value.category]; done) | rfl) ?_
  intro p e s m below meth c T0 C S0
  refine own_seg C S0 [(0, .iload_n 0, 1), (1, .sipush 255, 3)] (by decide +kernel) 4 #[.val (.int x)] [(.int 255), (.int x)] rfl ?_
  refine own_icmp C S0 (q := .gt) (o := 7) (by decide +kernel) 11 (by decide) (by decide) (fun (hq : (255 : Int32) < x) => False.elim (hx hq)) (fun (q310 : ¬ (255 : Int32) < x) => ?_)
  refine own_seg C S0 [(7, .iconst 1, 1), (8, .goto 4, 3)] (by decide +kernel) 12 #[.val (.int x)] [(.int 1)] rfl ?_
  refine own_retZ C S0 (by decide +kernel) (by decide) (by decide) (by decide) ?_
  exact ⟨rfl, rfl⟩
theorem own_tb (l : Launch) (Z : State) (a0 : Array Value) (hw : ∀ d ∈ tables_1, d.before a0 Z = true) (x : Int32) (h0 : Heap) (n0 : Nat) (z0 : n0 ≤ h0.size) :
    own_Met l Z (⟨"java/lang/StringLatin1", "toBytes", "(C)[B"⟩ : MethodName) jdk_43_method_46_code 1 (some (.array .byte)) ({ frames := 0, cells := 1, slots := 1, locals := 0 } : Room) n0 #[(.int x)] h0 (fun v h => ∃ r : Addr, ∃ rk : ClassId, v = some (.ref r) ∧ h0.size ≤ r ∧ Keep h0 h [] ∧ Arv Z h r rk .byte (1 : Int32) ([(.int x.toInt8.toInt32)]) (.int 0)) := by
  refine own_met (by decide +kernel) #[.val (.int x)] (fun m => by first | (simp [entryFrame, mkF, argsToLocals, Value.category]; done) | rfl) ?_
  intro p e s m below meth c T0 C S0
  refine own_seg C S0 [(0, .iconst 1, 1)] (by decide +kernel) 1 #[.val (.int x)] [(.int 1)] rfl ?_
  refine own_newP C S0 (aty := .byte) (own_wd hw 47 rfl) (by decide +kernel) (by decide) 1 (by decide) (by decide) (by decide) (by decide) ?_
  intro T311 h313 a314 k315 S312 g316 E317 f318 
  have f319 : Arv Z h313 a314 k315 .byte (1 : Int32) ([(.int 0)]) (.int 0) := Arv.pad f318 (pad_rep [] (.int 0) 1)
  refine own_seg C S312 [(3, .dup, 1), (4, .iconst 0, 1), (5, .iload_n 0, 1), (6, .i2b, 1)] (by decide +kernel) 7 #[.val (.int x)] [(.int x.toInt8.toInt32), (.int 0), (.ref a314), (.ref a314)] rfl ?_
  have g320 : n0 ≤ a314 := by rw [g316]; exact z0
  refine own_bastore C S312 f319 ⟨(by decide), (by decide)⟩ 0 rfl (Nat.le_of_ble_eq_true rfl) x.toInt8.toInt32 (own_i2b2 _) g320 (by decide +kernel) ?_
  intro T321 h323 S322 W324 f325
  have f326 : Arv Z h323 a314 k315 .byte (1 : Int32) ([(.int x.toInt8.toInt32)]) (.int 0) := f325
  refine own_retA C S322 rfl rfl (by decide +kernel) (by decide) (by decide) ?_
  have o327 : h0.size ≤ a314 := by rw [g316]; exact (Nat.le_refl _)
  exact ⟨a314, k315, rfl, o327, (((Keep.refl _ _).ext E317).wr W324 (Or.inr o327)), f326⟩
theorem own_pd6 : parseMethodDescriptor "(C)Z" = some ⟨[.char], (some .boolean)⟩ := by decide +kernel
theorem own_pd7 : parseMethodDescriptor "(C)[B" = some ⟨[.char], (some (.array .byte))⟩ := by decide +kernel
theorem own_vc (l : Launch) (Z : State) (a0 : Array Value) (hw : ∀ d ∈ tables_1, d.before a0 Z = true) (G1 : Int32) (G3 : Value) (La : Addr) (D1 : Addr) (D1k : ClassId) (D2 : Addr) (D2k : ClassId) (x : Int32) (h0 : Heap) (n0 : Nat) (z0 : n0 ≤ h0.size) (X00 : Old Z n0 h0) (LE : Exa Z h0 La "com/example/reckoner/reckoner/model/DayOfMonth") (LF : Fld Z h0 La "com/example/reckoner/reckoner/model/DayOfMonth" "number" "I" (.int 29)) (K1 : Arv Z h0 D1 D1k .byte (100 : Int32) own_DO (.int 0)) (K2 : Arv Z h0 D2 D2k .byte (100 : Int32) own_DT (.int 0)) (O2 : Sta Z Z.heap "java/lang/String" "COMPACT_STRINGS" "Z" (.int G1)) (O4 : Sta Z Z.heap "jdk/internal/util/Preconditions" "SIOOBE_FORMATTER" "Ljava/util/function/BiFunction;" G3) (P5 : ¬ G1 = (0 : Int32)) (rG3 : G3.isRef = true) (OL : Sta Z Z.heap "com/example/reckoner/reckoner/model/DayOfMonth" "LAST" "Lcom/example/reckoner/reckoner/model/DayOfMonth;" (.ref La)) (O1 : Sta Z Z.heap "java/lang/Integer" "DigitOnes" "[B" (.ref D1)) (OT : Sta Z Z.heap "java/lang/Integer" "DigitTens" "[B" (.ref D2)) (Lalt : La < n0) (D1lt : D1 < n0) (D2lt : D2 < n0) (hx : ¬ (255 : Int32) < x) :
    own_Met l Z (⟨"java/lang/String", "valueOf", "(C)Ljava/lang/String;"⟩ : MethodName) jdk_42_method_139_code 1 (some (.object "java/lang/String")) ({ frames := 2, cells := 2, slots := 5, locals := 27 } : Room) n0 #[(.int x)] h0 (fun v h => ∃ r : Addr, ∃ rt : Addr, ∃ rk : ClassId, v = some (.ref r) ∧ h0.size ≤ r ∧ Keep h0 h [] ∧ Exa Z h r "java/lang/String" ∧ Fld Z h r "java/lang/String" "value" "[B" (.ref rt) ∧ Fld Z h r "java/lang/String" "coder" "B" (.int 0) ∧ Arv Z h rt rk .byte (1 : Int32) ([(.int x.toInt8.toInt32)]) (.int 0)) := by
  refine own_met (by decide +kernel) #[.val (.int x)] (fun m => by first | (simp [entryFrame, mkF, argsToLocals, Value.category]; done) | rfl) ?_
  intro p e s m below meth c T0 C S0
  refine own_getS C S0 (own_wd hw 70 rfl) Via.refl (O2.ext X00.2) (by decide +kernel) ?_
  intro T328 S329
  refine own_if C S329 (q := .eq) (o := 23) (by decide +kernel) 26 (by decide) (by decide) (fun (hq : G1 = (0 : Int32)) => False.elim (P5 hq)) (fun (q330 : ¬ G1 = (0 : Int32)) => ?_)
  refine own_seg C S329 [(6, .iload_n 0, 1)] (by decide +kernel) 7 #[.val (.int x)] [(.int x)] rfl ?_
  refine own_callS C S329 (own_wd hw 71 rfl) (own_wd hw 72 rfl) (own_wd hw 73 rfl) (own_wd hw 74 rfl) (by decide) (own_Met.pay (own_ce l Z a0 hw x h0 n0 z0 hx) C 0 (own_wd hw 74 rfl) (own_wd hw 73 rfl) (by decide) (by decide)) (fun _ _ _ q => q.2) [(.int x)] [] rfl own_pd6 rfl rfl rfl (Nat.le_of_ble_eq_true rfl) (by decide) (by decide) (by decide +kernel) ?_
  rintro T332 h333 v334 L335 S336 ⟨⟨rfl, e331⟩, -⟩
  rw [e331] at S336; clear e331
  show own_Go p e below _ T332 (mkF m 10 #[.val (.int x)] [(.int 1)])
  refine own_if C S336 (q := .eq) (o := 16) (by decide +kernel) 26 (by decide) (by decide) (fun (hq : (1 : Int32) = (0 : Int32)) => False.elim (by revert hq; decide)) (fun (q337 : ¬ (1 : Int32) = (0 : Int32)) => ?_)
  refine own_new C S336 (own_wd hw 75 rfl) (own_wd hw 53 rfl) (own_wd hw 37 rfl) (by decide +kernel) (by decide) (by decide) ?_
  intro T338 h340 a341 S339 g342 E343 x344 D345
  have f346 : Fld Z h340 a341 "java/lang/String" "value" "[B" .null := D345 (ty := (.array .byte)) (Or.inr (own_wd hw 60 rfl)) own_fd1
  have f347 : Fld Z h340 a341 "java/lang/String" "coder" "B" (.int 0) := D345 (ty := .byte) (Or.inr (own_wd hw 62 rfl)) own_fd2
  refine own_seg C S339 [(16, .dup, 1), (17, .iload_n 0, 1)] (by decide +kernel) 18 #[.val (.int x)] [(.int x), (.ref a341), (.ref a341)] rfl ?_
  have f348 : n0 ≤ h340.size := (Nat.le_trans z0 E343.1)
  refine own_callS C S339 (own_wd hw 76 rfl) (own_wd hw 77 rfl) (own_wd hw 73 rfl) (own_wd hw 78 rfl) (by decide) (own_Met.pay (own_tb l Z a0 hw x h340 n0 f348) C 2 (own_wd hw 78 rfl) (own_wd hw 73 rfl) (by decide) (by decide)) (fun _ _ _ q => q.2) [(.int x)] [(.ref a341), (.ref a341)] rfl own_pd7 rfl rfl rfl (Nat.le_of_ble_eq_true rfl) (by decide) (by decide) (by decide +kernel) ?_
  rintro T354 h355 v356 L357 S358 ⟨⟨a349, k350, rfl, g351, K352, f353⟩, -⟩
  show own_Go p e below _ T354 (mkF m 21 #[.val (.int x)] [(.ref a349), (.ref a341), (.ref a341)])
  refine own_seg C S358 [(21, .iconst 0, 1)] (by decide +kernel) 22 #[.val (.int x)] [(.int 0), (.ref a349), (.ref a341), (.ref a341)] rfl ?_
  have f359 := (x344.keep K352)
  have f360 := (f346.keep K352 nin0)
  have f361 := (f347.keep K352 nin0)
  have f362 : n0 ≤ h355.size := (Nat.le_trans f348 K352.1)
  have g363 : n0 ≤ a341 := by rw [g342]; exact z0
  refine own_callI C S358 rfl (own_wd hw 79 rfl) (own_wd hw 55 rfl) (own_wd hw 57 rfl) (by decide) (own_Met.pay (own_sb l Z a0 hw a341 a349 h355 n0 f362 g363 f359 f360 f361) C 1 (own_wd hw 57 rfl) (own_wd hw 37 rfl) (by decide) (by decide)) (fun _ _ _ q => q.2) [(.ref a349), (.int 0)] [(.ref a341)] rfl own_pd3 rfl rfl rfl (Nat.le_of_ble_eq_true rfl) (by decide) (by decide) (by decide +kernel) ?_
  rintro T368 h369 v370 L371 S372 ⟨⟨rfl, K364, f365, f366, f367⟩, -⟩
  show own_Go p e below _ T368 (mkF m 25 #[.val (.int x)] [(.ref a341)])
  refine own_retA C S372 rfl rfl (by decide +kernel) (by decide) (by decide) ?_
  have o373 : h0.size ≤ a341 := by rw [g342]; exact (Nat.le_refl _)
  have n374 : a341 ≠ a349 := Nat.ne_of_lt (Nat.lt_of_lt_of_le x344.lt g351)
  have f375 := (f353.keep K364 (ninS (Ne.symm n374) nin0))
  exact ⟨a341, a349, k350, rfl, o373, ((((Keep.refl _ _).ext E343).trans K352 all0).trans K364 (allS (Or.inr o373) all0)), f365, f366, f367, f375⟩
theorem own_pd8 : parseMethodDescriptor "(C)Ljava/lang/String;" = some ⟨[.char], (some (.object "java/lang/String"))⟩ := by decide +kernel
theorem own_xp0 (l : Launch) (Z : State) (a0 : Array Value) (hw : ∀ d ∈ tables_1, d.before a0 Z = true) (G1 : Int32) (G3 : Value) (La : Addr) (D1 : Addr) (D1k : ClassId) (D2 : Addr) (D2k : ClassId) (y : Int32) (h0 : Heap) (n0 : Nat) (z0 : n0 ≤ h0.size) (X00 : Old Z n0 h0) (LE : Exa Z h0 La "com/example/reckoner/reckoner/model/DayOfMonth") (LF : Fld Z h0 La "com/example/reckoner/reckoner/model/DayOfMonth" "number" "I" (.int 29)) (K1 : Arv Z h0 D1 D1k .byte (100 : Int32) own_DO (.int 0)) (K2 : Arv Z h0 D2 D2k .byte (100 : Int32) own_DT (.int 0)) (O2 : Sta Z Z.heap "java/lang/String" "COMPACT_STRINGS" "Z" (.int G1)) (O4 : Sta Z Z.heap "jdk/internal/util/Preconditions" "SIOOBE_FORMATTER" "Ljava/util/function/BiFunction;" G3) (P5 : ¬ G1 = (0 : Int32)) (rG3 : G3.isRef = true) (OL : Sta Z Z.heap "com/example/reckoner/reckoner/model/DayOfMonth" "LAST" "Lcom/example/reckoner/reckoner/model/DayOfMonth;" (.ref La)) (O1 : Sta Z Z.heap "java/lang/Integer" "DigitOnes" "[B" (.ref D1)) (OT : Sta Z Z.heap "java/lang/Integer" "DigitTens" "[B" (.ref D2)) (Lalt : La < n0) (D1lt : D1 < n0) (D2lt : D2 < n0) (hy : own_DB y) (hl : y < (10 : Int32)) :
    own_Met l Z (⟨"com/example/reckoner/reckoner/model/DayOfMonthNumberedPinLaw", "expected", "(I)Ljava/lang/String;"⟩ : MethodName) method_2_code 2 (some (.object "java/lang/String")) ({ frames := 3, cells := 2, slots := 5, locals := 39 } : Room) n0 #[(.int y)] h0 (fun v h => ∃ r : Addr, ∃ rt : Addr, ∃ rk : ClassId, v = some (.ref r) ∧ h0.size ≤ r ∧ Keep h0 h [] ∧ Exa Z h r "java/lang/String" ∧ Fld Z h r "java/lang/String" "value" "[B" (.ref rt) ∧ Fld Z h r "java/lang/String" "coder" "B" (.int 0) ∧ Arv Z h rt rk .byte (1 : Int32) ([(.int (((48 : Int32) + y).toInt8.toInt32))]) (.int 0)) := by
  refine own_met (by decide +kernel) #[.val (.int y), .unset] (fun m => by first | (simp [entryFrame, mkF, argsToLocals, Value.category]; done) | rfl) ?_
  intro p e s m below meth c T0 C S0
  refine own_seg C S0 [(0, .iload_n 0, 1), (1, .bipush 10, 2)] (by decide +kernel) 3 #[.val (.int y), .unset] [(.int 10), (.int y)] rfl ?_
  refine own_icmp C S0 (q := .ge) (o := 12) (by decide +kernel) 15 (by decide) (by decide) (fun (hq : ¬ y < (10 : Int32)) => False.elim (hq hl)) (fun (q376 : y < (10 : Int32)) => ?_)
  refine own_seg C S0 [(6, .bipush 48, 2), (8, .iload_n 0, 1), (9, .iadd, 1), (10, .i2c, 1)] (by decide +kernel) 11 #[.val (.int y), .unset] [(.int (((48 : Int32) + y).toUInt32.toUInt16.toUInt32.toInt32))] rfl ?_
  rw [show ((48 : Int32) + y).toUInt32.toUInt16.toUInt32.toInt32 = ((48 : Int32) + y) from own_y3 hy]
  refine own_callS C S0 (own_wd hw 67 rfl) (own_wd hw 68 rfl) (own_wd hw 37 rfl) (own_wd hw 69 rfl) (by decide) (own_Met.pay (own_vc l Z a0 hw G1 G3 La D1 D1k D2 D2k ((48 : Int32) + y) h0 n0 z0 X00 LE LF K1 K2 O2 O4 P5 rG3 OL O1 OT Lalt D1lt D2lt (own_y3l hy)) C 0 (own_wd hw 69 rfl) (own_wd hw 37 rfl) (by decide) (by decide)) (fun _ _ _ q => q.2) [(.int ((48 : Int32) + y))] [] rfl own_pd8 rfl rfl rfl (Nat.le_of_ble_eq_true rfl) (by decide) (by decide) (by decide +kernel) ?_
  rintro T386 h387 v388 L389 S390 ⟨⟨a377, a378, k379, rfl, g380, K381, f382, f383, f384, f385⟩, -⟩
  show own_Go p e below _ T386 (mkF m 14 #[.val (.int y), .unset] [(.ref a377)])
  refine own_retA C S390 rfl rfl (by decide +kernel) (by decide) (by decide) ?_
  have o391 : h0.size ≤ a377 := Nat.le_trans (Nat.le_refl _) g380
  exact ⟨a377, a378, k379, rfl, o391, ((Keep.refl _ _).trans K381 all0), f382, f383, f384, f385⟩
theorem own_hws : ∀ d ∈ StrChars.Road.words, d ∈ tables_1 := by decide +kernel
theorem own_pd9 : parseMethodDescriptor "([C)V" = some ⟨[(.array .char)], none⟩ := by decide +kernel
theorem own_xp1 (l : Launch) (Z : State) (a0 : Array Value) (hw : ∀ d ∈ tables_1, d.before a0 Z = true) (G1 : Int32) (G3 : Value) (La : Addr) (D1 : Addr) (D1k : ClassId) (D2 : Addr) (D2k : ClassId) (y : Int32) (h0 : Heap) (n0 : Nat) (z0 : n0 ≤ h0.size) (X00 : Old Z n0 h0) (LE : Exa Z h0 La "com/example/reckoner/reckoner/model/DayOfMonth") (LF : Fld Z h0 La "com/example/reckoner/reckoner/model/DayOfMonth" "number" "I" (.int 29)) (K1 : Arv Z h0 D1 D1k .byte (100 : Int32) own_DO (.int 0)) (K2 : Arv Z h0 D2 D2k .byte (100 : Int32) own_DT (.int 0)) (O2 : Sta Z Z.heap "java/lang/String" "COMPACT_STRINGS" "Z" (.int G1)) (O4 : Sta Z Z.heap "jdk/internal/util/Preconditions" "SIOOBE_FORMATTER" "Ljava/util/function/BiFunction;" G3) (P5 : ¬ G1 = (0 : Int32)) (rG3 : G3.isRef = true) (OL : Sta Z Z.heap "com/example/reckoner/reckoner/model/DayOfMonth" "LAST" "Lcom/example/reckoner/reckoner/model/DayOfMonth;" (.ref La)) (O1 : Sta Z Z.heap "java/lang/Integer" "DigitOnes" "[B" (.ref D1)) (OT : Sta Z Z.heap "java/lang/Integer" "DigitTens" "[B" (.ref D2)) (Lalt : La < n0) (D1lt : D1 < n0) (D2lt : D2 < n0) (hy : own_DB y) (hl : ¬ y < (10 : Int32)) :
    own_Met l Z (⟨"com/example/reckoner/reckoner/model/DayOfMonthNumberedPinLaw", "expected", "(I)Ljava/lang/String;"⟩ : MethodName) method_2_code 2 (some (.object "java/lang/String")) ({ frames := 4, cells := 3, slots := 8, locals := 66 } : Room) n0 #[(.int y)] h0 (fun v h => ∃ r : Addr, ∃ rt : Addr, ∃ rk : ClassId, v = some (.ref r) ∧ h0.size ≤ r ∧ Keep h0 h [] ∧ Exa Z h r "java/lang/String" ∧ Fld Z h r "java/lang/String" "value" "[B" (.ref rt) ∧ Fld Z h r "java/lang/String" "coder" "B" (.int 0) ∧ Arv Z h rt rk .byte (2 : Int32) ([(.int (((48 : Int32) + (y / (10 : Int32))).toInt8.toInt32)), (.int (((48 : Int32) + (y % (10 : Int32))).toInt8.toInt32))]) (.int 0)) := by
  refine own_met (by decide +kernel) #[.val (.int y), .unset] (fun m => by first | (simp [entryFrame, mkF, argsToLocals, Value.category]; done) | rfl) ?_
  intro p e s m below meth c T0 C S0
  refine own_seg C S0 [(0, .iload_n 0, 1), (1, .bipush 10, 2)] (by decide +kernel) 3 #[.val (.int y), .unset] [(.int 10), (.int y)] rfl ?_
  refine own_icmp C S0 (q := .ge) (o := 12) (by decide +kernel) 15 (by decide) (by decide) (fun (q392 : ¬ y < (10 : Int32)) => ?_) (fun (hq : y < (10 : Int32)) => False.elim (hl hq))
  refine own_seg C S0 [(15, .iconst 2, 1)] (by decide +kernel) 16 #[.val (.int y), .unset] [(.int 2)] rfl ?_
  refine own_newP C S0 (aty := .char) (own_wd hw 89 rfl) (by decide +kernel) (by decide) 2 (by decide) (by decide) (by decide) (by decide) ?_
  intro T393 h395 a396 k397 S394 g398 E399 f400 
  have f401 : Arv Z h395 a396 k397 .char (2 : Int32) ([(.int 0), (.int 0)]) (.int 0) := Arv.pad f400 (pad_rep [] (.int 0) 2)
  refine own_seg C S394 [(18, .astore_n 1, 1), (19, .aload_n 1, 1), (20, .iconst 0, 1), (21, .bipush 48, 2), (23, .iload_n 0, 1), (24, .bipush 10, 2)] (by decide +kernel) 26 #[.val (.int y), .val (.ref a396)] [(.int 10), (.int y), (.int 48), (.int 0), (.ref a396)] rfl ?_
  refine own_idiv C S394 (by decide +kernel) (by decide) ?_
  refine own_seg C S394 [(27, .iadd, 1), (28, .i2c, 1)] (by decide +kernel) 29 #[.val (.int y), .val (.ref a396)] [(.int (((48 : Int32) + (y / (10 : Int32))).toUInt32.toUInt16.toUInt32.toInt32)), (.int 0), (.ref a396)] rfl ?_
  have g402 : n0 ≤ a396 := by rw [g398]; exact z0
  refine own_castore C S394 f401 ⟨(by decide), (by decide)⟩ 0 rfl (Nat.le_of_ble_eq_true rfl) ((48 : Int32) + (y / (10 : Int32))) (own_y4t hy) g402 (by decide +kernel) ?_
  intro T403 h405 S404 W406 f407
  have f408 : Arv Z h405 a396 k397 .char (2 : Int32) ([(.int ((48 : Int32) + (y / (10 : Int32)))), (.int 0)]) (.int 0) := f407
  refine own_seg C S404 [(30, .aload_n 1, 1), (31, .iconst 1, 1), (32, .bipush 48, 2), (34, .iload_n 0, 1), (35, .bipush 10, 2)] (by decide +kernel) 37 #[.val (.int y), .val (.ref a396)] [(.int 10), (.int y), (.int 48), (.int 1), (.ref a396)] rfl ?_
  refine own_irem C S404 (by decide +kernel) (by decide) ?_
  refine own_seg C S404 [(38, .iadd, 1), (39, .i2c, 1)] (by decide +kernel) 40 #[.val (.int y), .val (.ref a396)] [(.int (((48 : Int32) + (y % (10 : Int32))).toUInt32.toUInt16.toUInt32.toInt32)), (.int 1), (.ref a396)] rfl ?_
  refine own_castore C S404 f408 ⟨(by decide), (by decide)⟩ 1 rfl (Nat.le_of_ble_eq_true rfl) ((48 : Int32) + (y % (10 : Int32))) (own_y4 hy) g402 (by decide +kernel) ?_
  intro T409 h411 S410 W412 f413
  have f414 : Arv Z h411 a396 k397 .char (2 : Int32) ([(.int ((48 : Int32) + (y / (10 : Int32)))), (.int ((48 : Int32) + (y % (10 : Int32))))]) (.int 0) := f413
  refine own_new C S410 (own_wd hw 90 rfl) (own_wd hw 53 rfl) (own_wd hw 37 rfl) (by decide +kernel) (by decide) (by decide) ?_
  intro T415 h417 a418 S416 g419 E420 x421 D422
  have f423 : Fld Z h417 a418 "java/lang/String" "value" "[B" .null := D422 (ty := (.array .byte)) (Or.inr (own_wd hw 60 rfl)) own_fd1
  have f424 : Fld Z h417 a418 "java/lang/String" "coder" "B" (.int 0) := D422 (ty := .byte) (Or.inr (own_wd hw 62 rfl)) own_fd2
  refine own_seg C S416 [(44, .dup, 1), (45, .aload_n 1, 1)] (by decide +kernel) 46 #[.val (.int y), .val (.ref a396)] [(.ref a396), (.ref a418), (.ref a418)] rfl ?_
  have hp425 : ∀ c ∈ ([((48 : Int32) + (y / (10 : Int32))), ((48 : Int32) + (y % (10 : Int32)))] : List Int32), ¬ c < 0 ∧ ¬ (255 : Int32) < c := by
    intro c hc; simp only [List.mem_cons, List.not_mem_nil, or_false] at hc
    rcases hc with rfl | rfl
    · exact own_y6t hy
    · exact own_y6 hy
  have f426 : n0 ≤ h417.size := (Nat.le_trans (by rw [W412.size]; exact (by rw [W406.size]; exact (Nat.le_trans z0 E399.1))) E420.1)
  have f427 : n0 ≤ h411.size := (by rw [W412.size]; exact (by rw [W406.size]; exact (Nat.le_trans z0 E399.1)))
  have g428 : n0 ≤ a418 := by rw [g419]; exact f427
  have f429 := (f414.ext E420)
  have f430 := ((((X00.ext E399).wr W406 g402).wr W412 g402).ext E420)
  refine own_callI C S416 rfl (own_wd hw 91 rfl) (own_wd hw 92 rfl) (own_wd hw 93 rfl) (by decide) (StrChars.Road.backV (W := 1) C.2.2.2.2.2.2.2 (fun d hd => hw d (own_hws d hd)) (kI := 4) (own_wd hw 53 rfl) (cs := ([((48 : Int32) + (y / (10 : Int32))), ((48 : Int32) + (y % (10 : Int32)))] : List Int32)) (bs := (([((48 : Int32) + (y / (10 : Int32))), ((48 : Int32) + (y % (10 : Int32)))] : List Int32)).map (fun c => c.toInt8.toInt32)) (n := 2) g428 f426 x421 f423 f424 f429 (O2.ext f430.2) P5 rfl rfl (by decide) (by decide) hp425 rfl (by decide) (by decide)) (fun _ _ _ q => q.2.1) [(.ref a396)] [(.ref a418)] rfl own_pd9 rfl rfl rfl (Nat.le_of_ble_eq_true rfl) (by decide) (by decide) (by decide +kernel) ?_
  rintro T441 h442 v443 L444 S445 ⟨rfl, -, K431, x432, f433, t434, k435, g436, g437, g438, f439, f440⟩
  have f446 : Arv Z h442 t434 k435 .byte (2 : Int32) ([(.int (((48 : Int32) + (y / (10 : Int32))).toInt8.toInt32)), (.int (((48 : Int32) + (y % (10 : Int32))).toInt8.toInt32))]) (.int 0) := f440
  show own_Go p e below _ T441 (mkF m 49 #[.val (.int y), .val (.ref a396)] [(.ref a418)])
  refine own_retA C S445 rfl rfl (by decide +kernel) (by decide) (by decide) ?_
  have o448 : h0.size ≤ h411.size := (by rw [W412.size]; exact (by rw [W406.size]; exact (Nat.le_trans (Nat.le_refl _) E399.1)))
  have o447 : h0.size ≤ a418 := by rw [g419]; exact o448
  have o449 : h0.size ≤ a396 := by rw [g398]; exact (Nat.le_refl _)
  exact ⟨a418, t434, k435, rfl, o447, ((((((Keep.refl _ _).ext E399).wr W406 (Or.inr o449)).wr W412 (Or.inr o449)).ext E420).trans K431 (allS (Or.inr o447) all0)), x432, f439, f433, f446⟩
theorem own_pd10 : parseMethodDescriptor "(I)Lcom/example/reckoner/reckoner/model/DayOfMonth;" = some ⟨[.int], (some (.object "com/example/reckoner/reckoner/model/DayOfMonth"))⟩ := by decide +kernel
theorem own_pd11 : parseMethodDescriptor "(Lcom/example/reckoner/reckoner/model/DayOfMonth;)Z" = some ⟨[(.object "com/example/reckoner/reckoner/model/DayOfMonth")], (some .boolean)⟩ := by decide +kernel
theorem own_pd12 : parseMethodDescriptor "()Ljava/lang/String;" = some ⟨[], (some (.object "java/lang/String"))⟩ := by decide +kernel
theorem own_heq : ∀ d ∈ StrChars.Road.wordsEq, d ∈ tables_1 := by decide +kernel
theorem own_law (l : Launch) (Z : State) (a0 : Array Value) (hw : ∀ d ∈ tables_1, d.before a0 Z = true) (i0 : Int32) (i1 : Int32) (G1 : Int32) (G3 : Value) (La : Addr) (D1 : Addr) (D1k : ClassId) (D2 : Addr) (D2k : ClassId) (h0 : Heap) (n0 : Nat) (z0 : n0 ≤ h0.size) (X00 : Old Z n0 h0) (LE : Exa Z h0 La "com/example/reckoner/reckoner/model/DayOfMonth") (LF : Fld Z h0 La "com/example/reckoner/reckoner/model/DayOfMonth" "number" "I" (.int 29)) (K1 : Arv Z h0 D1 D1k .byte (100 : Int32) own_DO (.int 0)) (K2 : Arv Z h0 D2 D2k .byte (100 : Int32) own_DT (.int 0)) (O2 : Sta Z Z.heap "java/lang/String" "COMPACT_STRINGS" "Z" (.int G1)) (O4 : Sta Z Z.heap "jdk/internal/util/Preconditions" "SIOOBE_FORMATTER" "Ljava/util/function/BiFunction;" G3) (P5 : ¬ G1 = (0 : Int32)) (rG3 : G3.isRef = true) (OL : Sta Z Z.heap "com/example/reckoner/reckoner/model/DayOfMonth" "LAST" "Lcom/example/reckoner/reckoner/model/DayOfMonth;" (.ref La)) (O1 : Sta Z Z.heap "java/lang/Integer" "DigitOnes" "[B" (.ref D1)) (OT : Sta Z Z.heap "java/lang/Integer" "DigitTens" "[B" (.ref D2)) (Lalt : La < n0) (D1lt : D1 < n0) (D2lt : D2 < n0) :
    own_Met l Z x code maxLocals ret room_1 n0 #[(.int i0), (.int i1)] h0 (fun v h => v = some (.int 1)) := by
  refine own_met (by decide +kernel) #[.val (.int i0), .val (.int i1), .unset, .unset, .unset, .unset, .unset, .unset] (fun m => by first | (simp [entryFrame, mkF, argsToLocals, Value.category, maxLocals]; done) | rfl) ?_
  intro p e s m below meth c T0 C S0
  refine own_seg C S0 [(0, .iload_n 0, 1)] (by decide +kernel) 1 #[.val (.int i0), .val (.int i1), .unset, .unset, .unset, .unset, .unset, .unset] [(.int i0)] rfl ?_
  refine own_ldc C S0 (own_wd hw 0 rfl) (by decide +kernel) ?_
  refine own_seg C S0 [(3, .iand, 1), (4, .bipush 28, 2)] (by decide +kernel) 6 #[.val (.int i0), .val (.int i1), .unset, .unset, .unset, .unset, .unset, .unset] [(.int 28), (.int (i0 &&& 2147483647))] rfl ?_
  refine own_irem C S0 (by decide +kernel) (by decide) ?_
  refine own_seg C S0 [(7, .iconst 1, 1), (8, .iadd, 1)] (by decide +kernel) 9 #[.val (.int i0), .val (.int i1), .unset, .unset, .unset, .unset, .unset, .unset] [(.int (((i0 &&& 2147483647) % (28 : Int32)) + (1 : Int32)))] rfl ?_
  obtain ⟨z450, hz450⟩ : ∃ y, y = (((i0 &&& 2147483647) % (28 : Int32)) + (1 : Int32)) := ⟨_, rfl⟩
  rw [← hz450]
  have hb451 : own_DB z450 := by rw [hz450]; exact own_ab _
  refine own_seg C S0 [(9, .istore_n 2, 1), (10, .iload_n 1, 1)] (by decide +kernel) 11 #[.val (.int i0), .val (.int i1), .val (.int z450), .unset, .unset, .unset, .unset, .unset] [(.int i1)] rfl ?_
  refine own_ldc C S0 (own_wd hw 0 rfl) (by decide +kernel) ?_
  refine own_seg C S0 [(13, .iand, 1), (14, .bipush 28, 2)] (by decide +kernel) 16 #[.val (.int i0), .val (.int i1), .val (.int z450), .unset, .unset, .unset, .unset, .unset] [(.int 28), (.int (i1 &&& 2147483647))] rfl ?_
  refine own_irem C S0 (by decide +kernel) (by decide) ?_
  refine own_seg C S0 [(17, .iconst 1, 1), (18, .iadd, 1)] (by decide +kernel) 19 #[.val (.int i0), .val (.int i1), .val (.int z450), .unset, .unset, .unset, .unset, .unset] [(.int (((i1 &&& 2147483647) % (28 : Int32)) + (1 : Int32)))] rfl ?_
  obtain ⟨z452, hz452⟩ : ∃ y, y = (((i1 &&& 2147483647) % (28 : Int32)) + (1 : Int32)) := ⟨_, rfl⟩
  rw [← hz452]
  have hb453 : own_DB z452 := by rw [hz452]; exact own_ab _
  refine own_seg C S0 [(19, .istore_n 3, 1), (20, .iload_n 2, 1)] (by decide +kernel) 21 #[.val (.int i0), .val (.int i1), .val (.int z450), .val (.int z452), .unset, .unset, .unset, .unset] [(.int z450)] rfl ?_
  refine own_callS C S0 (own_wd hw 1 rfl) (own_wd hw 2 rfl) (own_wd hw 3 rfl) (own_wd hw 4 rfl) (by decide) (own_Met.pay (own_nu l Z a0 hw z450 h0 n0 z0 hb451) C 0 (own_wd hw 4 rfl) (own_wd hw 3 rfl) (by decide) (by decide)) (fun _ _ _ q => q.2) [(.int z450)] [] rfl own_pd10 rfl rfl rfl (Nat.le_of_ble_eq_true rfl) (by decide) (by decide) (by decide +kernel) ?_
  rintro T459 h460 v461 L462 S463 ⟨⟨a454, rfl, g455, K456, f457, f458⟩, -⟩
  show own_Go p e below _ T459 (mkF m 24 #[.val (.int i0), .val (.int i1), .val (.int z450), .val (.int z452), .unset, .unset, .unset, .unset] [(.ref a454)])
  refine own_seg C S463 [(24, .astore 4, 2), (26, .iload_n 3, 1)] (by decide +kernel) 27 #[.val (.int i0), .val (.int i1), .val (.int z450), .val (.int z452), .val (.ref a454), .unset, .unset, .unset] [(.int z452)] rfl ?_
  have f464 : n0 ≤ h460.size := (Nat.le_trans z0 K456.1)
  refine own_callS C S463 (own_wd hw 1 rfl) (own_wd hw 2 rfl) (own_wd hw 3 rfl) (own_wd hw 4 rfl) (by decide) (own_Met.pay (own_nu l Z a0 hw z452 h460 n0 f464 hb453) C 0 (own_wd hw 4 rfl) (own_wd hw 3 rfl) (by decide) (by decide)) (fun _ _ _ q => q.2) [(.int z452)] [] rfl own_pd10 rfl rfl rfl (Nat.le_of_ble_eq_true rfl) (by decide) (by decide) (by decide +kernel) ?_
  rintro T470 h471 v472 L473 S474 ⟨⟨a465, rfl, g466, K467, f468, f469⟩, -⟩
  show own_Go p e below _ T470 (mkF m 30 #[.val (.int i0), .val (.int i1), .val (.int z450), .val (.int z452), .val (.ref a454), .unset, .unset, .unset] [(.ref a465)])
  refine own_seg C S474 [(30, .astore 5, 2)] (by decide +kernel) 32 #[.val (.int i0), .val (.int i1), .val (.int z450), .val (.int z452), .val (.ref a454), .val (.ref a465), .unset, .unset] [] rfl ?_
  have f475 := ((X00.keep K456 all0).keep K467 all0)
  refine own_getS C S474 (own_wd hw 15 rfl) Via.refl (OL.ext f475.2) (by decide +kernel) ?_
  intro T476 S477
  refine own_seg C S477 [(35, .astore 6, 2), (37, .aload 4, 2), (39, .aload 5, 2)] (by decide +kernel) 41 #[.val (.int i0), .val (.int i1), .val (.int z450), .val (.int z452), .val (.ref a454), .val (.ref a465), .val (.ref La), .unset] [(.ref a465), (.ref a454)] rfl ?_
  have f478 := (f458.keep K467 nin0)
  have f479 : n0 ≤ h471.size := (Nat.le_trans f464 K467.1)
  have f486 := (f457.keep K467)
  refine own_callV C S477 (own_wd hw 17 rfl) (own_wd hw 18 rfl) (own_wd hw 20 rfl) (own_wd hw 20 rfl) rfl (own_wd hw 19 rfl) (by decide) (own_Met.pay (own_ib l Z a0 hw a454 a465 _ _ h471 n0 f479 f478 f469) C 0 (own_wd hw 21 rfl) (own_wd hw 3 rfl) (by decide) (by decide)) (fun _ _ _ q => q.2) f486 [(.ref a465)] [] rfl own_pd11 rfl rfl rfl (Nat.le_of_ble_eq_true rfl) (by decide) (by decide) (by decide +kernel) ?_
  rintro T481 h482 v483 L484 S485 ⟨⟨rfl, e480⟩, -⟩
  rw [e480] at S485; clear e480
  show own_Go p e below _ T481 (mkF m 44 #[.val (.int i0), .val (.int i1), .val (.int z450), .val (.int z452), .val (.ref a454), .val (.ref a465), .val (.ref La), .unset] [(.int (if z450 < z452 then (1 : Int32) else (0 : Int32)))])
  refine own_seg C S485 [(44, .iload_n 2, 1), (45, .iload_n 3, 1)] (by decide +kernel) 46 #[.val (.int i0), .val (.int i1), .val (.int z450), .val (.int z452), .val (.ref a454), .val (.ref a465), .val (.ref La), .unset] [(.int z452), (.int z450), (.int (if z450 < z452 then (1 : Int32) else (0 : Int32)))] rfl ?_
  have J64 : ∀ (T487 : State), own_S p l e room_1 s m #[(.int i0), (.int i1)] below meth c n0 T487 h471 2 2 → own_Go p e below (own_En s n0 (fun v h => v = some (.int 1)) room_1.cells room_1.slots) T487 (mkF m 64 #[.val (.int i0), .val (.int i1), .val (.int z450), .val (.int z452), .val (.ref a454), .val (.ref a465), .val (.ref La), .val (.int 1)] []) := by
    intro T487 S488
    refine own_seg C S488 [(64, .iload 7, 2)] (by decide +kernel) 66 #[.val (.int i0), .val (.int i1), .val (.int z450), .val (.int z452), .val (.ref a454), .val (.ref a465), .val (.ref La), .val (.int 1)] [(.int 1)] rfl ?_
    refine own_if C S488 (q := .eq) (o := 27) (by decide +kernel) 93 (by decide) (by decide) (fun (hq : (1 : Int32) = (0 : Int32)) => False.elim (by revert hq; decide)) (fun (q489 : ¬ (1 : Int32) = (0 : Int32)) => ?_)
    refine own_seg C S488 [(69, .aload 4, 2), (71, .aload 5, 2)] (by decide +kernel) 73 #[.val (.int i0), .val (.int i1), .val (.int z450), .val (.int z452), .val (.ref a454), .val (.ref a465), .val (.ref La), .val (.int 1)] [(.ref a465), (.ref a454)] rfl ?_
    refine own_callV C S488 (own_wd hw 22 rfl) (own_wd hw 23 rfl) (own_wd hw 25 rfl) (own_wd hw 25 rfl) rfl (own_wd hw 24 rfl) (by decide) (own_Met.pay (own_eq l Z a0 hw a454 a465 _ _ h471 n0 f479 f468 f478 f469) C 0 (own_wd hw 26 rfl) (own_wd hw 3 rfl) (by decide) (by decide)) (fun _ _ _ q => q.2) f486 [(.ref a465)] [] rfl own_pd5 rfl rfl rfl (Nat.le_of_ble_eq_true rfl) (by decide) (by decide) (by decide +kernel) ?_
    rintro T491 h492 v493 L494 S495 ⟨⟨rfl, e490⟩, -⟩
    rw [e490] at S495; clear e490
    show own_Go p e below _ T491 (mkF m 76 #[.val (.int i0), .val (.int i1), .val (.int z450), .val (.int z452), .val (.ref a454), .val (.ref a465), .val (.ref La), .val (.int 1)] [(.int (if z450 = z452 then (1 : Int32) else (0 : Int32)))])
    refine own_seg C S495 [(76, .iload_n 2, 1), (77, .iload_n 3, 1)] (by decide +kernel) 78 #[.val (.int i0), .val (.int i1), .val (.int z450), .val (.int z452), .val (.ref a454), .val (.ref a465), .val (.ref La), .val (.int 1)] [(.int z452), (.int z450), (.int (if z450 = z452 then (1 : Int32) else (0 : Int32)))] rfl ?_
    have J96 : ∀ (T496 : State), own_S p l e room_1 s m #[(.int i0), (.int i1)] below meth c n0 T496 h471 2 2 → own_Go p e below (own_En s n0 (fun v h => v = some (.int 1)) room_1.cells room_1.slots) T496 (mkF m 96 #[.val (.int i0), .val (.int i1), .val (.int z450), .val (.int z452), .val (.ref a454), .val (.ref a465), .val (.ref La), .val (.int 1)] []) := by
      intro T496 S497
      refine own_seg C S497 [(96, .iload 7, 2)] (by decide +kernel) 98 #[.val (.int i0), .val (.int i1), .val (.int z450), .val (.int z452), .val (.ref a454), .val (.ref a465), .val (.ref La), .val (.int 1)] [(.int 1)] rfl ?_
      refine own_if C S497 (q := .eq) (o := 17) (by decide +kernel) 115 (by decide) (by decide) (fun (hq : (1 : Int32) = (0 : Int32)) => False.elim (by revert hq; decide)) (fun (q498 : ¬ (1 : Int32) = (0 : Int32)) => ?_)
      refine own_seg C S497 [(101, .aload 4, 2), (103, .aload 6, 2)] (by decide +kernel) 105 #[.val (.int i0), .val (.int i1), .val (.int z450), .val (.int z452), .val (.ref a454), .val (.ref a465), .val (.ref La), .val (.int 1)] [(.ref La), (.ref a454)] rfl ?_
      have f499 := ((LF.keep K456 nin0).keep K467 nin0)
      refine own_callV C S497 (own_wd hw 17 rfl) (own_wd hw 18 rfl) (own_wd hw 20 rfl) (own_wd hw 20 rfl) rfl (own_wd hw 19 rfl) (by decide) (own_Met.pay (own_ib l Z a0 hw a454 La _ _ h471 n0 f479 f478 f499) C 0 (own_wd hw 21 rfl) (own_wd hw 3 rfl) (by decide) (by decide)) (fun _ _ _ q => q.2) f486 [(.ref La)] [] rfl own_pd11 rfl rfl rfl (Nat.le_of_ble_eq_true rfl) (by decide) (by decide) (by decide +kernel) ?_
      rintro T501 h502 v503 L504 S505 ⟨⟨rfl, e500⟩, -⟩
      rw [e500] at S505; clear e500
      show own_Go p e below _ T501 (mkF m 108 #[.val (.int i0), .val (.int i1), .val (.int z450), .val (.int z452), .val (.ref a454), .val (.ref a465), .val (.ref La), .val (.int 1)] [(.int (if z450 < (29 : Int32) then (1 : Int32) else (0 : Int32)))])
      rw [show (if z450 < (29 : Int32) then (1 : Int32) else (0 : Int32)) = (1 : Int32) from if_pos (own_w10 hb451)]
      refine own_if C S505 (q := .eq) (o := 7) (by decide +kernel) 115 (by decide) (by decide) (fun (hq : (1 : Int32) = (0 : Int32)) => False.elim (by revert hq; decide)) (fun (q506 : ¬ (1 : Int32) = (0 : Int32)) => ?_)
      refine own_seg C S505 [(111, .iconst 1, 1), (112, .goto 4, 3), (116, .istore 7, 2), (118, .iload 7, 2)] (by decide +kernel) 120 #[.val (.int i0), .val (.int i1), .val (.int z450), .val (.int z452), .val (.ref a454), .val (.ref a465), .val (.ref La), .val (.int 1)] [(.int 1)] rfl ?_
      refine own_if C S505 (q := .eq) (o := 17) (by decide +kernel) 137 (by decide) (by decide) (fun (hq : (1 : Int32) = (0 : Int32)) => False.elim (by revert hq; decide)) (fun (q507 : ¬ (1 : Int32) = (0 : Int32)) => ?_)
      refine own_seg C S505 [(123, .aload 6, 2), (125, .aload 4, 2)] (by decide +kernel) 127 #[.val (.int i0), .val (.int i1), .val (.int z450), .val (.int z452), .val (.ref a454), .val (.ref a465), .val (.ref La), .val (.int 1)] [(.ref a454), (.ref La)] rfl ?_
      have f514 := ((LE.keep K456).keep K467)
      refine own_callV C S505 (own_wd hw 17 rfl) (own_wd hw 18 rfl) (own_wd hw 20 rfl) (own_wd hw 20 rfl) rfl (own_wd hw 19 rfl) (by decide) (own_Met.pay (own_ib l Z a0 hw La a454 _ _ h471 n0 f479 f499 f478) C 0 (own_wd hw 21 rfl) (own_wd hw 3 rfl) (by decide) (by decide)) (fun _ _ _ q => q.2) f514 [(.ref a454)] [] rfl own_pd11 rfl rfl rfl (Nat.le_of_ble_eq_true rfl) (by decide) (by decide) (by decide +kernel) ?_
      rintro T509 h510 v511 L512 S513 ⟨⟨rfl, e508⟩, -⟩
      rw [e508] at S513; clear e508
      show own_Go p e below _ T509 (mkF m 130 #[.val (.int i0), .val (.int i1), .val (.int z450), .val (.int z452), .val (.ref a454), .val (.ref a465), .val (.ref La), .val (.int 1)] [(.int (if (29 : Int32) < z450 then (1 : Int32) else (0 : Int32)))])
      rw [show (if (29 : Int32) < z450 then (1 : Int32) else (0 : Int32)) = (0 : Int32) from if_neg (own_w11 hb451)]
      refine own_if C S513 (q := .ne) (o := 7) (by decide +kernel) 137 (by decide) (by decide) (fun (hq : ¬ (0 : Int32) = (0 : Int32)) => False.elim (by revert hq; decide)) (fun (q515 : (0 : Int32) = (0 : Int32)) => ?_)
      refine own_seg C S513 [(133, .iconst 1, 1), (134, .goto 4, 3), (138, .istore 7, 2), (140, .iload 7, 2)] (by decide +kernel) 142 #[.val (.int i0), .val (.int i1), .val (.int z450), .val (.int z452), .val (.ref a454), .val (.ref a465), .val (.ref La), .val (.int 1)] [(.int 1)] rfl ?_
      refine own_if C S513 (q := .eq) (o := 17) (by decide +kernel) 159 (by decide) (by decide) (fun (hq : (1 : Int32) = (0 : Int32)) => False.elim (by revert hq; decide)) (fun (q516 : ¬ (1 : Int32) = (0 : Int32)) => ?_)
      refine own_seg C S513 [(145, .aload 4, 2), (147, .aload 6, 2)] (by decide +kernel) 149 #[.val (.int i0), .val (.int i1), .val (.int z450), .val (.int z452), .val (.ref a454), .val (.ref a465), .val (.ref La), .val (.int 1)] [(.ref La), (.ref a454)] rfl ?_
      refine own_callV C S513 (own_wd hw 22 rfl) (own_wd hw 23 rfl) (own_wd hw 25 rfl) (own_wd hw 25 rfl) rfl (own_wd hw 24 rfl) (by decide) (own_Met.pay (own_eq l Z a0 hw a454 La _ _ h471 n0 f479 f514 f478 f499) C 0 (own_wd hw 26 rfl) (own_wd hw 3 rfl) (by decide) (by decide)) (fun _ _ _ q => q.2) f486 [(.ref La)] [] rfl own_pd5 rfl rfl rfl (Nat.le_of_ble_eq_true rfl) (by decide) (by decide) (by decide +kernel) ?_
      rintro T518 h519 v520 L521 S522 ⟨⟨rfl, e517⟩, -⟩
      rw [e517] at S522; clear e517
      show own_Go p e below _ T518 (mkF m 152 #[.val (.int i0), .val (.int i1), .val (.int z450), .val (.int z452), .val (.ref a454), .val (.ref a465), .val (.ref La), .val (.int 1)] [(.int (if z450 = (29 : Int32) then (1 : Int32) else (0 : Int32)))])
      rw [show (if z450 = (29 : Int32) then (1 : Int32) else (0 : Int32)) = (0 : Int32) from if_neg (own_w9 hb451)]
      refine own_if C S522 (q := .ne) (o := 7) (by decide +kernel) 159 (by decide) (by decide) (fun (hq : ¬ (0 : Int32) = (0 : Int32)) => False.elim (by revert hq; decide)) (fun (q523 : (0 : Int32) = (0 : Int32)) => ?_)
      refine own_seg C S522 [(155, .iconst 1, 1), (156, .goto 4, 3), (160, .istore 7, 2), (162, .iload 7, 2)] (by decide +kernel) 164 #[.val (.int i0), .val (.int i1), .val (.int z450), .val (.int z452), .val (.ref a454), .val (.ref a465), .val (.ref La), .val (.int 1)] [(.int 1)] rfl ?_
      refine own_if C S522 (q := .eq) (o := 22) (by decide +kernel) 186 (by decide) (by decide) (fun (hq : (1 : Int32) = (0 : Int32)) => False.elim (by revert hq; decide)) (fun (q524 : ¬ (1 : Int32) = (0 : Int32)) => ?_)
      by_cases hl : z450 < (10 : Int32)
      · refine own_seg C S522 [(167, .aload 4, 2)] (by decide +kernel) 169 #[.val (.int i0), .val (.int i1), .val (.int z450), .val (.int z452), .val (.ref a454), .val (.ref a465), .val (.ref La), .val (.int 1)] [(.ref a454)] rfl ?_
        have f525 := ((K1.keep K456 nin0).keep K467 nin0)
        have f526 := ((K2.keep K456 nin0).keep K467 nin0)
        refine own_callV C S522 (own_wd hw 28 rfl) (own_wd hw 29 rfl) (own_wd hw 31 rfl) (own_wd hw 31 rfl) rfl (own_wd hw 30 rfl) (by decide) (own_Met.pay (own_dt0 l Z a0 hw G1 G3 La D1 D1k D2 D2k a454 _ h471 n0 f479 f475 f514 f499 f525 f526 f486 f478 O2 O4 P5 rG3 OL O1 OT Lalt D1lt D2lt hb451 hl) C 0 (own_wd hw 32 rfl) (own_wd hw 3 rfl) (by decide) (by decide)) (fun _ _ _ q => q.2) f486 [] [] rfl own_pd12 rfl rfl rfl (Nat.le_of_ble_eq_true rfl) (by decide) (by decide) (by decide +kernel) ?_
        rintro T536 h537 v538 L539 S540 ⟨⟨a527, a528, k529, rfl, g530, K531, f532, f533, f534, f535⟩, -⟩
        show own_Go p e below _ T536 (mkF m 172 #[.val (.int i0), .val (.int i1), .val (.int z450), .val (.int z452), .val (.ref a454), .val (.ref a465), .val (.ref La), .val (.int 1)] [(.ref a527)])
        have hp541 : ∀ c ∈ ([((48 : Int32) + (z450 % (10 : Int32)))] : List Int32), ¬ c < 0 ∧ ¬ (255 : Int32) < c := by
          intro c hc; simp only [List.mem_cons, List.not_mem_nil, or_false] at hc
          rcases hc with rfl
          · exact own_y6 hb451
        have hcd542 : StrChars.Road.CodA ([((48 : Int32) + (z450 % (10 : Int32)))] : List Int32) 0 (1 : Int32) [(.int ((48 : Int32) + (z450 % (10 : Int32))).toInt8.toInt32)] := StrChars.Road.codOf (cs := ([((48 : Int32) + (z450 % (10 : Int32)))] : List Int32)) (n := 1) rfl (fun c hc => (hp541 c hc).2)
        refine own_seg C S540 [(172, .iload_n 2, 1)] (by decide +kernel) 173 #[.val (.int i0), .val (.int i1), .val (.int z450), .val (.int z452), .val (.ref a454), .val (.ref a465), .val (.ref La), .val (.int 1)] [(.int z450), (.ref a527)] rfl ?_
        have f543 := (f475.keep K531 all0)
        have f544 := (f514.keep K531)
        have f545 := (f499.keep K531 nin0)
        have f546 := (f525.keep K531 nin0)
        have f547 := (f526.keep K531 nin0)
        have f548 : n0 ≤ h537.size := (Nat.le_trans f479 K531.1)
        refine own_callS C S540 (own_wd hw 63 rfl) (own_wd hw 64 rfl) (own_wd hw 65 rfl) (own_wd hw 66 rfl) (by decide) (own_Met.pay (own_xp0 l Z a0 hw G1 G3 La D1 D1k D2 D2k z450 h537 n0 f548 f543 f544 f545 f546 f547 O2 O4 P5 rG3 OL O1 OT Lalt D1lt D2lt hb451 hl) C 1 (own_wd hw 66 rfl) (own_wd hw 65 rfl) (by decide) (by decide)) (fun _ _ _ q => q.2) [(.int z450)] [(.ref a527)] rfl own_pd4 rfl rfl rfl (Nat.le_of_ble_eq_true rfl) (by decide) (by decide) (by decide +kernel) ?_
        rintro T558 h559 v560 L561 S562 ⟨⟨a549, a550, k551, rfl, g552, K553, f554, f555, f556, f557⟩, -⟩
        show own_Go p e below _ T558 (mkF m 176 #[.val (.int i0), .val (.int i1), .val (.int z450), .val (.int z452), .val (.ref a454), .val (.ref a465), .val (.ref La), .val (.int 1)] [(.ref a549), (.ref a527)])
        have hp563 : ∀ c ∈ ([((48 : Int32) + z450)] : List Int32), ¬ c < 0 ∧ ¬ (255 : Int32) < c := by
          intro c hc; simp only [List.mem_cons, List.not_mem_nil, or_false] at hc
          rcases hc with rfl
          · exact own_y3r hb451
        have hcd564 : StrChars.Road.CodA ([((48 : Int32) + z450)] : List Int32) 0 (1 : Int32) [(.int ((48 : Int32) + z450).toInt8.toInt32)] := StrChars.Road.codOf (cs := ([((48 : Int32) + z450)] : List Int32)) (n := 1) rfl (fun c hc => (hp563 c hc).2)
        have f565 := (f532.keep K553)
        have f566 := (f533.keep K553 nin0)
        have f567 := (f534.keep K553 nin0)
        have f568 := (f535.keep K553 nin0)
        have f569 := (f543.keep K553 all0)
        refine own_callV C S562 (own_wd hw 80 rfl) (own_wd hw 81 rfl) (own_wd hw 83 rfl) (own_wd hw 83 rfl) rfl (own_wd hw 82 rfl) (by decide) (Q := (fun v h' L => ((v = some (.int 1) ∧ ([((48 : Int32) + (z450 % (10 : Int32)))] : List Int32) = ([((48 : Int32) + z450)] : List Int32)) ∨ (v = some (.int 0) ∧ ¬ ([((48 : Int32) + (z450 % (10 : Int32)))] : List Int32) = ([((48 : Int32) + z450)] : List Int32))) ∧ L = [] ∧ h' = h559)) (StrChars.Road.eqW (W := 0) C.2.2.2.2.2.2.2 (fun d hd => hw d (own_heq d hd)) (kI := 4) (own_wd hw 53 rfl) f565 f566 f567 f568 hcd542 (own_up _ hp541) (Nat.le_of_ble_eq_true rfl) f554 f555 f556 f557 hcd564 (own_up _ hp563) (Nat.le_of_ble_eq_true rfl) (O2.ext f569.2) P5 (by decide) (by decide)) (fun _ _ L q => by rw [q.2.1]; exact Fr.nil _) f565 [(.ref a549)] [] rfl own_pd5 rfl rfl rfl (Nat.le_of_ble_eq_true rfl) (by decide) (by decide) (by decide +kernel) ?_
        rintro T574 h575 v576 L577 S578 ⟨d573, -, e570⟩
        rw [e570] at S578; clear e570
        rcases d573 with ⟨rfl, q571⟩ | ⟨rfl, q572⟩
        · refine own_if C S578 (q := .eq) (o := 7) (by decide +kernel) 186 (by decide) (by decide) (fun (hq : (1 : Int32) = (0 : Int32)) => False.elim (by revert hq; decide)) (fun (q579 : ¬ (1 : Int32) = (0 : Int32)) => ?_)
          refine own_seg C S578 [(182, .iconst 1, 1), (183, .goto 4, 3), (187, .istore 7, 2), (189, .iload 7, 2)] (by decide +kernel) 191 #[.val (.int i0), .val (.int i1), .val (.int z450), .val (.int z452), .val (.ref a454), .val (.ref a465), .val (.ref La), .val (.int 1)] [(.int 1)] rfl ?_
          refine own_retZ C S578 (by decide +kernel) (by decide) (by decide) (by decide) ?_
          rfl
        · exact absurd (own_y5 hb451 hl) q572
      · refine own_seg C S522 [(167, .aload 4, 2)] (by decide +kernel) 169 #[.val (.int i0), .val (.int i1), .val (.int z450), .val (.int z452), .val (.ref a454), .val (.ref a465), .val (.ref La), .val (.int 1)] [(.ref a454)] rfl ?_
        have f580 := ((K1.keep K456 nin0).keep K467 nin0)
        have f581 := ((K2.keep K456 nin0).keep K467 nin0)
        refine own_callV C S522 (own_wd hw 28 rfl) (own_wd hw 29 rfl) (own_wd hw 31 rfl) (own_wd hw 31 rfl) rfl (own_wd hw 30 rfl) (by decide) (own_Met.pay (own_dt1 l Z a0 hw G1 G3 La D1 D1k D2 D2k a454 _ h471 n0 f479 f475 f514 f499 f580 f581 f486 f478 O2 O4 P5 rG3 OL O1 OT Lalt D1lt D2lt hb451 hl) C 0 (own_wd hw 32 rfl) (own_wd hw 3 rfl) (by decide) (by decide)) (fun _ _ _ q => q.2) f486 [] [] rfl own_pd12 rfl rfl rfl (Nat.le_of_ble_eq_true rfl) (by decide) (by decide) (by decide +kernel) ?_
        rintro T591 h592 v593 L594 S595 ⟨⟨a582, a583, k584, rfl, g585, K586, f587, f588, f589, f590⟩, -⟩
        show own_Go p e below _ T591 (mkF m 172 #[.val (.int i0), .val (.int i1), .val (.int z450), .val (.int z452), .val (.ref a454), .val (.ref a465), .val (.ref La), .val (.int 1)] [(.ref a582)])
        have hp596 : ∀ c ∈ ([((48 : Int32) + (z450 / (10 : Int32))), ((48 : Int32) + (z450 % (10 : Int32)))] : List Int32), ¬ c < 0 ∧ ¬ (255 : Int32) < c := by
          intro c hc; simp only [List.mem_cons, List.not_mem_nil, or_false] at hc
          rcases hc with rfl | rfl
          · exact own_y6t hb451
          · exact own_y6 hb451
        have hcd597 : StrChars.Road.CodA ([((48 : Int32) + (z450 / (10 : Int32))), ((48 : Int32) + (z450 % (10 : Int32)))] : List Int32) 0 (2 : Int32) [(.int ((48 : Int32) + (z450 / (10 : Int32))).toInt8.toInt32), (.int ((48 : Int32) + (z450 % (10 : Int32))).toInt8.toInt32)] := StrChars.Road.codOf (cs := ([((48 : Int32) + (z450 / (10 : Int32))), ((48 : Int32) + (z450 % (10 : Int32)))] : List Int32)) (n := 2) rfl (fun c hc => (hp596 c hc).2)
        refine own_seg C S595 [(172, .iload_n 2, 1)] (by decide +kernel) 173 #[.val (.int i0), .val (.int i1), .val (.int z450), .val (.int z452), .val (.ref a454), .val (.ref a465), .val (.ref La), .val (.int 1)] [(.int z450), (.ref a582)] rfl ?_
        have f598 := (f475.keep K586 all0)
        have f599 := (f514.keep K586)
        have f600 := (f499.keep K586 nin0)
        have f601 := (f580.keep K586 nin0)
        have f602 := (f581.keep K586 nin0)
        have f603 : n0 ≤ h592.size := (Nat.le_trans f479 K586.1)
        refine own_callS C S595 (own_wd hw 63 rfl) (own_wd hw 64 rfl) (own_wd hw 65 rfl) (own_wd hw 66 rfl) (by decide) (own_Met.pay (own_xp1 l Z a0 hw G1 G3 La D1 D1k D2 D2k z450 h592 n0 f603 f598 f599 f600 f601 f602 O2 O4 P5 rG3 OL O1 OT Lalt D1lt D2lt hb451 hl) C 1 (own_wd hw 66 rfl) (own_wd hw 65 rfl) (by decide) (by decide)) (fun _ _ _ q => q.2) [(.int z450)] [(.ref a582)] rfl own_pd4 rfl rfl rfl (Nat.le_of_ble_eq_true rfl) (by decide) (by decide) (by decide +kernel) ?_
        rintro T613 h614 v615 L616 S617 ⟨⟨a604, a605, k606, rfl, g607, K608, f609, f610, f611, f612⟩, -⟩
        show own_Go p e below _ T613 (mkF m 176 #[.val (.int i0), .val (.int i1), .val (.int z450), .val (.int z452), .val (.ref a454), .val (.ref a465), .val (.ref La), .val (.int 1)] [(.ref a604), (.ref a582)])
        have hp618 : ∀ c ∈ ([((48 : Int32) + (z450 / (10 : Int32))), ((48 : Int32) + (z450 % (10 : Int32)))] : List Int32), ¬ c < 0 ∧ ¬ (255 : Int32) < c := by
          intro c hc; simp only [List.mem_cons, List.not_mem_nil, or_false] at hc
          rcases hc with rfl | rfl
          · exact own_y6t hb451
          · exact own_y6 hb451
        have hcd619 : StrChars.Road.CodA ([((48 : Int32) + (z450 / (10 : Int32))), ((48 : Int32) + (z450 % (10 : Int32)))] : List Int32) 0 (2 : Int32) [(.int ((48 : Int32) + (z450 / (10 : Int32))).toInt8.toInt32), (.int ((48 : Int32) + (z450 % (10 : Int32))).toInt8.toInt32)] := StrChars.Road.codOf (cs := ([((48 : Int32) + (z450 / (10 : Int32))), ((48 : Int32) + (z450 % (10 : Int32)))] : List Int32)) (n := 2) rfl (fun c hc => (hp618 c hc).2)
        have f620 := (f587.keep K608)
        have f621 := (f588.keep K608 nin0)
        have f622 := (f589.keep K608 nin0)
        have f623 := (f590.keep K608 nin0)
        have f624 := (f598.keep K608 all0)
        refine own_callV C S617 (own_wd hw 80 rfl) (own_wd hw 81 rfl) (own_wd hw 83 rfl) (own_wd hw 83 rfl) rfl (own_wd hw 82 rfl) (by decide) (Q := (fun v h' L => ((v = some (.int 1) ∧ ([((48 : Int32) + (z450 / (10 : Int32))), ((48 : Int32) + (z450 % (10 : Int32)))] : List Int32) = ([((48 : Int32) + (z450 / (10 : Int32))), ((48 : Int32) + (z450 % (10 : Int32)))] : List Int32)) ∨ (v = some (.int 0) ∧ ¬ ([((48 : Int32) + (z450 / (10 : Int32))), ((48 : Int32) + (z450 % (10 : Int32)))] : List Int32) = ([((48 : Int32) + (z450 / (10 : Int32))), ((48 : Int32) + (z450 % (10 : Int32)))] : List Int32))) ∧ L = [] ∧ h' = h614)) (StrChars.Road.eqW (W := 0) C.2.2.2.2.2.2.2 (fun d hd => hw d (own_heq d hd)) (kI := 4) (own_wd hw 53 rfl) f620 f621 f622 f623 hcd597 (own_up _ hp596) (Nat.le_of_ble_eq_true rfl) f609 f610 f611 f612 hcd619 (own_up _ hp618) (Nat.le_of_ble_eq_true rfl) (O2.ext f624.2) P5 (by decide) (by decide)) (fun _ _ L q => by rw [q.2.1]; exact Fr.nil _) f620 [(.ref a604)] [] rfl own_pd5 rfl rfl rfl (Nat.le_of_ble_eq_true rfl) (by decide) (by decide) (by decide +kernel) ?_
        rintro T629 h630 v631 L632 S633 ⟨d628, -, e625⟩
        rw [e625] at S633; clear e625
        rcases d628 with ⟨rfl, q626⟩ | ⟨rfl, q627⟩
        · refine own_if C S633 (q := .eq) (o := 7) (by decide +kernel) 186 (by decide) (by decide) (fun (hq : (1 : Int32) = (0 : Int32)) => False.elim (by revert hq; decide)) (fun (q634 : ¬ (1 : Int32) = (0 : Int32)) => ?_)
          refine own_seg C S633 [(182, .iconst 1, 1), (183, .goto 4, 3), (187, .istore 7, 2), (189, .iload 7, 2)] (by decide +kernel) 191 #[.val (.int i0), .val (.int i1), .val (.int z450), .val (.int z452), .val (.ref a454), .val (.ref a465), .val (.ref La), .val (.int 1)] [(.int 1)] rfl ?_
          refine own_retZ C S633 (by decide +kernel) (by decide) (by decide) (by decide) ?_
          rfl
        · exact absurd rfl q627
    refine own_icmp C S495 (q := .ne) (o := 7) (by decide +kernel) 85 (by decide) (by decide) (fun (q635 : ¬ z450 = z452) => ?_) (fun (q636 : z450 = z452) => ?_)
    · refine own_seg C S495 [(85, .iconst 0, 1)] (by decide +kernel) 86 #[.val (.int i0), .val (.int i1), .val (.int z450), .val (.int z452), .val (.ref a454), .val (.ref a465), .val (.ref La), .val (.int 1)] [(.int 0), (.int (if z450 = z452 then (1 : Int32) else (0 : Int32)))] rfl ?_
      refine own_icmp C S495 (q := .ne) (o := 7) (by decide +kernel) 93 (by decide) (by decide) (fun (hq : ¬ (if z450 = z452 then (1 : Int32) else (0 : Int32)) = (0 : Int32)) => False.elim (hq (if_neg q635))) (fun (q637 : (if z450 = z452 then (1 : Int32) else (0 : Int32)) = (0 : Int32)) => ?_)
      refine own_seg C S495 [(89, .iconst 1, 1), (90, .goto 4, 3), (94, .istore 7, 2)] (by decide +kernel) 96 #[.val (.int i0), .val (.int i1), .val (.int z450), .val (.int z452), .val (.ref a454), .val (.ref a465), .val (.ref La), .val (.int 1)] [] rfl ?_
      exact J96 T491 S495
    · refine own_seg C S495 [(81, .iconst 1, 1), (82, .goto 4, 3)] (by decide +kernel) 86 #[.val (.int i0), .val (.int i1), .val (.int z450), .val (.int z452), .val (.ref a454), .val (.ref a465), .val (.ref La), .val (.int 1)] [(.int 1), (.int (if z450 = z452 then (1 : Int32) else (0 : Int32)))] rfl ?_
      refine own_icmp C S495 (q := .ne) (o := 7) (by decide +kernel) 93 (by decide) (by decide) (fun (hq : ¬ (if z450 = z452 then (1 : Int32) else (0 : Int32)) = (1 : Int32)) => False.elim (hq (if_pos q636))) (fun (q638 : (if z450 = z452 then (1 : Int32) else (0 : Int32)) = (1 : Int32)) => ?_)
      refine own_seg C S495 [(89, .iconst 1, 1), (90, .goto 4, 3), (94, .istore 7, 2)] (by decide +kernel) 96 #[.val (.int i0), .val (.int i1), .val (.int z450), .val (.int z452), .val (.ref a454), .val (.ref a465), .val (.ref La), .val (.int 1)] [] rfl ?_
      exact J96 T491 S495
  refine own_icmp C S485 (q := .ge) (o := 7) (by decide +kernel) 53 (by decide) (by decide) (fun (q639 : ¬ z450 < z452) => ?_) (fun (q640 : z450 < z452) => ?_)
  · refine own_seg C S485 [(53, .iconst 0, 1)] (by decide +kernel) 54 #[.val (.int i0), .val (.int i1), .val (.int z450), .val (.int z452), .val (.ref a454), .val (.ref a465), .val (.ref La), .unset] [(.int 0), (.int (if z450 < z452 then (1 : Int32) else (0 : Int32)))] rfl ?_
    refine own_icmp C S485 (q := .ne) (o := 7) (by decide +kernel) 61 (by decide) (by decide) (fun (hq : ¬ (if z450 < z452 then (1 : Int32) else (0 : Int32)) = (0 : Int32)) => False.elim (hq (if_neg q639))) (fun (q641 : (if z450 < z452 then (1 : Int32) else (0 : Int32)) = (0 : Int32)) => ?_)
    refine own_seg C S485 [(57, .iconst 1, 1), (58, .goto 4, 3), (62, .istore 7, 2)] (by decide +kernel) 64 #[.val (.int i0), .val (.int i1), .val (.int z450), .val (.int z452), .val (.ref a454), .val (.ref a465), .val (.ref La), .val (.int 1)] [] rfl ?_
    exact J64 T481 S485
  · refine own_seg C S485 [(49, .iconst 1, 1), (50, .goto 4, 3)] (by decide +kernel) 54 #[.val (.int i0), .val (.int i1), .val (.int z450), .val (.int z452), .val (.ref a454), .val (.ref a465), .val (.ref La), .unset] [(.int 1), (.int (if z450 < z452 then (1 : Int32) else (0 : Int32)))] rfl ?_
    refine own_icmp C S485 (q := .ne) (o := 7) (by decide +kernel) 61 (by decide) (by decide) (fun (hq : ¬ (if z450 < z452 then (1 : Int32) else (0 : Int32)) = (1 : Int32)) => False.elim (hq (if_pos q640))) (fun (q642 : (if z450 < z452 then (1 : Int32) else (0 : Int32)) = (1 : Int32)) => ?_)
    refine own_seg C S485 [(57, .iconst 1, 1), (58, .goto 4, 3), (62, .istore 7, 2)] (by decide +kernel) 64 #[.val (.int i0), .val (.int i1), .val (.int z450), .val (.int z452), .val (.ref a454), .val (.ref a465), .val (.ref La), .val (.int 1)] [] rfl ?_
    exact J64 T481 S485
theorem comes_1 {Post : Tables → Env → Array Value → State → Outcome → State → Prop} (hpost : ∀ tb e args s v u, (limb_1_1.after args s (.returned v) u = true ∧ limb_1_2.after args s (.returned v) u = true ∧ True) → FrameEnd s (.returned v) u (Jvm.fieldLocs frame_1_writes args s ++ Jvm.arrayLocs frame_1_arrays args s ++ Jvm.staticLocs frame_1_statics s) 24 128 → Post tb e args s (.returned v) u) :
    ArmFor flags0 classFile x code maxLocals ret World_1 tables_1 room_1 Calls_1 rest_1 Pre_1 Post := by
  intro l hfl _ _ p e ha hc hk s m args below hf hA hF happ hP
  obtain ⟨hcalls, hrest, hpre⟩ := hP
  obtain ⟨-, -, -, hnamed, -, -, -, hat⟩ := (Spec.applies_iff hf).mp happ
  obtain ⟨hg, hn⟩ := and_e (Cond.before_iff.mp (show (Jvm.Cond.and given_1 narrow_1).before args s = true from hpre))
  obtain ⟨hcount, hk0⟩ := and_e hg
  obtain ⟨ha0, hk1⟩ := and_e hk0
  obtain ⟨w0, w1, rfl⟩ : ∃ w0 w1 : Value, args = #[w0, w1] := by
    have hs : args.size = 2 := by simpa [Cond.value, given_1] using hcount
    obtain ⟨L⟩ := args
    match L, hs with
    | [w0, w1], _ => exact ⟨w0, w1, rfl⟩
  have hw := fun d (hd : d ∈ tables_1) => atoms_spec (ws := Jvm.Cond.code x code maxLocals ret :: tables_1) hat d (List.mem_cons_of_mem _ hd)
  obtain ⟨i0, ei0⟩ := is_v ha0
  obtain rfl : w0 = (.int i0) := Option.some.inj ei0
  obtain ⟨i1, ei1⟩ := is_v hk1
  obtain rfl : w1 = (.int i1) := Option.some.inj ei1
  obtain ⟨hsets, hown0⟩ := atoms_of _ (rest_1_c_eq ▸ (show rest_1_c.before _ s = true from hrest))
  have nz := not_v (Cond.before_iff.mp (hsets _ (List.mem_of_getElem? (i := 2) rfl)))
  obtain ⟨g1, eg1⟩ := is_v (Cond.before_iff.mp (hsets _ (List.mem_of_getElem? (i := 1) rfl)))
  have O2 : Sta s s.heap "java/lang/String" "COMPACT_STRINGS" "Z" (.int g1) := Sta.start eg1 (Or.inl (hsets _ (List.mem_of_getElem? (i := 0) rfl)))
  obtain ⟨g3, eg3, rg3⟩ := isR_v (Cond.before_iff.mp (hsets _ (List.mem_of_getElem? (i := 8) rfl)))
  have O4 : Sta s s.heap "jdk/internal/util/Preconditions" "SIOOBE_FORMATTER" "Ljava/util/function/BiFunction;" g3 := Sta.start eg3 (Or.inl (hsets _ (List.mem_of_getElem? (i := 7) rfl)))
  have P5 : ¬ (g1 = (0 : Int32)) := gotF (Cond.eq_ints eg1 (Term.int_eval (0))) nz
  have hn2 := and_e hn
  obtain ⟨La, eLa⟩ := exa_v hn2.1
  have OL := Sta.start eLa (Or.inr ⟨(own_wd hw 3 rfl), (own_wd hw 16 rfl)⟩)
  have LE := Exa.start eLa hn2.1
  have LF := own_fst eLa (Cond.before_iff.mpr hn2.2) (Term.int_eval 29)
  obtain ⟨D1, D1k, eD1, K1, D1lt⟩ := own_TE own_DOi rfl (fun _ => rfl) (hsets _ (List.mem_of_getElem? (i := 12) rfl)) (own_wd hw 47 rfl) (hsets _ (List.mem_of_getElem? (i := 13) rfl)) (hsets _ (List.mem_of_getElem? (i := 14) rfl)) (fun i hi => by rw [own_gO i hi]; rfl) own_fO
  have O1 := Sta.start eD1 (Or.inl (hsets _ (List.mem_of_getElem? (i := 11) rfl)))
  obtain ⟨D2, D2k, eD2, K2, D2lt⟩ := own_TE own_DTi rfl (fun _ => rfl) (hsets _ (List.mem_of_getElem? (i := 17) rfl)) (own_wd hw 47 rfl) (hsets _ (List.mem_of_getElem? (i := 18) rfl)) (hsets _ (List.mem_of_getElem? (i := 19) rfl)) (fun i hi => by rw [own_gT i hi]; rfl) own_fT
  have OT := Sta.start eD2 (Or.inl (hsets _ (List.mem_of_getElem? (i := 16) rfl)))
  obtain ⟨n, o, g1, g2, g3, _, L, rfl, ⟨rfl, N⟩, hq⟩ := own_law l s _ hw i0 i1 g1 g3 La D1 D1k D2 D2k s.heap s.heap.size (Nat.le_refl _) (Old.start s) LE LF K1 K2 O2 O4 P5 rg3 OL O1 OT LE.lt D1lt D2lt tables_1 p e ha hc hk s m _ below hf ((Spec.applies_iff_loose hf).mp happ).1 ⟨rfl, State.Warmed39.refl s, rfl⟩ trivial
  refine ⟨n, _, g1, g2, g3, hpost _ _ _ _ _ _ ⟨Cond.after_iff.mpr rfl, Cond.after_iff.mpr (eq_i res_at (Term.int_eval (1)) rfl), trivial⟩ ⟨hq.1, hq.2.1, (hq.2.2.sift fun y hy => Or.inr (N y hy)).mono (by decide) (by decide)⟩⟩
theorem main_1_1 : Claimed_1_1 := comes_1 fun _ _ _ _ _ _ h hF => ⟨h.1, hF⟩
theorem main_1_2 : Claimed_1_2 := comes_1 fun _ _ _ _ _ _ h hF => ⟨h.2.1, hF⟩
end Jvm.Pilot.@@N@@
namespace Jvm.Pilot.@@N@@
open Jvm Jvm.ClassFile Sem Op Lib Jvm.Free Jvm.Stand Jvm.Pilot.@@N@@.Jvm.D
/-! MADE BY PROGRAM (witnessworld.py) out of the Statement's table words and the real class files: 22 classes; the members and pool entries that the words name. The judged class is class 1, her method 2. -/
namespace start1
open Jvm.ClassFile
def u (s : String) : CpInfo := .utf8 (stringToUtf16 s)
/-- a pool by its gaps: so many unusable entries, then the entry; so many at the end -/
def gap : Nat → List CpInfo → List CpInfo
  | 0, r => r
  | n + 1, r => .unusable :: gap n r
def poolList (es : List (Nat × CpInfo)) (last : Nat) : List CpInfo := es.foldr (fun e r => gap e.1 (e.2 :: r)) (gap last [])
def pool (es : List (Nat × CpInfo)) (last : Nat) : Array CpInfo := ⟨poolList es last⟩
def fileOf (pool : Array CpInfo) (this : Nat) (attrs : Array Attribute := #[]) (ms : Array MethodInfo := #[]) (fl : Nat := 33) (sup : Nat := 0) (ifs : Array Nat := #[]) (fds : Array FieldInfo := #[]) : ClassFile where
  minorVersion := 0
  majorVersion := 65
  constantPool := pool
  accessFlags := fl
  thisClass := this
  superClass := sup
  interfaces := ifs
  fields := fds
  methods := ms
  attributes := attrs
def plain (name : String) (sup : Option ClassId) : Class where
  name := name
  kind := .ordinary
  loader := none
  accessFlags := 33
  super := sup
  interfaces := #[]
  cf := none
  fields := #[]
  methods := #[]
  instanceTypes := #[]
  staticTypes := #[]
  resolved := #[]
  callSites := []
  init := .initialized
  statics := none
  mirror := none

def pool0 : Array CpInfo := pool [(5, u "<init>"), (0, u "()V"), (1, .class_ 10), (1, u "java/lang/Object")] 113

def k0c0 : Code := { maxStack := 0, maxLocals := 1, code := object_method_1_code, exceptionTable := #[], attributes := #[] }
def k0m0 : Method := { name := "<init>", desc := "()V", sig := { parameters := [], returnType := none }, accessFlags := 1, code := some k0c0 }
/-- java/lang/Object -/
def k0 : Class := { plain "java/lang/Object" none with
  accessFlags := 33
  interfaces := #[]
  cf := some (fileOf pool0 8 #[] #[{ accessFlags := 1, nameIndex := 5, descriptorIndex := 6, attributes := #[] }] 33 0 #[] #[])
  fields := #[]
  methods := #[k0m0]
  instanceTypes := #[]
  staticTypes := #[]
  resolved := Array.replicate 124 none
  statics := none }

def pool1 : Array CpInfo := pool [(2, .class_ 4), (1, u "java/lang/Object"), (0, u "<init>"), (0, u "()V"), (0, .methodref 8 9), (0, .class_ 10), (0, .nameAndType 11 12), (0, u "java/lang/String"), (0, u "valueOf"), (0, u "(C)Ljava/lang/String;"), (0, .methodref 8 14), (0, .nameAndType 5 15), (0, u "([C)V"), (0, .integer 2147483647), (0, .methodref 18 19), (0, .class_ 20), (0, .nameAndType 21 22), (0, u "com/example/reckoner/reckoner/model/DayOfMonth"), (0, u "numbered"), (0, u "(I)Lcom/example/reckoner/reckoner/model/DayOfMonth;"), (0, .fieldref 18 24), (0, .nameAndType 25 26), (0, u "LAST"), (0, u "Lcom/example/reckoner/reckoner/model/DayOfMonth;"), (0, .methodref 18 28), (0, .nameAndType 29 30), (0, u "isBefore"), (0, u "(Lcom/example/reckoner/reckoner/model/DayOfMonth;)Z"), (0, .methodref 18 32), (0, .nameAndType 33 34), (0, u "equals"), (0, u "(Ljava/lang/Object;)Z"), (0, .methodref 18 36), (0, .nameAndType 37 38), (0, u "toString"), (0, u "()Ljava/lang/String;"), (0, .methodref 40 41), (0, .class_ 42), (0, .nameAndType 43 44), (0, u "com/example/reckoner/reckoner/model/DayOfMonthNumberedPinLaw"), (0, u "expected"), (0, u "(I)Ljava/lang/String;"), (0, .methodref 8 32), (3, u "law"), (0, u "(II)Z")] 2

def k1m0 : Method := { name := "<init>", desc := "()V", sig := { parameters := [], returnType := none }, accessFlags := 1, code := none }
def k1c1 : Code := { maxStack := 5, maxLocals := 2, code := method_2_code, exceptionTable := #[], attributes := #[] }
def k1m1 : Method := { name := "expected", desc := "(I)Ljava/lang/String;", sig := { parameters := [.int], returnType := some (.object "java/lang/String") }, accessFlags := 10, code := some k1c1 }
def k1c2 : Code := { maxStack := 3, maxLocals := 8, code := code, exceptionTable := #[], attributes := #[] }
def k1m2 : Method := { name := "law", desc := "(II)Z", sig := { parameters := [.int, .int], returnType := some .boolean }, accessFlags := 9, code := some k1c2 }
/-- com/example/reckoner/reckoner/model/DayOfMonthNumberedPinLaw -/
def k1 : Class := { plain "com/example/reckoner/reckoner/model/DayOfMonthNumberedPinLaw" (some 0) with
  accessFlags := 49
  interfaces := #[]
  cf := some (fileOf pool1 40 #[] #[{ accessFlags := 1, nameIndex := 5, descriptorIndex := 6, attributes := #[] }, { accessFlags := 10, nameIndex := 43, descriptorIndex := 44, attributes := #[] }, { accessFlags := 9, nameIndex := 49, descriptorIndex := 50, attributes := #[] }] 49 2 #[] #[])
  fields := #[]
  methods := #[k1m0, k1m1, k1m2]
  instanceTypes := #[]
  staticTypes := #[]
  resolved := Array.replicate 53 none
  statics := none }

def pool2 : Array CpInfo := pool [(1, .methodref 2 3), (0, .class_ 4), (0, .nameAndType 5 6), (0, u "java/lang/Object"), (0, u "<init>"), (0, u "()V"), (0, .fieldref 8 9), (0, .class_ 10), (0, .nameAndType 11 12), (0, u "com/example/reckoner/reckoner/model/DayOfMonth"), (0, u "number"), (0, u "I"), (5, u "(I)Ljava/lang/String;"), (3, .methodref 8 23), (0, .nameAndType 5 24), (0, u "(I)V"), (0, .fieldref 8 26), (0, .nameAndType 27 28), (0, u "LAST"), (0, u "Lcom/example/reckoner/reckoner/model/DayOfMonth;"), (0, .methodref 8 30), (0, .nameAndType 31 32), (0, u "equals"), (0, u "(Ljava/lang/Object;)Z"), (18, .methodref 52 53), (0, .class_ 54), (0, .nameAndType 55 18), (0, u "java/lang/String"), (0, u "valueOf"), (0, u "NUMBERED_AT_MOST"), (4, u "numbered"), (0, u "(I)Lcom/example/reckoner/reckoner/model/DayOfMonth;"), (5, u "isBefore"), (0, u "(Lcom/example/reckoner/reckoner/model/DayOfMonth;)Z"), (1, u "toString"), (0, u "()Ljava/lang/String;")] 18

def k2c0 : Code := { maxStack := 2, maxLocals := 2, code := prog_9_method_1_code, exceptionTable := #[], attributes := #[] }
def k2m0 : Method := { name := "<init>", desc := "(I)V", sig := { parameters := [.int], returnType := none }, accessFlags := 2, code := some k2c0 }
def k2c1 : Code := { maxStack := 3, maxLocals := 1, code := prog_9_method_2_code, exceptionTable := #[], attributes := #[] }
def k2m1 : Method := { name := "numbered", desc := "(I)Lcom/example/reckoner/reckoner/model/DayOfMonth;", sig := { parameters := [.int], returnType := some (.object "com/example/reckoner/reckoner/model/DayOfMonth") }, accessFlags := 9, code := some k2c1 }
def k2c2 : Code := { maxStack := 2, maxLocals := 2, code := prog_9_method_4_code, exceptionTable := #[], attributes := #[] }
def k2m2 : Method := { name := "isBefore", desc := "(Lcom/example/reckoner/reckoner/model/DayOfMonth;)Z", sig := { parameters := [(.object "com/example/reckoner/reckoner/model/DayOfMonth")], returnType := some .boolean }, accessFlags := 1, code := some k2c2 }
def k2c3 : Code := { maxStack := 2, maxLocals := 3, code := prog_9_method_5_code, exceptionTable := #[], attributes := #[] }
def k2m3 : Method := { name := "equals", desc := "(Ljava/lang/Object;)Z", sig := { parameters := [(.object "java/lang/Object")], returnType := some .boolean }, accessFlags := 1, code := some k2c3 }
def k2c4 : Code := { maxStack := 2, maxLocals := 1, code := prog_9_method_7_code, exceptionTable := #[], attributes := #[] }
def k2m4 : Method := { name := "toString", desc := "()Ljava/lang/String;", sig := { parameters := [], returnType := some (.object "java/lang/String") }, accessFlags := 1, code := some k2c4 }
/-- com/example/reckoner/reckoner/model/DayOfMonth -/
def k2 : Class := { plain "com/example/reckoner/reckoner/model/DayOfMonth" (some 0) with
  accessFlags := 49
  interfaces := #[]
  cf := some (fileOf pool2 8 #[] #[{ accessFlags := 2, nameIndex := 5, descriptorIndex := 24, attributes := #[] }, { accessFlags := 9, nameIndex := 61, descriptorIndex := 62, attributes := #[] }, { accessFlags := 1, nameIndex := 68, descriptorIndex := 69, attributes := #[] }, { accessFlags := 1, nameIndex := 31, descriptorIndex := 32, attributes := #[] }, { accessFlags := 1, nameIndex := 71, descriptorIndex := 72, attributes := #[] }] 49 2 #[] #[{ accessFlags := 25, nameIndex := 56, descriptorIndex := 12, attributes := #[] }, { accessFlags := 25, nameIndex := 27, descriptorIndex := 28, attributes := #[] }, { accessFlags := 18, nameIndex := 11, descriptorIndex := 12, attributes := #[] }])
  fields := #[{ name := "NUMBERED_AT_MOST", type := .int, accessFlags := 25, slot := 0, constantValue := 0 }, { name := "LAST", type := (.object "com/example/reckoner/reckoner/model/DayOfMonth"), accessFlags := 25, slot := 1, constantValue := 0 }, { name := "number", type := .int, accessFlags := 18, slot := 0, constantValue := 0 }]
  methods := #[k2m0, k2m1, k2m2, k2m3, k2m4]
  instanceTypes := #[.int]
  staticTypes := #[.int, (.object "com/example/reckoner/reckoner/model/DayOfMonth")]
  resolved := Array.replicate 91 none
  statics := some 0 }

def pool3 : Array CpInfo := pool [(1, .class_ 2), (0, u "java/io/Serializable"), (0, .class_ 4), (0, u "java/lang/Object")] 2

/-- java/io/Serializable -/
def k3 : Class := { plain "java/io/Serializable" (some 0) with
  accessFlags := 1537
  interfaces := #[]
  cf := some (fileOf pool3 1 #[] #[] 1537 3 #[] #[])
  fields := #[]
  methods := #[]
  instanceTypes := #[]
  staticTypes := #[]
  resolved := Array.replicate 7 none
  statics := none }

def pool4 : Array CpInfo := pool [(1, .class_ 2), (0, u "java/lang/Comparable"), (0, .class_ 4), (0, u "java/lang/Object")] 7

/-- java/lang/Comparable -/
def k4 : Class := { plain "java/lang/Comparable" (some 0) with
  accessFlags := 1537
  interfaces := #[]
  cf := some (fileOf pool4 1 #[] #[] 1537 3 #[] #[])
  fields := #[]
  methods := #[]
  instanceTypes := #[]
  staticTypes := #[]
  resolved := Array.replicate 12 none
  statics := none }

def pool5 : Array CpInfo := pool [(2, .class_ 4), (1, u "java/lang/CharSequence"), (42, .class_ 48), (0, u "java/lang/CharSequence$1CodePointIterator"), (10, .class_ 60), (0, u "java/lang/CharSequence$1CharIterator"), (5, .class_ 67), (0, u "java/lang/Object")] 63

/-- java/lang/CharSequence -/
def k5 : Class := { plain "java/lang/CharSequence" (some 0) with
  accessFlags := 1537
  interfaces := #[]
  cf := some (fileOf pool5 2 #[.nestMembers #[47, 59]] #[] 1537 66 #[] #[])
  fields := #[]
  methods := #[]
  instanceTypes := #[]
  staticTypes := #[]
  resolved := Array.replicate 131 none
  statics := none }

def pool6 : Array CpInfo := pool [(1, .class_ 2), (0, u "java/lang/constant/Constable"), (0, .class_ 4), (0, u "java/lang/Object")] 6

/-- java/lang/constant/Constable -/
def k6 : Class := { plain "java/lang/constant/Constable" (some 0) with
  accessFlags := 1537
  interfaces := #[]
  cf := some (fileOf pool6 1 #[] #[] 1537 3 #[] #[])
  fields := #[]
  methods := #[]
  instanceTypes := #[]
  staticTypes := #[]
  resolved := Array.replicate 11 none
  statics := none }

def pool7 : Array CpInfo := pool [(1, .class_ 2), (0, u "java/lang/constant/ConstantDesc"), (0, .class_ 4), (0, u "java/lang/Object")] 32

/-- java/lang/constant/ConstantDesc -/
def k7 : Class := { plain "java/lang/constant/ConstantDesc" (some 0) with
  accessFlags := 1537
  interfaces := #[]
  cf := some (fileOf pool7 1 #[] #[] 1537 3 #[] #[])
  fields := #[]
  methods := #[]
  instanceTypes := #[]
  staticTypes := #[]
  resolved := Array.replicate 37 none
  statics := none }

def pool8 : Array CpInfo := pool [(1, .methodref 2 3), (0, .class_ 4), (0, .nameAndType 5 6), (0, u "java/lang/Object"), (0, u "<init>"), (0, u "()V"), (2, .fieldref 10 11), (0, .class_ 12), (0, .nameAndType 13 14), (0, u "java/lang/String"), (0, u "value"), (0, u "[B"), (0, .fieldref 10 16), (0, .nameAndType 17 18), (0, u "coder"), (0, u "B"), (2, u "hash"), (0, u "I"), (2, u "hashIsZero"), (0, u "Z"), (0, .methodref 10 28), (0, .nameAndType 5 29), (0, u "([CIILjava/lang/Void;)V"), (8, .fieldref 10 39), (0, .nameAndType 40 26), (0, u "COMPACT_STRINGS"), (1, .class_ 44), (1, u "java/lang/StringUTF16"), (0, u "compress"), (1, .methodref 42 48), (0, .nameAndType 49 50), (0, u "coderFromArrayLen"), (0, u "([BI)B"), (2, u "toBytes"), (53, .class_ 109), (1, u "java/lang/StringLatin1"), (67, .methodref 42 178), (0, .nameAndType 45 179), (0, u "([CII)[B"), (29, .methodref 10 210), (0, .nameAndType 5 211), (0, u "([BB)V"), (157, u "(C)Z"), (93, u "toString"), (77, .methodref 107 542), (0, .nameAndType 543 544), (0, u "equals"), (0, u "([B[B)Z"), (28, u "(Ljava/lang/Object;)Z"), (1, .class_ 576), (0, u "java/lang/CharSequence"), (22, u "CASE_INSENSITIVE_ORDER"), (0, u "Ljava/util/Comparator;"), (181, u "valueOf"), (0, u "(C)Ljava/lang/String;"), (108, u "(I)Ljava/lang/String;"), (10, .class_ 904), (0, u "java/lang/Integer"), (105, u "([C)V"), (4, .methodref 107 1016), (0, .nameAndType 1017 369), (0, u "canEncode"), (0, .methodref 107 1019), (0, .nameAndType 53 1020), (0, u "(C)[B"), (1, .methodref 903 1023), (0, .nameAndType 463 892), (77, u "serialPersistentFields"), (0, u "[Ljava/io/ObjectStreamField;"), (0, .class_ 1104), (0, u "java/lang/String$CaseInsensitiveComparator"), (1, .class_ 1107), (0, u "java/io/Serializable"), (0, .class_ 1109), (0, u "java/lang/Comparable"), (0, .class_ 1111), (0, u "java/lang/constant/Constable"), (0, .class_ 1113), (0, u "java/lang/constant/ConstantDesc"), (2, u "serialVersionUID"), (0, u "J"), (3, u "REPL"), (0, u "C"), (2, u "LATIN1"), (1, u "UTF16")] 323

def k8m0 : Method := { name := "<init>", desc := "()V", sig := { parameters := [], returnType := none }, accessFlags := 1, code := none }
def k8c1 : Code := { maxStack := 5, maxLocals := 2, code := jdk_42_method_3_code, exceptionTable := #[], attributes := #[] }
def k8m1 : Method := { name := "<init>", desc := "([C)V", sig := { parameters := [(.array .char)], returnType := none }, accessFlags := 1, code := some k8c1 }
def k8c2 : Code := { maxStack := 2, maxLocals := 3, code := jdk_42_method_66_code, exceptionTable := #[], attributes := #[] }
def k8m2 : Method := { name := "equals", desc := "(Ljava/lang/Object;)Z", sig := { parameters := [(.object "java/lang/Object")], returnType := some .boolean }, accessFlags := 1, code := some k8c2 }
def k8c3 : Code := { maxStack := 4, maxLocals := 1, code := jdk_42_method_139_code, exceptionTable := #[], attributes := #[] }
def k8m3 : Method := { name := "valueOf", desc := "(C)Ljava/lang/String;", sig := { parameters := [.char], returnType := some (.object "java/lang/String") }, accessFlags := 9, code := some k8c3 }
def k8c4 : Code := { maxStack := 1, maxLocals := 1, code := jdk_42_method_140_code, exceptionTable := #[], attributes := #[] }
def k8m4 : Method := { name := "valueOf", desc := "(I)Ljava/lang/String;", sig := { parameters := [.int], returnType := some (.object "java/lang/String") }, accessFlags := 9, code := some k8c4 }
def k8c5 : Code := { maxStack := 4, maxLocals := 6, code := jdk_42_method_149_code, exceptionTable := #[], attributes := #[] }
def k8m5 : Method := { name := "<init>", desc := "([CIILjava/lang/Void;)V", sig := { parameters := [(.array .char), .int, .int, (.object "java/lang/Void")], returnType := none }, accessFlags := 2, code := some k8c5 }
def k8c6 : Code := { maxStack := 2, maxLocals := 3, code := jdk_42_method_151_code, exceptionTable := #[], attributes := #[] }
def k8m6 : Method := { name := "<init>", desc := "([BB)V", sig := { parameters := [(.array .byte), .byte], returnType := none }, accessFlags := 0, code := some k8c6 }
/-- java/lang/String -/
def k8 : Class := { plain "java/lang/String" (some 0) with
  accessFlags := 49
  interfaces := #[3, 4, 5, 6, 7]
  cf := some (fileOf pool8 10 #[.nestMembers #[1103]] #[{ accessFlags := 1, nameIndex := 5, descriptorIndex := 6, attributes := #[] }, { accessFlags := 1, nameIndex := 5, descriptorIndex := 1010, attributes := #[] }, { accessFlags := 1, nameIndex := 543, descriptorIndex := 573, attributes := #[] }, { accessFlags := 9, nameIndex := 782, descriptorIndex := 783, attributes := #[] }, { accessFlags := 9, nameIndex := 782, descriptorIndex := 892, attributes := #[] }, { accessFlags := 2, nameIndex := 5, descriptorIndex := 29, attributes := #[] }, { accessFlags := 0, nameIndex := 5, descriptorIndex := 211, attributes := #[] }] 49 2 #[1106, 1108, 575, 1110, 1112] #[{ accessFlags := 18, nameIndex := 13, descriptorIndex := 14, attributes := #[] }, { accessFlags := 18, nameIndex := 17, descriptorIndex := 18, attributes := #[] }, { accessFlags := 2, nameIndex := 21, descriptorIndex := 22, attributes := #[] }, { accessFlags := 2, nameIndex := 25, descriptorIndex := 26, attributes := #[] }, { accessFlags := 26, nameIndex := 1116, descriptorIndex := 1117, attributes := #[] }, { accessFlags := 24, nameIndex := 40, descriptorIndex := 26, attributes := #[] }, { accessFlags := 26, nameIndex := 1101, descriptorIndex := 1102, attributes := #[] }, { accessFlags := 26, nameIndex := 1121, descriptorIndex := 1122, attributes := #[] }, { accessFlags := 25, nameIndex := 599, descriptorIndex := 600, attributes := #[] }, { accessFlags := 24, nameIndex := 1125, descriptorIndex := 18, attributes := #[] }, { accessFlags := 24, nameIndex := 1127, descriptorIndex := 18, attributes := #[] }])
  fields := #[{ name := "value", type := (.array .byte), accessFlags := 18, slot := 0, constantValue := 0 }, { name := "coder", type := .byte, accessFlags := 18, slot := 1, constantValue := 0 }, { name := "hash", type := .int, accessFlags := 2, slot := 2, constantValue := 0 }, { name := "hashIsZero", type := .boolean, accessFlags := 2, slot := 3, constantValue := 0 }, { name := "serialVersionUID", type := .long, accessFlags := 26, slot := 0, constantValue := 0 }, { name := "COMPACT_STRINGS", type := .boolean, accessFlags := 24, slot := 1, constantValue := 0 }, { name := "serialPersistentFields", type := (.array (.object "java/io/ObjectStreamField")), accessFlags := 26, slot := 2, constantValue := 0 }, { name := "REPL", type := .char, accessFlags := 26, slot := 3, constantValue := 0 }, { name := "CASE_INSENSITIVE_ORDER", type := (.object "java/util/Comparator"), accessFlags := 25, slot := 4, constantValue := 0 }, { name := "LATIN1", type := .byte, accessFlags := 24, slot := 5, constantValue := 0 }, { name := "UTF16", type := .byte, accessFlags := 24, slot := 6, constantValue := 0 }]
  methods := #[k8m0, k8m1, k8m2, k8m3, k8m4, k8m5, k8m6]
  instanceTypes := #[(.array .byte), .byte, .int, .boolean]
  staticTypes := #[.long, .boolean, (.array (.object "java/io/ObjectStreamField")), .char, (.object "java/util/Comparator"), .byte, .byte]
  resolved := Array.replicate 1451 none
  statics := some 1 }

def pool9 : Array CpInfo := pool [(2, .class_ 4), (1, u "java/lang/Object"), (0, u "<init>"), (0, u "()V"), (1, .class_ 10), (1, u "java/lang/Number"), (2, .class_ 14), (0, u "java/io/Serializable"), (0, u "serialVersionUID"), (0, u "J")] 20

def k9m0 : Method := { name := "<init>", desc := "()V", sig := { parameters := [], returnType := none }, accessFlags := 1, code := none }
/-- java/lang/Number -/
def k9 : Class := { plain "java/lang/Number" (some 0) with
  accessFlags := 1057
  interfaces := #[3]
  cf := some (fileOf pool9 8 #[] #[{ accessFlags := 1, nameIndex := 5, descriptorIndex := 6, attributes := #[] }] 1057 2 #[13] #[{ accessFlags := 26, nameIndex := 15, descriptorIndex := 16, attributes := #[] }])
  fields := #[{ name := "serialVersionUID", type := .long, accessFlags := 26, slot := 0, constantValue := 0 }]
  methods := #[k9m0]
  instanceTypes := #[]
  staticTypes := #[.long]
  resolved := Array.replicate 37 none
  statics := none }

def pool10 : Array CpInfo := pool [(1, .class_ 2), (0, u "java/lang/Integer"), (2, .class_ 6), (0, u "java/lang/String"), (4, u "toString"), (0, u "(I)Ljava/lang/String;"), (0, .fieldref 5 14), (0, .nameAndType 15 16), (0, u "COMPACT_STRINGS"), (0, u "Z"), (2, u "digits"), (0, u "[C"), (33, u "(I)I"), (10, .methodref 5 66), (0, .nameAndType 67 68), (0, u "<init>"), (0, u "([BB)V"), (3, .methodref 1 73), (0, .nameAndType 74 54), (0, u "stringSize"), (0, .methodref 1 76), (0, .nameAndType 77 78), (0, u "getChars"), (0, u "(II[B)I"), (4, .fieldref 1 84), (0, .nameAndType 85 86), (0, u "DigitOnes"), (0, u "[B"), (0, .fieldref 1 88), (0, .nameAndType 89 86), (0, u "DigitTens"), (99, .class_ 190), (0, u "java/lang/Integer$IntegerCache"), (3, u "I"), (8, .class_ 204), (0, u "java/lang/Number"), (2, u "value"), (94, u "TYPE"), (0, u "Ljava/lang/Class;"), (0, .class_ 305), (0, u "java/lang/Comparable"), (0, .class_ 307), (0, u "java/lang/constant/Constable"), (0, .class_ 309), (0, u "java/lang/constant/ConstantDesc"), (0, u "MIN_VALUE"), (1, u "MAX_VALUE"), (3, u "SIZE"), (1, u "BYTES"), (1, u "serialVersionUID"), (0, u "J")] 131

def k10c0 : Code := { maxStack := 4, maxLocals := 3, code := jdk_33_method_10_code, exceptionTable := #[], attributes := #[] }
def k10m0 : Method := { name := "toString", desc := "(I)Ljava/lang/String;", sig := { parameters := [.int], returnType := some (.object "java/lang/String") }, accessFlags := 9, code := some k10c0 }
def k10c1 : Code := { maxStack := 4, maxLocals := 7, code := jdk_33_method_12_code, exceptionTable := #[], attributes := #[] }
def k10m1 : Method := { name := "getChars", desc := "(II[B)I", sig := { parameters := [.int, .int, (.array .byte)], returnType := some .int }, accessFlags := 8, code := some k10c1 }
def k10c2 : Code := { maxStack := 2, maxLocals := 4, code := jdk_33_method_13_code, exceptionTable := #[], attributes := #[] }
def k10m2 : Method := { name := "stringSize", desc := "(I)I", sig := { parameters := [.int], returnType := some .int }, accessFlags := 8, code := some k10c2 }
/-- java/lang/Integer -/
def k10 : Class := { plain "java/lang/Integer" (some 9) with
  accessFlags := 49
  interfaces := #[4, 6, 7]
  cf := some (fileOf pool10 1 #[.nestMembers #[189]] #[{ accessFlags := 9, nameIndex := 11, descriptorIndex := 12, attributes := #[] }, { accessFlags := 8, nameIndex := 77, descriptorIndex := 78, attributes := #[] }, { accessFlags := 8, nameIndex := 74, descriptorIndex := 54, attributes := #[] }] 49 203 #[304, 306, 308] #[{ accessFlags := 25, nameIndex := 310, descriptorIndex := 194, attributes := #[] }, { accessFlags := 25, nameIndex := 312, descriptorIndex := 194, attributes := #[] }, { accessFlags := 25, nameIndex := 302, descriptorIndex := 303, attributes := #[] }, { accessFlags := 24, nameIndex := 19, descriptorIndex := 20, attributes := #[] }, { accessFlags := 24, nameIndex := 89, descriptorIndex := 86, attributes := #[] }, { accessFlags := 24, nameIndex := 85, descriptorIndex := 86, attributes := #[] }, { accessFlags := 18, nameIndex := 207, descriptorIndex := 194, attributes := #[] }, { accessFlags := 25, nameIndex := 316, descriptorIndex := 194, attributes := #[] }, { accessFlags := 25, nameIndex := 318, descriptorIndex := 194, attributes := #[] }, { accessFlags := 26, nameIndex := 320, descriptorIndex := 321, attributes := #[] }])
  fields := #[{ name := "MIN_VALUE", type := .int, accessFlags := 25, slot := 0, constantValue := 0 }, { name := "MAX_VALUE", type := .int, accessFlags := 25, slot := 1, constantValue := 0 }, { name := "TYPE", type := (.object "java/lang/Class"), accessFlags := 25, slot := 2, constantValue := 0 }, { name := "digits", type := (.array .char), accessFlags := 24, slot := 3, constantValue := 0 }, { name := "DigitTens", type := (.array .byte), accessFlags := 24, slot := 4, constantValue := 0 }, { name := "DigitOnes", type := (.array .byte), accessFlags := 24, slot := 5, constantValue := 0 }, { name := "value", type := .int, accessFlags := 18, slot := 0, constantValue := 0 }, { name := "SIZE", type := .int, accessFlags := 25, slot := 6, constantValue := 0 }, { name := "BYTES", type := .int, accessFlags := 25, slot := 7, constantValue := 0 }, { name := "serialVersionUID", type := .long, accessFlags := 26, slot := 8, constantValue := 0 }]
  methods := #[k10m0, k10m1, k10m2]
  instanceTypes := #[.int]
  staticTypes := #[.int, .int, (.object "java/lang/Class"), (.array .char), (.array .byte), (.array .byte), .int, .int, .long]
  resolved := Array.replicate 453 none
  statics := some 2 }

def pool11 : Array CpInfo := pool [(4, .class_ 6), (1, u "java/lang/Object"), (0, u "<init>"), (0, u "()V"), (5, .class_ 16), (1, u "java/lang/StringLatin1"), (73, u "canEncode"), (14, u "(C)Z"), (15, u "$assertionsDisabled"), (0, u "Z"), (98, .class_ 223), (1, u "java/lang/StringLatin1$LinesSpliterator"), (57, u "equals"), (0, u "([B[B)Z"), (97, u "toBytes"), (1, u "(C)[B"), (7, .class_ 391), (0, u "java/lang/StringLatin1$CharsSpliterator")] 3

def k11m0 : Method := { name := "<init>", desc := "()V", sig := { parameters := [], returnType := none }, accessFlags := 0, code := none }
def k11c1 : Code := { maxStack := 2, maxLocals := 1, code := jdk_43_method_3_code, exceptionTable := #[], attributes := #[] }
def k11m1 : Method := { name := "canEncode", desc := "(C)Z", sig := { parameters := [.char], returnType := some .boolean }, accessFlags := 9, code := some k11c1 }
def k11c2 : Code := { maxStack := 3, maxLocals := 3, code := jdk_43_method_13_code, exceptionTable := #[], attributes := #[] }
def k11m2 : Method := { name := "equals", desc := "([B[B)Z", sig := { parameters := [(.array .byte), (.array .byte)], returnType := some .boolean }, accessFlags := 9, code := some k11c2 }
def k11c3 : Code := { maxStack := 4, maxLocals := 1, code := jdk_43_method_46_code, exceptionTable := #[], attributes := #[] }
def k11m3 : Method := { name := "toBytes", desc := "(C)[B", sig := { parameters := [.char], returnType := some (.array .byte) }, accessFlags := 9, code := some k11c3 }
/-- java/lang/StringLatin1 -/
def k11 : Class := { plain "java/lang/StringLatin1" (some 0) with
  accessFlags := 48
  interfaces := #[]
  cf := some (fileOf pool11 14 #[.nestMembers #[390, 221]] #[{ accessFlags := 0, nameIndex := 7, descriptorIndex := 8, attributes := #[] }, { accessFlags := 9, nameIndex := 90, descriptorIndex := 105, attributes := #[] }, { accessFlags := 9, nameIndex := 281, descriptorIndex := 282, attributes := #[] }, { accessFlags := 9, nameIndex := 380, descriptorIndex := 382, attributes := #[] }] 48 4 #[] #[{ accessFlags := 4120, nameIndex := 121, descriptorIndex := 122, attributes := #[] }])
  fields := #[{ name := "$assertionsDisabled", type := .boolean, accessFlags := 4120, slot := 0, constantValue := 0 }]
  methods := #[k11m0, k11m1, k11m2, k11m3]
  instanceTypes := #[]
  staticTypes := #[.boolean]
  resolved := Array.replicate 395 none
  statics := none }

def pool12 : Array CpInfo := pool [(6, .class_ 8), (1, u "java/lang/Object"), (0, u "<init>"), (0, u "()V"), (1, .class_ 14), (1, u "java/lang/StringUTF16"), (31, u "$assertionsDisabled"), (0, u "Z"), (13, u "HI_BYTE_SHIFT"), (0, u "I"), (2, u "LO_BYTE_SHIFT"), (49, .methodref 12 116), (0, .nameAndType 117 118), (0, u "compress"), (0, u "([CI[BII)I"), (3, u "([CII)[B"), (138, u "coderFromArrayLen"), (0, u "([BI)B"), (106, .class_ 371), (1, u "java/lang/StringUTF16$LinesSpliterator"), (58, u "MAX_LENGTH"), (196, .class_ 628), (0, u "java/lang/StringUTF16$CodePointsSpliterator"), (0, .class_ 630), (0, u "java/lang/StringUTF16$CharsSpliterator")] 4

def k12m0 : Method := { name := "<init>", desc := "()V", sig := { parameters := [], returnType := none }, accessFlags := 0, code := none }
def k12c1 : Code := { maxStack := 2, maxLocals := 2, code := jdk_52_method_15_code, exceptionTable := #[], attributes := #[] }
def k12m1 : Method := { name := "coderFromArrayLen", desc := "([BI)B", sig := { parameters := [(.array .byte), .int], returnType := some .byte }, accessFlags := 8, code := some k12c1 }
def k12c2 : Code := { maxStack := 5, maxLocals := 6, code := jdk_52_method_16_code, exceptionTable := #[], attributes := #[] }
def k12m2 : Method := { name := "compress", desc := "([CII)[B", sig := { parameters := [(.array .char), .int, .int], returnType := some (.array .byte) }, accessFlags := 9, code := some k12c2 }
def k12c3 : Code := { maxStack := 3, maxLocals := 7, code := jdk_52_method_21_code, exceptionTable := #[], attributes := #[] }
def k12m3 : Method := { name := "compress", desc := "([CI[BII)I", sig := { parameters := [(.array .char), .int, (.array .byte), .int, .int], returnType := some .int }, accessFlags := 9, code := some k12c3 }
/-- java/lang/StringUTF16 -/
def k12 : Class := { plain "java/lang/StringUTF16" (some 0) with
  accessFlags := 48
  interfaces := #[]
  cf := some (fileOf pool12 12 #[.nestMembers #[627, 629, 369]] #[{ accessFlags := 0, nameIndex := 9, descriptorIndex := 10, attributes := #[] }, { accessFlags := 8, nameIndex := 261, descriptorIndex := 262, attributes := #[] }, { accessFlags := 9, nameIndex := 117, descriptorIndex := 122, attributes := #[] }, { accessFlags := 9, nameIndex := 117, descriptorIndex := 118, attributes := #[] }] 48 6 #[] #[{ accessFlags := 26, nameIndex := 61, descriptorIndex := 62, attributes := #[] }, { accessFlags := 26, nameIndex := 65, descriptorIndex := 62, attributes := #[] }, { accessFlags := 24, nameIndex := 430, descriptorIndex := 62, attributes := #[] }, { accessFlags := 4120, nameIndex := 46, descriptorIndex := 47, attributes := #[] }])
  fields := #[{ name := "HI_BYTE_SHIFT", type := .int, accessFlags := 26, slot := 0, constantValue := 0 }, { name := "LO_BYTE_SHIFT", type := .int, accessFlags := 26, slot := 1, constantValue := 0 }, { name := "MAX_LENGTH", type := .int, accessFlags := 24, slot := 2, constantValue := 0 }, { name := "$assertionsDisabled", type := .boolean, accessFlags := 4120, slot := 3, constantValue := 0 }]
  methods := #[k12m0, k12m1, k12m2, k12m3]
  instanceTypes := #[]
  staticTypes := #[.int, .int, .int, .boolean]
  resolved := Array.replicate 635 none
  statics := none }

def pool13 : Array CpInfo := pool [(2, .class_ 4), (1, u "java/lang/Object"), (0, u "<init>"), (0, u "()V"), (17, .class_ 26), (1, u "jdk/internal/util/Preconditions"), (28, .class_ 56), (0, u "jdk/internal/util/Preconditions$4"), (57, .class_ 115), (0, u "jdk/internal/util/Preconditions$1"), (7, u "SIOOBE_FORMATTER"), (0, u "Ljava/util/function/BiFunction;"), (0, .class_ 126), (0, u "jdk/internal/util/Preconditions$2"), (3, u "AIOOBE_FORMATTER"), (0, .class_ 132), (0, u "jdk/internal/util/Preconditions$3"), (3, u "IOOBE_FORMATTER")] 57

def k13m0 : Method := { name := "<init>", desc := "()V", sig := { parameters := [], returnType := none }, accessFlags := 1, code := none }
/-- jdk/internal/util/Preconditions -/
def k13 : Class := { plain "jdk/internal/util/Preconditions" (some 0) with
  accessFlags := 33
  interfaces := #[]
  cf := some (fileOf pool13 24 #[.nestMembers #[55, 131, 125, 114]] #[{ accessFlags := 1, nameIndex := 5, descriptorIndex := 6, attributes := #[] }] 33 2 #[] #[{ accessFlags := 25, nameIndex := 123, descriptorIndex := 124, attributes := #[] }, { accessFlags := 25, nameIndex := 130, descriptorIndex := 124, attributes := #[] }, { accessFlags := 25, nameIndex := 136, descriptorIndex := 124, attributes := #[] }])
  fields := #[{ name := "SIOOBE_FORMATTER", type := (.object "java/util/function/BiFunction"), accessFlags := 25, slot := 0, constantValue := 0 }, { name := "AIOOBE_FORMATTER", type := (.object "java/util/function/BiFunction"), accessFlags := 25, slot := 1, constantValue := 0 }, { name := "IOOBE_FORMATTER", type := (.object "java/util/function/BiFunction"), accessFlags := 25, slot := 2, constantValue := 0 }]
  methods := #[k13m0]
  instanceTypes := #[]
  staticTypes := #[(.object "java/util/function/BiFunction"), (.object "java/util/function/BiFunction"), (.object "java/util/function/BiFunction")]
  resolved := Array.replicate 194 none
  statics := some 3 }

def pool14 : Array CpInfo := pool [(9, u "<init>"), (6, .class_ 18), (1, u "java/lang/Object"), (0, u "()V"), (1, .class_ 23), (1, u "jdk/internal/util/ArraysSupport"), (0, u "LOG2_ARRAY_LONG_INDEX_SCALE"), (0, u "I"), (2, u "U"), (0, u "Ljdk/internal/misc/Unsafe;"), (8, u "BIG_ENDIAN"), (0, u "Z"), (8, u "LOG2_BYTE_BIT_SIZE"), (4, u "LOG2_ARRAY_INT_INDEX_SCALE"), (54, u "JLA"), (0, u "Ljdk/internal/access/JavaLangAccess;"), (11, u "LOG2_ARRAY_BOOLEAN_INDEX_SCALE"), (9, u "LOG2_ARRAY_BYTE_INDEX_SCALE"), (5, u "LOG2_ARRAY_CHAR_INDEX_SCALE"), (5, u "LOG2_ARRAY_SHORT_INDEX_SCALE"), (18, u "LOG2_ARRAY_FLOAT_INDEX_SCALE"), (24, u "LOG2_ARRAY_DOUBLE_INDEX_SCALE"), (89, u "T_BOOLEAN"), (2, u "T_CHAR"), (1, u "T_FLOAT"), (1, u "T_DOUBLE"), (1, u "T_BYTE"), (1, u "T_SHORT"), (1, u "T_INT"), (1, u "T_LONG"), (1, u "SOFT_MAX_ARRAY_LENGTH")] 83

def k14m0 : Method := { name := "<init>", desc := "()V", sig := { parameters := [], returnType := none }, accessFlags := 2, code := none }
/-- jdk/internal/util/ArraysSupport -/
def k14 : Class := { plain "jdk/internal/util/ArraysSupport" (some 0) with
  accessFlags := 33
  interfaces := #[]
  cf := some (fileOf pool14 21 #[] #[{ accessFlags := 2, nameIndex := 9, descriptorIndex := 19, attributes := #[] }] 33 16 #[] #[{ accessFlags := 24, nameIndex := 28, descriptorIndex := 29, attributes := #[] }, { accessFlags := 26, nameIndex := 38, descriptorIndex := 39, attributes := #[] }, { accessFlags := 25, nameIndex := 121, descriptorIndex := 25, attributes := #[] }, { accessFlags := 25, nameIndex := 131, descriptorIndex := 25, attributes := #[] }, { accessFlags := 25, nameIndex := 137, descriptorIndex := 25, attributes := #[] }, { accessFlags := 25, nameIndex := 143, descriptorIndex := 25, attributes := #[] }, { accessFlags := 25, nameIndex := 53, descriptorIndex := 25, attributes := #[] }, { accessFlags := 25, nameIndex := 24, descriptorIndex := 25, attributes := #[] }, { accessFlags := 25, nameIndex := 162, descriptorIndex := 25, attributes := #[] }, { accessFlags := 25, nameIndex := 187, descriptorIndex := 25, attributes := #[] }, { accessFlags := 26, nameIndex := 48, descriptorIndex := 25, attributes := #[] }, { accessFlags := 25, nameIndex := 277, descriptorIndex := 25, attributes := #[] }, { accessFlags := 25, nameIndex := 280, descriptorIndex := 25, attributes := #[] }, { accessFlags := 25, nameIndex := 282, descriptorIndex := 25, attributes := #[] }, { accessFlags := 25, nameIndex := 284, descriptorIndex := 25, attributes := #[] }, { accessFlags := 25, nameIndex := 286, descriptorIndex := 25, attributes := #[] }, { accessFlags := 25, nameIndex := 288, descriptorIndex := 25, attributes := #[] }, { accessFlags := 25, nameIndex := 290, descriptorIndex := 25, attributes := #[] }, { accessFlags := 25, nameIndex := 292, descriptorIndex := 25, attributes := #[] }, { accessFlags := 26, nameIndex := 108, descriptorIndex := 109, attributes := #[] }, { accessFlags := 25, nameIndex := 294, descriptorIndex := 25, attributes := #[] }])
  fields := #[{ name := "U", type := (.object "jdk/internal/misc/Unsafe"), accessFlags := 24, slot := 0, constantValue := 0 }, { name := "BIG_ENDIAN", type := .boolean, accessFlags := 26, slot := 1, constantValue := 0 }, { name := "LOG2_ARRAY_BOOLEAN_INDEX_SCALE", type := .int, accessFlags := 25, slot := 2, constantValue := 0 }, { name := "LOG2_ARRAY_BYTE_INDEX_SCALE", type := .int, accessFlags := 25, slot := 3, constantValue := 0 }, { name := "LOG2_ARRAY_CHAR_INDEX_SCALE", type := .int, accessFlags := 25, slot := 4, constantValue := 0 }, { name := "LOG2_ARRAY_SHORT_INDEX_SCALE", type := .int, accessFlags := 25, slot := 5, constantValue := 0 }, { name := "LOG2_ARRAY_INT_INDEX_SCALE", type := .int, accessFlags := 25, slot := 6, constantValue := 0 }, { name := "LOG2_ARRAY_LONG_INDEX_SCALE", type := .int, accessFlags := 25, slot := 7, constantValue := 0 }, { name := "LOG2_ARRAY_FLOAT_INDEX_SCALE", type := .int, accessFlags := 25, slot := 8, constantValue := 0 }, { name := "LOG2_ARRAY_DOUBLE_INDEX_SCALE", type := .int, accessFlags := 25, slot := 9, constantValue := 0 }, { name := "LOG2_BYTE_BIT_SIZE", type := .int, accessFlags := 26, slot := 10, constantValue := 0 }, { name := "T_BOOLEAN", type := .int, accessFlags := 25, slot := 11, constantValue := 0 }, { name := "T_CHAR", type := .int, accessFlags := 25, slot := 12, constantValue := 0 }, { name := "T_FLOAT", type := .int, accessFlags := 25, slot := 13, constantValue := 0 }, { name := "T_DOUBLE", type := .int, accessFlags := 25, slot := 14, constantValue := 0 }, { name := "T_BYTE", type := .int, accessFlags := 25, slot := 15, constantValue := 0 }, { name := "T_SHORT", type := .int, accessFlags := 25, slot := 16, constantValue := 0 }, { name := "T_INT", type := .int, accessFlags := 25, slot := 17, constantValue := 0 }, { name := "T_LONG", type := .int, accessFlags := 25, slot := 18, constantValue := 0 }, { name := "JLA", type := (.object "jdk/internal/access/JavaLangAccess"), accessFlags := 26, slot := 19, constantValue := 0 }, { name := "SOFT_MAX_ARRAY_LENGTH", type := .int, accessFlags := 25, slot := 20, constantValue := 0 }]
  methods := #[k14m0]
  instanceTypes := #[]
  staticTypes := #[(.object "jdk/internal/misc/Unsafe"), .boolean, .int, .int, .int, .int, .int, .int, .int, .int, .int, .int, .int, .int, .int, .int, .int, .int, .int, (.object "jdk/internal/access/JavaLangAccess"), .int]
  resolved := Array.replicate 378 none
  statics := none }

def pool15 : Array CpInfo := pool [(1, u "java/lang/Cloneable"), (0, .class_ 1), (0, u "java/lang/Object"), (0, .class_ 3)] 3

/-- java/lang/Cloneable -/
def k15 : Class := { plain "java/lang/Cloneable" (some 0) with
  accessFlags := 1537
  interfaces := #[]
  cf := some (fileOf pool15 2 #[] #[] 1537 4 #[] #[])
  fields := #[]
  methods := #[]
  instanceTypes := #[]
  staticTypes := #[]
  resolved := Array.replicate 8 none
  statics := none }

/-- the primitive byte -/
def k16 : Class := { plain "byte" none with kind := .primitive 'B', accessFlags := 0x411 }
/-- [B -/
def k17 : Class := { plain "[B" (some 0) with kind := .array 16 .byte, interfaces := #[15, 3], accessFlags := 1041 }

/-- the primitive char -/
def k18 : Class := { plain "char" none with kind := .primitive 'C', accessFlags := 0x411 }
/-- [C -/
def k19 : Class := { plain "[C" (some 0) with kind := .array 18 .char, interfaces := #[15, 3], accessFlags := 1041 }

/-- the primitive int -/
def k20 : Class := { plain "int" none with kind := .primitive 'I', accessFlags := 0x411 }
/-- [I -/
def k21 : Class := { plain "[I" (some 0) with kind := .array 20 .int, interfaces := #[15, 3], accessFlags := 1041 }

def heap : Heap := #[{ cls := 2, slots := #[.int 0, .ref 4], vm := .statics 2 },
  { cls := 8, slots := #[.long 0, .int 1, .null, .int 0, .null, .int 0, .int 0], vm := .statics 8 },
  { cls := 10, slots := #[.int 0, .int 0, .null, .null, .ref 6, .ref 5, .int 0, .int 0, .long 0], vm := .statics 10 },
  { cls := 13, slots := #[.null, .null, .null], vm := .statics 13 },
  { cls := 2, slots := #[.int 29], vm := .none },
  { cls := 17, slots := #[.int 48, .int 49, .int 50, .int 51, .int 52, .int 53, .int 54, .int 55, .int 56, .int 57, .int 48, .int 49, .int 50, .int 51, .int 52, .int 53, .int 54, .int 55, .int 56, .int 57, .int 48, .int 49, .int 50, .int 51, .int 52, .int 53, .int 54, .int 55, .int 56, .int 57, .int 48, .int 49, .int 50, .int 51, .int 52, .int 53, .int 54, .int 55, .int 56, .int 57, .int 48, .int 49, .int 50, .int 51, .int 52, .int 53, .int 54, .int 55, .int 56, .int 57, .int 48, .int 49, .int 50, .int 51, .int 52, .int 53, .int 54, .int 55, .int 56, .int 57, .int 48, .int 49, .int 50, .int 51, .int 52, .int 53, .int 54, .int 55, .int 56, .int 57, .int 48, .int 49, .int 50, .int 51, .int 52, .int 53, .int 54, .int 55, .int 56, .int 57, .int 48, .int 49, .int 50, .int 51, .int 52, .int 53, .int 54, .int 55, .int 56, .int 57, .int 48, .int 49, .int 50, .int 51, .int 52, .int 53, .int 54, .int 55, .int 56, .int 57], vm := .none },
  { cls := 17, slots := #[.int 48, .int 48, .int 48, .int 48, .int 48, .int 48, .int 48, .int 48, .int 48, .int 48, .int 49, .int 49, .int 49, .int 49, .int 49, .int 49, .int 49, .int 49, .int 49, .int 49, .int 50, .int 50, .int 50, .int 50, .int 50, .int 50, .int 50, .int 50, .int 50, .int 50, .int 51, .int 51, .int 51, .int 51, .int 51, .int 51, .int 51, .int 51, .int 51, .int 51, .int 52, .int 52, .int 52, .int 52, .int 52, .int 52, .int 52, .int 52, .int 52, .int 52, .int 53, .int 53, .int 53, .int 53, .int 53, .int 53, .int 53, .int 53, .int 53, .int 53, .int 54, .int 54, .int 54, .int 54, .int 54, .int 54, .int 54, .int 54, .int 54, .int 54, .int 55, .int 55, .int 55, .int 55, .int 55, .int 55, .int 55, .int 55, .int 55, .int 55, .int 56, .int 56, .int 56, .int 56, .int 56, .int 56, .int 56, .int 56, .int 56, .int 56, .int 57, .int 57, .int 57, .int 57, .int 57, .int 57, .int 57, .int 57, .int 57, .int 57], vm := .none }]
def classes : Array Class := #[k0, k1, k2, k3, k4, k5, k6, k7, k8, k9, k10, k11, k12, k13, k14, k15, k16, k17, k18, k19, k20, k21]
def interned : List (Array UInt16 × Addr) := []
def slotsUsed : Nat := 222
def theMethod : MethodId := ⟨1, 2⟩
def args0 : Array Value := #[.int 13, .int 4]
def aboutOver (below : List Frame) : State where
  vm := { classes := classes, interned := interned.toArray }
  heap := heap
  slotsUsed := slotsUsed
  threads := #[{ frames := .invoking theMethod args0 :: below }]
def below0 : List Frame := [.native { method := ⟨0, 0⟩, args := #[] }]
def about1 : State := aboutOver below0
def p0 : Program := .bare "" "" ""
def e0 : Env := launch0.env 0 0 0
theorem w_frames : about1.frames = Frame.invoking theMethod args0 :: below0 := rfl
set_option maxRecDepth 65536 in
theorem w_args : argsFit about1.vm theMethod args0 = true := by decide +kernel
set_option maxRecDepth 65536 in
theorem w_heap : heapFits about1 = true := by decide +kernel
set_option maxRecDepth 65536 in
theorem w_runnable : about1.curStatus? = some .runnable := by decide +kernel
set_option maxRecDepth 65536 in
theorem w_alone : about1.alone = true := by decide +kernel
set_option maxRecDepth 65536 in
theorem w_named : about1.methodNamed? x = some theMethod := by decide +kernel
set_option maxRecDepth 65536 in
theorem w_hears : about1.hears theMethod below0 = true := by decide +kernel
set_option maxRecDepth 65536 in
theorem w_ripe : about1.ripe theMethod args0 below0 = true := by decide +kernel
theorem w_running : about1.status = .running := rfl
set_option maxRecDepth 65536 in
theorem w_room : about1.hasRoom e0.platform room_1 = true :=
  launch0.hasRoom_least _ room_1 (by decide +kernel) (by decide +kernel) (by decide +kernel) (by decide +kernel) (by decide +kernel) (by decide +kernel)
theorem allAtoms_all (ts : List Jvm.Cond) (a : Array Jvm.Value) (st : Jvm.State) : (allAtoms ts).before a st = ts.all (fun c => c.before a st) := by
  induction ts with
  | nil => rfl
  | cons c t ih =>
    show (Jvm.Cond.and c (allAtoms t)).before a st = _
    rw [Jvm.Cond.before_and, ih, List.all_cons]
def words1 : List Jvm.Cond := Jvm.Cond.code x code maxLocals ret :: tables_1
/-- a 'code' word, met by the world's own term for the bytes: nothing is compared byte by byte -/
theorem code_word {y : MethodName} {bytes : ByteArray} {mx : Nat} {rt : Option FieldType} {a : Array Value} {s : State} {m : MethodId} {meth : Method} {c : Code} (h1 : s.methodNamed? y = some m) (h2 : s.vm.method? m = some meth) (h3 : meth.code = some c) (h4 : c.code = bytes)
    (h5 : (c.maxLocals == mx && c.exceptionTable.isEmpty && decide (c.maxStack ≤ mostOperands) && decide (meth.sig.returnType = rt) && !meth.locks && decide (parseMethodDescriptor y.desc = some meth.sig)) = true) : (Jvm.Cond.code y bytes mx rt).before a s = true := by
  simp only [Bool.and_eq_true, beq_iff_eq, Bool.not_eq_true', decide_eq_true_eq] at h5
  obtain ⟨⟨⟨⟨⟨g1, g2⟩, g3⟩, g4⟩, g5⟩, g6⟩ := h5
  simp [Cond.before, Cond.holds, Cond.value, h1, h2, h3, h4, g1, g2, g3, g4, g5, g6]
def isCode : Jvm.Cond → Bool
  | .code _ _ _ _ => true
  | _ => false
theorem all_split {L : List Jvm.Cond} {P : Jvm.Cond → Bool} (h1 : L.all (fun c => isCode c || P c) = true) (h2 : ∀ c ∈ L.filter isCode, P c = true) : L.all P = true := by
  refine List.all_eq_true.mpr fun c hc => ?_
  have h := List.all_eq_true.mp h1 c hc
  rcases Bool.eq_false_or_eq_true (isCode c) with hi | hi
  · exact h2 c (List.mem_filter.mpr ⟨hc, hi⟩)
  · simpa [hi] using h
set_option maxRecDepth 65536 in
theorem w_c0 : (Jvm.Cond.code x code maxLocals ret).before args0 about1 = true := code_word (m := ⟨1, 2⟩) (meth := k1m2) (c := k1c2) (by decide +kernel) rfl rfl rfl (by decide +kernel)
set_option maxRecDepth 65536 in
theorem w_c1 : (Jvm.Cond.code ({ cls := "com/example/reckoner/reckoner/model/DayOfMonth", name := "numbered", desc := "(I)Lcom/example/reckoner/reckoner/model/DayOfMonth;" } : Jvm.MethodName) prog_9_method_2_code (1 : Nat) (Option.some (Jvm.ClassFile.FieldType.object "com/example/reckoner/reckoner/model/DayOfMonth"))).before args0 about1 = true := code_word (m := ⟨2, 1⟩) (meth := k2m1) (c := k2c1) (by decide +kernel) rfl rfl rfl (by decide +kernel)
set_option maxRecDepth 65536 in
theorem w_c2 : (Jvm.Cond.code ({ cls := "com/example/reckoner/reckoner/model/DayOfMonth", name := "<init>", desc := "(I)V" } : Jvm.MethodName) prog_9_method_1_code (2 : Nat) (Option.none : Option Jvm.ClassFile.FieldType)).before args0 about1 = true := code_word (m := ⟨2, 0⟩) (meth := k2m0) (c := k2c0) (by decide +kernel) rfl rfl rfl (by decide +kernel)
set_option maxRecDepth 65536 in
theorem w_c3 : (Jvm.Cond.code ({ cls := "java/lang/Object", name := "<init>", desc := "()V" } : Jvm.MethodName) object_method_1_code (1 : Nat) (Option.none : Option Jvm.ClassFile.FieldType)).before args0 about1 = true := code_word (m := ⟨0, 0⟩) (meth := k0m0) (c := k0c0) (by decide +kernel) rfl rfl rfl (by decide +kernel)
set_option maxRecDepth 65536 in
theorem w_c4 : (Jvm.Cond.code ({ cls := "com/example/reckoner/reckoner/model/DayOfMonth", name := "isBefore", desc := "(Lcom/example/reckoner/reckoner/model/DayOfMonth;)Z" } : Jvm.MethodName) prog_9_method_4_code (2 : Nat) (Option.some Jvm.ClassFile.FieldType.boolean)).before args0 about1 = true := code_word (m := ⟨2, 2⟩) (meth := k2m2) (c := k2c2) (by decide +kernel) rfl rfl rfl (by decide +kernel)
set_option maxRecDepth 65536 in
theorem w_c5 : (Jvm.Cond.code ({ cls := "com/example/reckoner/reckoner/model/DayOfMonth", name := "equals", desc := "(Ljava/lang/Object;)Z" } : Jvm.MethodName) prog_9_method_5_code (3 : Nat) (Option.some Jvm.ClassFile.FieldType.boolean)).before args0 about1 = true := code_word (m := ⟨2, 3⟩) (meth := k2m3) (c := k2c3) (by decide +kernel) rfl rfl rfl (by decide +kernel)
set_option maxRecDepth 65536 in
theorem w_c6 : (Jvm.Cond.code ({ cls := "com/example/reckoner/reckoner/model/DayOfMonth", name := "toString", desc := "()Ljava/lang/String;" } : Jvm.MethodName) prog_9_method_7_code (1 : Nat) (Option.some (Jvm.ClassFile.FieldType.object "java/lang/String"))).before args0 about1 = true := code_word (m := ⟨2, 4⟩) (meth := k2m4) (c := k2c4) (by decide +kernel) rfl rfl rfl (by decide +kernel)
set_option maxRecDepth 65536 in
theorem w_c7 : (Jvm.Cond.code ({ cls := "java/lang/String", name := "valueOf", desc := "(I)Ljava/lang/String;" } : Jvm.MethodName) jdk_42_method_140_code (1 : Nat) (Option.some (Jvm.ClassFile.FieldType.object "java/lang/String"))).before args0 about1 = true := code_word (m := ⟨8, 4⟩) (meth := k8m4) (c := k8c4) (by decide +kernel) rfl rfl rfl (by decide +kernel)
set_option maxRecDepth 65536 in
theorem w_c8 : (Jvm.Cond.code ({ cls := "java/lang/Integer", name := "toString", desc := "(I)Ljava/lang/String;" } : Jvm.MethodName) jdk_33_method_10_code (3 : Nat) (Option.some (Jvm.ClassFile.FieldType.object "java/lang/String"))).before args0 about1 = true := code_word (m := ⟨10, 0⟩) (meth := k10m0) (c := k10c0) (by decide +kernel) rfl rfl rfl (by decide +kernel)
set_option maxRecDepth 65536 in
theorem w_c9 : (Jvm.Cond.code ({ cls := "java/lang/Integer", name := "stringSize", desc := "(I)I" } : Jvm.MethodName) jdk_33_method_13_code (4 : Nat) (Option.some Jvm.ClassFile.FieldType.int)).before args0 about1 = true := code_word (m := ⟨10, 2⟩) (meth := k10m2) (c := k10c2) (by decide +kernel) rfl rfl rfl (by decide +kernel)
set_option maxRecDepth 65536 in
theorem w_c10 : (Jvm.Cond.code ({ cls := "java/lang/Integer", name := "getChars", desc := "(II[B)I" } : Jvm.MethodName) jdk_33_method_12_code (7 : Nat) (Option.some Jvm.ClassFile.FieldType.int)).before args0 about1 = true := code_word (m := ⟨10, 1⟩) (meth := k10m1) (c := k10c1) (by decide +kernel) rfl rfl rfl (by decide +kernel)
set_option maxRecDepth 65536 in
theorem w_c11 : (Jvm.Cond.code ({ cls := "java/lang/String", name := "<init>", desc := "([BB)V" } : Jvm.MethodName) jdk_42_method_151_code (3 : Nat) (Option.none : Option Jvm.ClassFile.FieldType)).before args0 about1 = true := code_word (m := ⟨8, 6⟩) (meth := k8m6) (c := k8c6) (by decide +kernel) rfl rfl rfl (by decide +kernel)
set_option maxRecDepth 65536 in
theorem w_c12 : (Jvm.Cond.code ({ cls := "com/example/reckoner/reckoner/model/DayOfMonthNumberedPinLaw", name := "expected", desc := "(I)Ljava/lang/String;" } : Jvm.MethodName) method_2_code (2 : Nat) (Option.some (Jvm.ClassFile.FieldType.object "java/lang/String"))).before args0 about1 = true := code_word (m := ⟨1, 1⟩) (meth := k1m1) (c := k1c1) (by decide +kernel) rfl rfl rfl (by decide +kernel)
set_option maxRecDepth 65536 in
theorem w_c13 : (Jvm.Cond.code ({ cls := "java/lang/String", name := "valueOf", desc := "(C)Ljava/lang/String;" } : Jvm.MethodName) jdk_42_method_139_code (1 : Nat) (Option.some (Jvm.ClassFile.FieldType.object "java/lang/String"))).before args0 about1 = true := code_word (m := ⟨8, 3⟩) (meth := k8m3) (c := k8c3) (by decide +kernel) rfl rfl rfl (by decide +kernel)
set_option maxRecDepth 65536 in
theorem w_c14 : (Jvm.Cond.code ({ cls := "java/lang/StringLatin1", name := "canEncode", desc := "(C)Z" } : Jvm.MethodName) jdk_43_method_3_code (1 : Nat) (Option.some Jvm.ClassFile.FieldType.boolean)).before args0 about1 = true := code_word (m := ⟨11, 1⟩) (meth := k11m1) (c := k11c1) (by decide +kernel) rfl rfl rfl (by decide +kernel)
set_option maxRecDepth 65536 in
theorem w_c15 : (Jvm.Cond.code ({ cls := "java/lang/StringLatin1", name := "toBytes", desc := "(C)[B" } : Jvm.MethodName) jdk_43_method_46_code (1 : Nat) (Option.some (Jvm.ClassFile.FieldType.array Jvm.ClassFile.FieldType.byte))).before args0 about1 = true := code_word (m := ⟨11, 3⟩) (meth := k11m3) (c := k11c3) (by decide +kernel) rfl rfl rfl (by decide +kernel)
set_option maxRecDepth 65536 in
theorem w_c16 : (Jvm.Cond.code ({ cls := "java/lang/String", name := "equals", desc := "(Ljava/lang/Object;)Z" } : Jvm.MethodName) jdk_42_method_66_code (3 : Nat) (Option.some Jvm.ClassFile.FieldType.boolean)).before args0 about1 = true := code_word (m := ⟨8, 2⟩) (meth := k8m2) (c := k8c2) (by decide +kernel) rfl rfl rfl (by decide +kernel)
set_option maxRecDepth 65536 in
theorem w_c17 : (Jvm.Cond.code ({ cls := "java/lang/StringLatin1", name := "equals", desc := "([B[B)Z" } : Jvm.MethodName) jdk_43_method_13_code (3 : Nat) (Option.some Jvm.ClassFile.FieldType.boolean)).before args0 about1 = true := code_word (m := ⟨11, 2⟩) (meth := k11m2) (c := k11c2) (by decide +kernel) rfl rfl rfl (by decide +kernel)
set_option maxRecDepth 65536 in
theorem w_c18 : (Jvm.Cond.code ({ cls := "java/lang/String", name := "<init>", desc := "([C)V" } : Jvm.MethodName) jdk_42_method_3_code (2 : Nat) (Option.none : Option Jvm.ClassFile.FieldType)).before args0 about1 = true := code_word (m := ⟨8, 1⟩) (meth := k8m1) (c := k8c1) (by decide +kernel) rfl rfl rfl (by decide +kernel)
set_option maxRecDepth 65536 in
theorem w_c19 : (Jvm.Cond.code ({ cls := "java/lang/String", name := "<init>", desc := "([CIILjava/lang/Void;)V" } : Jvm.MethodName) jdk_42_method_149_code (6 : Nat) (Option.none : Option Jvm.ClassFile.FieldType)).before args0 about1 = true := code_word (m := ⟨8, 5⟩) (meth := k8m5) (c := k8c5) (by decide +kernel) rfl rfl rfl (by decide +kernel)
set_option maxRecDepth 65536 in
theorem w_c20 : (Jvm.Cond.code ({ cls := "java/lang/StringUTF16", name := "compress", desc := "([CII)[B" } : Jvm.MethodName) jdk_52_method_16_code (6 : Nat) (Option.some (Jvm.ClassFile.FieldType.array Jvm.ClassFile.FieldType.byte))).before args0 about1 = true := code_word (m := ⟨12, 2⟩) (meth := k12m2) (c := k12c2) (by decide +kernel) rfl rfl rfl (by decide +kernel)
set_option maxRecDepth 65536 in
theorem w_c21 : (Jvm.Cond.code ({ cls := "java/lang/StringUTF16", name := "compress", desc := "([CI[BII)I" } : Jvm.MethodName) jdk_52_method_21_code (7 : Nat) (Option.some Jvm.ClassFile.FieldType.int)).before args0 about1 = true := code_word (m := ⟨12, 3⟩) (meth := k12m3) (c := k12c3) (by decide +kernel) rfl rfl rfl (by decide +kernel)
set_option maxRecDepth 65536 in
theorem w_c22 : (Jvm.Cond.code ({ cls := "java/lang/StringUTF16", name := "coderFromArrayLen", desc := "([BI)B" } : Jvm.MethodName) jdk_52_method_15_code (2 : Nat) (Option.some Jvm.ClassFile.FieldType.byte)).before args0 about1 = true := code_word (m := ⟨12, 1⟩) (meth := k12m1) (c := k12c1) (by decide +kernel) rfl rfl rfl (by decide +kernel)
def codes1 : List Jvm.Cond := [Jvm.Cond.code x code maxLocals ret, Jvm.Cond.code ({ cls := "com/example/reckoner/reckoner/model/DayOfMonth", name := "numbered", desc := "(I)Lcom/example/reckoner/reckoner/model/DayOfMonth;" } : Jvm.MethodName) prog_9_method_2_code (1 : Nat) (Option.some (Jvm.ClassFile.FieldType.object "com/example/reckoner/reckoner/model/DayOfMonth")), Jvm.Cond.code ({ cls := "com/example/reckoner/reckoner/model/DayOfMonth", name := "<init>", desc := "(I)V" } : Jvm.MethodName) prog_9_method_1_code (2 : Nat) (Option.none : Option Jvm.ClassFile.FieldType), Jvm.Cond.code ({ cls := "java/lang/Object", name := "<init>", desc := "()V" } : Jvm.MethodName) object_method_1_code (1 : Nat) (Option.none : Option Jvm.ClassFile.FieldType), Jvm.Cond.code ({ cls := "com/example/reckoner/reckoner/model/DayOfMonth", name := "isBefore", desc := "(Lcom/example/reckoner/reckoner/model/DayOfMonth;)Z" } : Jvm.MethodName) prog_9_method_4_code (2 : Nat) (Option.some Jvm.ClassFile.FieldType.boolean), Jvm.Cond.code ({ cls := "com/example/reckoner/reckoner/model/DayOfMonth", name := "equals", desc := "(Ljava/lang/Object;)Z" } : Jvm.MethodName) prog_9_method_5_code (3 : Nat) (Option.some Jvm.ClassFile.FieldType.boolean), Jvm.Cond.code ({ cls := "com/example/reckoner/reckoner/model/DayOfMonth", name := "toString", desc := "()Ljava/lang/String;" } : Jvm.MethodName) prog_9_method_7_code (1 : Nat) (Option.some (Jvm.ClassFile.FieldType.object "java/lang/String")), Jvm.Cond.code ({ cls := "java/lang/String", name := "valueOf", desc := "(I)Ljava/lang/String;" } : Jvm.MethodName) jdk_42_method_140_code (1 : Nat) (Option.some (Jvm.ClassFile.FieldType.object "java/lang/String")), Jvm.Cond.code ({ cls := "java/lang/Integer", name := "toString", desc := "(I)Ljava/lang/String;" } : Jvm.MethodName) jdk_33_method_10_code (3 : Nat) (Option.some (Jvm.ClassFile.FieldType.object "java/lang/String")), Jvm.Cond.code ({ cls := "java/lang/Integer", name := "stringSize", desc := "(I)I" } : Jvm.MethodName) jdk_33_method_13_code (4 : Nat) (Option.some Jvm.ClassFile.FieldType.int), Jvm.Cond.code ({ cls := "java/lang/Integer", name := "getChars", desc := "(II[B)I" } : Jvm.MethodName) jdk_33_method_12_code (7 : Nat) (Option.some Jvm.ClassFile.FieldType.int), Jvm.Cond.code ({ cls := "java/lang/String", name := "<init>", desc := "([BB)V" } : Jvm.MethodName) jdk_42_method_151_code (3 : Nat) (Option.none : Option Jvm.ClassFile.FieldType), Jvm.Cond.code ({ cls := "com/example/reckoner/reckoner/model/DayOfMonthNumberedPinLaw", name := "expected", desc := "(I)Ljava/lang/String;" } : Jvm.MethodName) method_2_code (2 : Nat) (Option.some (Jvm.ClassFile.FieldType.object "java/lang/String")), Jvm.Cond.code ({ cls := "java/lang/String", name := "valueOf", desc := "(C)Ljava/lang/String;" } : Jvm.MethodName) jdk_42_method_139_code (1 : Nat) (Option.some (Jvm.ClassFile.FieldType.object "java/lang/String")), Jvm.Cond.code ({ cls := "java/lang/StringLatin1", name := "canEncode", desc := "(C)Z" } : Jvm.MethodName) jdk_43_method_3_code (1 : Nat) (Option.some Jvm.ClassFile.FieldType.boolean), Jvm.Cond.code ({ cls := "java/lang/StringLatin1", name := "toBytes", desc := "(C)[B" } : Jvm.MethodName) jdk_43_method_46_code (1 : Nat) (Option.some (Jvm.ClassFile.FieldType.array Jvm.ClassFile.FieldType.byte)), Jvm.Cond.code ({ cls := "java/lang/String", name := "equals", desc := "(Ljava/lang/Object;)Z" } : Jvm.MethodName) jdk_42_method_66_code (3 : Nat) (Option.some Jvm.ClassFile.FieldType.boolean), Jvm.Cond.code ({ cls := "java/lang/StringLatin1", name := "equals", desc := "([B[B)Z" } : Jvm.MethodName) jdk_43_method_13_code (3 : Nat) (Option.some Jvm.ClassFile.FieldType.boolean), Jvm.Cond.code ({ cls := "java/lang/String", name := "<init>", desc := "([C)V" } : Jvm.MethodName) jdk_42_method_3_code (2 : Nat) (Option.none : Option Jvm.ClassFile.FieldType), Jvm.Cond.code ({ cls := "java/lang/String", name := "<init>", desc := "([CIILjava/lang/Void;)V" } : Jvm.MethodName) jdk_42_method_149_code (6 : Nat) (Option.none : Option Jvm.ClassFile.FieldType), Jvm.Cond.code ({ cls := "java/lang/StringUTF16", name := "compress", desc := "([CII)[B" } : Jvm.MethodName) jdk_52_method_16_code (6 : Nat) (Option.some (Jvm.ClassFile.FieldType.array Jvm.ClassFile.FieldType.byte)), Jvm.Cond.code ({ cls := "java/lang/StringUTF16", name := "compress", desc := "([CI[BII)I" } : Jvm.MethodName) jdk_52_method_21_code (7 : Nat) (Option.some Jvm.ClassFile.FieldType.int), Jvm.Cond.code ({ cls := "java/lang/StringUTF16", name := "coderFromArrayLen", desc := "([BI)B" } : Jvm.MethodName) jdk_52_method_15_code (2 : Nat) (Option.some Jvm.ClassFile.FieldType.byte)]
set_option maxRecDepth 65536 in
theorem codes_eq : words1.filter isCode = codes1 := rfl
theorem w_codes : ∀ c ∈ words1.filter isCode, c.before args0 about1 = true := by
  rw [codes_eq]
  intro c hc
  simp only [codes1, List.mem_cons, List.not_mem_nil, or_false] at hc
  rcases hc with rfl | rfl | rfl | rfl | rfl | rfl | rfl | rfl | rfl | rfl | rfl | rfl | rfl | rfl | rfl | rfl | rfl | rfl | rfl | rfl | rfl | rfl | rfl
  · exact w_c0
  · exact w_c1
  · exact w_c2
  · exact w_c3
  · exact w_c4
  · exact w_c5
  · exact w_c6
  · exact w_c7
  · exact w_c8
  · exact w_c9
  · exact w_c10
  · exact w_c11
  · exact w_c12
  · exact w_c13
  · exact w_c14
  · exact w_c15
  · exact w_c16
  · exact w_c17
  · exact w_c18
  · exact w_c19
  · exact w_c20
  · exact w_c21
  · exact w_c22
set_option maxRecDepth 65536 in
theorem w_t1 : (words1.take 24).all (fun c => isCode c || c.before args0 about1) = true := by decide +kernel
set_option maxRecDepth 65536 in
theorem w_t2 : ((words1.drop 24).take 24).all (fun c => isCode c || c.before args0 about1) = true := by decide +kernel
set_option maxRecDepth 65536 in
theorem w_t3 : (((words1.drop 24).drop 24).take 24).all (fun c => isCode c || c.before args0 about1) = true := by decide +kernel
set_option maxRecDepth 65536 in
theorem w_t4 : ((((words1.drop 24).drop 24).drop 24).take 24).all (fun c => isCode c || c.before args0 about1) = true := by decide +kernel
set_option maxRecDepth 65536 in
theorem w_t5 : ((((words1.drop 24).drop 24).drop 24).drop 24).all (fun c => isCode c || c.before args0 about1) = true := by decide +kernel
theorem w_tables : (allAtoms (Jvm.Cond.code x code maxLocals ret :: tables_1)).before args0 about1 = true := by
  rw [allAtoms_all]
  show words1.all (fun c => c.before args0 about1) = true
  refine all_split ?_ w_codes
  rw [← List.take_append_drop 24 words1, List.all_append, w_t1, ← List.take_append_drop 24 (words1.drop 24), List.all_append, w_t2, ← List.take_append_drop 24 ((words1.drop 24).drop 24), List.all_append, w_t3, ← List.take_append_drop 24 (((words1.drop 24).drop 24).drop 24), List.all_append, w_t4, w_t5]
  rfl
set_option maxRecDepth 65536 in
theorem w_rest : rest_1_c.before args0 about1 = true := by decide +kernel
set_option maxRecDepth 65536 in
theorem w_case : (Jvm.Cond.and given_1 narrow_1).before args0 about1 = true := by decide +kernel
theorem w_applies : (headSpec (Jvm.Cond.code x code maxLocals ret :: tables_1) room_1).applies x e0.platform about1 = true :=
  (Spec.applies_iff w_frames).mpr ⟨w_running, w_runnable, w_alone, w_named, w_hears, w_ripe, w_room, w_tables⟩
theorem atStart : AtStart classFile x code maxLocals ret World_1 tables_1 room_1 Calls_1 rest_1 Pre_1 launch0 p0 e0 about1 theMethod args0 below0 :=
  ⟨lists_1, trivial, launch0.admits_env _ _ _, launch0.least_env, fairChoices_fair.cas, fairChoices_fair.clock, w_frames, w_args, w_heap, w_applies, trivial, w_rest, w_case⟩
end start1
theorem witness_1 : WitnessClaimed_1 := ⟨start1.p0, start1.e0, start1.about1, start1.theMethod, start1.args0, start1.below0, start1.atStart⟩
end Jvm.Pilot.@@N@@
