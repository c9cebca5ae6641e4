import JvmDerived
import JvmDerived.Pilot.@@N@@Statement
import JvmDerived.Pilot.@@N@@Code
set_option linter.unusedVariables false
set_option linter.unusedSimpArgs false
/- laws to paste: Road.backV, Road.lenW, Road.chN, Road.eqW, Road.codOf (cut by pick.py; bodies as the Statement names them) -/
namespace Jvm.Pilot.@@N@@
namespace StrChars
open Jvm Sem ClassFile Op Lib Jvm.Stand Jvm.Free.XT Jvm.Free.ALB Jvm.Free.JM Jvm.Free
open Jvm.Lib.Cold (StaticIs)
/-- a char array whose places are chars -/
def Ch (a : Addr) (A : Cell) (U : State) : Prop := Arr .char a A U ∧ Typed .char A
theorem Ch.mv {a : Addr} {A : Cell} {U U' : State} (h : Ch a A U) (hal : U.vm.Alike U'.vm) (hh : U'.heap = U.heap) : Ch a A U' := ⟨h.1.mv hal hh, h.2⟩
theorem Ch.keep {a : Addr} {A : Cell} {U U' : State} (h : Ch a A U) (hal : U.vm.Alike U'.vm) (hk : U'.heap[a]? = some A) : Ch a A U' := ⟨h.1.keep hal hk, h.2⟩
/-- what place i of a char[]'s cell holds -/
def cv (A : Cell) (i : Nat) : Int32 := match A.slots[i]? with | some (.int x) => x | _ => 0
theorem Ch.get {a : Addr} {A : Cell} {U : State} (h : Ch a A U) {i : Nat} (hi : i < A.slots.size) : A.slots[i]? = some (.int (cv A i)) := by
  have e := Array.getElem?_eq_getElem hi
  have f := h.2 i _ e
  unfold cv; rw [e]
  generalize A.slots[i] = v at f
  cases v <;> simp [fits] at f ⊢
/-- the byte that i2b leaves of a char -/
def lo8 (x : Int32) : Int32 := x.toInt8.toInt32
theorem fits_lo8 (y : Int32) : fits .byte (.int (lo8 y)) = true := by
  have h1 := y.toInt8.le_toInt
  have h2 := y.toInt8.toInt_lt
  simp only [lo8, fits, Bool.and_eq_true, decide_eq_true_eq, Int32.le_iff_toInt_le, Int8.toInt_toInt32, show (-128 : Int32).toInt = -128 from by decide, show (127 : Int32).toInt = 127 from by decide]
  omega
/-- A' is A but that each place j of lo .. hi - 1 holds f j -/
def Laid (A A' : Cell) (lo hi : Nat) (f : Nat → Value) : Prop := A'.cls = A.cls ∧ A'.vm = A.vm ∧ A'.slots.size = A.slots.size ∧ ∀ i, A'.slots[i]? = if lo ≤ i ∧ i < hi then some (f i) else A.slots[i]?
theorem Laid.zero (A : Cell) (lo : Nat) (f : Nat → Value) : Laid A A lo (lo + 0) f := ⟨rfl, rfl, rfl, fun i => by rw [if_neg (by omega)]⟩
theorem Laid.step {A Ak : Cell} {lo k : Nat} {f : Nat → Value} {v : Value} (h : Laid A Ak lo k f) (hlo : lo ≤ k) (hk : k < Ak.slots.size) (hv : v = f k) : Laid A (Ak.setSlot k v) lo (k + 1) f := by
  refine ⟨h.1, h.2.1, by simpa [Cell.setSlot] using h.2.2.1, fun i => ?_⟩
  by_cases e : k = i
  · subst e; rw [Cell.slots_setSlot_self v hk, if_pos (by omega), hv]
  · rw [Cell.slots_setSlot_ne v e, h.2.2.2 i]
    by_cases q : lo ≤ i ∧ i < k
    · rw [if_pos q, if_pos (by omega)]
    · rw [if_neg q, if_neg (by omega)]
def U16 : String := "java/lang/StringUTF16"
namespace Cmp5
def yN : MethodName := ⟨"java/lang/StringUTF16", "compress", "([CI[BII)I"⟩
abbrev yB : ByteArray := jdk_52_method_21_code
theorem d0 : decode yB 0 = .ok (.iconst 0, 1) := by decide +kernel
theorem d1 : decode yB 1 = .ok (.istore 5, 2) := by decide +kernel
theorem d3 : decode yB 3 = .ok (.iload 5, 2) := by decide +kernel
theorem d5 : decode yB 5 = .ok (.iload 4, 2) := by decide +kernel
theorem d7 : decode yB 7 = .ok (.if_icmp (.ge) 37, 3) := by decide +kernel
theorem d10 : decode yB 10 = .ok (.aload_n 0, 1) := by decide +kernel
theorem d11 : decode yB 11 = .ok (.iload_n 1, 1) := by decide +kernel
theorem d12 : decode yB 12 = .ok (.caload, 1) := by decide +kernel
theorem d13 : decode yB 13 = .ok (.istore 6, 2) := by decide +kernel
theorem d15 : decode yB 15 = .ok (.iload 6, 2) := by decide +kernel
theorem d17 : decode yB 17 = .ok (.sipush 255, 3) := by decide +kernel
theorem d20 : decode yB 20 = .ok (.if_icmp (.le) 6, 3) := by decide +kernel
theorem d26 : decode yB 26 = .ok (.aload_n 2, 1) := by decide +kernel
theorem d27 : decode yB 27 = .ok (.iload_n 3, 1) := by decide +kernel
theorem d28 : decode yB 28 = .ok (.iload 6, 2) := by decide +kernel
theorem d30 : decode yB 30 = .ok (.i2b, 1) := by decide +kernel
theorem d31 : decode yB 31 = .ok (.bastore, 1) := by decide +kernel
theorem d32 : decode yB 32 = .ok (.iinc 1 1, 3) := by decide +kernel
theorem d35 : decode yB 35 = .ok (.iinc 3 1, 3) := by decide +kernel
theorem d38 : decode yB 38 = .ok (.iinc 5 1, 3) := by decide +kernel
theorem d41 : decode yB 41 = .ok (.goto (-38), 3) := by decide +kernel
theorem d44 : decode yB 44 = .ok (.iload 4, 2) := by decide +kernel
theorem d46 : decode yB 46 = .ok (.ireturn, 1) := by decide +kernel
def site : List Cond := []
def tab : Cond := tabOf yN yB 7 (some .int) site
def P (b : Addr) (A : Cell) (d : Addr) (B : Cell) (o q len : Nat) (args : Array Value) (s : State) : Prop := args = #[.ref b, .int (Int32.ofNat o), .ref d, .int (Int32.ofNat q), .int (Int32.ofNat len)] ∧ Ch b A s ∧ Arr .byte d B s ∧ b ≠ d ∧ o + len ≤ A.slots.size ∧ q + len ≤ B.slots.size ∧ ∀ i, i < len → ¬ 255 < cv A (o + i)
def E (b : Addr) (A : Cell) (d : Addr) (B : Cell) (o q len : Nat) (r : Option Value) (s u : State) : Prop := r = some (.int (Int32.ofNat len)) ∧ ∃ B', Put d B' s u ∧ Laid B B' q (q + len) (fun j => Value.int (lo8 (cv A (o + (j - q)))))
/-- no char of the range above 255: len; the places written hold each char's low byte -/
theorem law (l : Launch) (b : Addr) (A : Cell) (d : Addr) (B : Cell) (o q len : Nat) : Law l yN 5 5 0 0 yB 7 (some .int) site (P b A d B o q len) (E b A d B o q len) (copyLocs d q len) 0 0 := by
  refine Law.of_walk (plainFor_of_name (by decide +kernel)) (by decide +kernel) (by decide +kernel) (by decide) (fun _ _ h => by rw [h.1]; rfl) (fun _ U U' hal hh h => ⟨h.1, h.2.1.mv hal hh, h.2.2.1.mv hal hh, h.2.2.2⟩) (fun r U U' V V' h1 hal h2 h => ⟨h.1, h.2.elim fun B' q => ⟨B', q.1.mv h1 h2, q.2⟩⟩) ?_
  intro p e s m args below meth c s₁ X0 hexec hbytes hml hret hlk hnm hown hh0 W hP
  obtain ⟨rfl, hA, hB, hne, l1, l2, hp⟩ := hP
  have c1 : Steps p.tables e below (s₁.setTop (entryFrame m #[.ref b, .int (Int32.ofNat o), .ref d, .int (Int32.ofNat q), .int (Int32.ofNat len)] 7)) (s₁.setTop (mkF m 0 #[.val (.ref b), .val (.int (Int32.ofNat o)), .val (.ref d), .val (.int (Int32.ofNat q)), .val (.int (Int32.ofNat len)), .unset, .unset] [])) := entry rfl
  have hA0 := hA.1.mv X0.warmed.alike hh0
  have hB0 := hB.mv X0.warmed.alike hh0
  have a31 := hA.1.2.2.2
  have c2 : Steps p.tables e below (s₁.setTop (entryFrame m #[.ref b, .int (Int32.ofNat o), .ref d, .int (Int32.ofNat q), .int (Int32.ofNat len)] 7)) (s₁.setTop (mkF m 3 #[.val (.ref b), .val (.int (Int32.ofNat o)), .val (.ref d), .val (.int (Int32.ofNat q)), .val (.int (Int32.ofNat len)), .val (.int 0), .unset] [])) := c1.trans (by
    refine iconstV X0.here hexec rfl 0 (hb hbytes d0) (by decide) ?_
    refine XS.istore X0.here hexec rfl (hb hbytes d1) rfl rfl ?_
    exact Steps.refl _)
  have loop : ∀ (r i : Nat), i + r = len → ∀ (z : Slot), (z = .unset ∨ ∃ w, z = .val w ∧ w.category = 1) → ∀ (Tl : State) (Bk : Cell), Stand p l e { frames := 0, locals := 0, cells := 0, slots := 0 } s m #[.ref b, .int (Int32.ofNat o), .ref d, .int (Int32.ofNat q), .int (Int32.ofNat len)] below meth c Tl ([] ++ copyLocs d q i) 0 0 → Put d Bk s₁ Tl → Laid B Bk q (q + i) (fun j => Value.int (lo8 (cv A (o + (j - q))))) →
      Steps p.tables e below (s₁.setTop (entryFrame m #[.ref b, .int (Int32.ofNat o), .ref d, .int (Int32.ofNat q), .int (Int32.ofNat len)] 7)) (Tl.setTop (mkF m 3 #[.val (.ref b), .val (.int (Int32.ofNat (o + i))), .val (.ref d), .val (.int (Int32.ofNat (q + i))), .val (.int (Int32.ofNat len)), .val (.int (Int32.ofNat i)), z] [])) → ∃ (T' : State) (B' : Cell) (z' : Slot), Stand p l e { frames := 0, locals := 0, cells := 0, slots := 0 } s m #[.ref b, .int (Int32.ofNat o), .ref d, .int (Int32.ofNat q), .int (Int32.ofNat len)] below meth c T' ([] ++ copyLocs d q len) 0 0 ∧ Put d B' s₁ T' ∧ Laid B B' q (q + len) (fun j => Value.int (lo8 (cv A (o + (j - q))))) ∧
      Steps p.tables e below (s₁.setTop (entryFrame m #[.ref b, .int (Int32.ofNat o), .ref d, .int (Int32.ofNat q), .int (Int32.ofNat len)] 7)) (T'.setTop (mkF m 3 #[.val (.ref b), .val (.int (Int32.ofNat (o + len))), .val (.ref d), .val (.int (Int32.ofNat (q + len))), .val (.int (Int32.ofNat len)), .val (.int (Int32.ofNat len)), z'] [])) := by
    intro r
    induction r with
    | zero =>
      intro i hi z hz Tl Bk Xl pl fl cl
      have hil : i = len := by omega
      rw [hil] at Xl fl cl
      exact ⟨Tl, Bk, z, Xl, pl, fl, cl⟩
    | succ r ih =>
      intro i hi z hz Tl Bk Xl pl fl cl
      have all := X0.warmed.alike.symm.trans Xl.warmed.alike
      have hAl := hA0.keep all (pl.other hne hA0.1)
      have hBk := hB0.like all pl.1 fl.1 fl.2.1 fl.2.2.1
      have hlt : q + i < Bk.slots.size := by rw [fl.2.2.1]; omega
      have c3 : Steps p.tables e below (s₁.setTop (entryFrame m #[.ref b, .int (Int32.ofNat o), .ref d, .int (Int32.ofNat q), .int (Int32.ofNat len)] 7)) (Tl.setTop (mkF m 12 #[.val (.ref b), .val (.int (Int32.ofNat (o + i))), .val (.ref d), .val (.int (Int32.ofNat (q + i))), .val (.int (Int32.ofNat len)), .val (.int (Int32.ofNat i)), z] [.int (Int32.ofNat (o + i)), .ref b])) := cl.trans (by
        refine XS.iload Xl.here hexec rfl (hb hbytes d3) rfl ?_
        refine XS.iload Xl.here hexec rfl (hb hbytes d5) rfl ?_
        refine XS.icmpNo Xl.here hexec rfl (hb hbytes d7) rfl (ii_ge_f (lt32 (by omega) (by omega))) ?_
        refine XS.aloadN Xl.here hexec rfl (hb hbytes d10) rfl rfl ?_
        refine XS.iloadN Xl.here hexec rfl (hb hbytes d11) rfl ?_
        exact Steps.refl _)
      have c4 : Steps p.tables e below (s₁.setTop (entryFrame m #[.ref b, .int (Int32.ofNat o), .ref d, .int (Int32.ofNat q), .int (Int32.ofNat len)] 7)) (Tl.setTop (mkF m 13 #[.val (.ref b), .val (.int (Int32.ofNat (o + i))), .val (.ref d), .val (.int (Int32.ofNat (q + i))), .val (.int (Int32.ofNat len)), .val (.int (Int32.ofNat i)), z] [.int (cv A (o + i))])) := c3.trans (by
        refine Xl.aget hexec hAl rfl (hA.get (i := o + i) (by omega)) rfl rfl (hb hbytes d12) ?_
        exact Steps.refl _)
      have c5 : Steps p.tables e below (s₁.setTop (entryFrame m #[.ref b, .int (Int32.ofNat o), .ref d, .int (Int32.ofNat q), .int (Int32.ofNat len)] 7)) (Tl.setTop (mkF m 15 #[.val (.ref b), .val (.int (Int32.ofNat (o + i))), .val (.ref d), .val (.int (Int32.ofNat (q + i))), .val (.int (Int32.ofNat len)), .val (.int (Int32.ofNat i)), .val (.int (cv A (o + i)))] [])) := c4.trans (by
        refine XS.istoreS Xl.here hexec rfl (hb hbytes d13) rfl rfl hz ?_
        exact Steps.refl _)
      have c6 : Steps p.tables e below (s₁.setTop (entryFrame m #[.ref b, .int (Int32.ofNat o), .ref d, .int (Int32.ofNat q), .int (Int32.ofNat len)] 7)) (Tl.setTop (mkF m 31 #[.val (.ref b), .val (.int (Int32.ofNat (o + i))), .val (.ref d), .val (.int (Int32.ofNat (q + i))), .val (.int (Int32.ofNat len)), .val (.int (Int32.ofNat i)), .val (.int (cv A (o + i)))] [.int (lo8 (cv A (o + i))), .int (Int32.ofNat (q + i)), .ref d])) := c5.trans (by
        refine XS.iload Xl.here hexec rfl (hb hbytes d15) rfl ?_
        refine sipushV Xl.here hexec rfl 255 (hb hbytes d17) (by decide) ?_
        refine XS.icmpYes Xl.here hexec rfl (pc0 := 20) rfl (hb hbytes d20) rfl (ii_le_t (hp i (by omega))) (by decide) rfl ?_
        refine XS.aloadN Xl.here hexec rfl (hb hbytes d26) rfl rfl ?_
        refine XS.iloadN Xl.here hexec rfl (hb hbytes d27) rfl ?_
        refine XS.iload Xl.here hexec rfl (hb hbytes d28) rfl ?_
        refine i2b Xl.here hexec rfl (hb hbytes d30) rfl ?_
        exact Steps.refl _)
      obtain ⟨T7, X7, p7, st7⟩ := Xl.aput hexec hBk rfl hlt rfl (fits_lo8 (cv A (o + i))) (g := (mkF m 31 #[.val (.ref b), .val (.int (Int32.ofNat (o + i))), .val (.ref d), .val (.int (Int32.ofNat (q + i))), .val (.int (Int32.ofNat len)), .val (.int (Int32.ofNat i)), .val (.int (cv A (o + i)))] [.int (lo8 (cv A (o + i))), .int (Int32.ofNat (q + i)), .ref d])) rfl (rest := []) rfl (hb hbytes d31)
      have c8 : Steps p.tables e below (s₁.setTop (entryFrame m #[.ref b, .int (Int32.ofNat o), .ref d, .int (Int32.ofNat q), .int (Int32.ofNat len)] 7)) (T7.setTop (mkF m 32 #[.val (.ref b), .val (.int (Int32.ofNat (o + i))), .val (.ref d), .val (.int (Int32.ofNat (q + i))), .val (.int (Int32.ofNat len)), .val (.int (Int32.ofNat i)), .val (.int (cv A (o + i)))] [])) := c6.trans (st7 _ (Steps.refl _))
      have c9 : Steps p.tables e below (s₁.setTop (entryFrame m #[.ref b, .int (Int32.ofNat o), .ref d, .int (Int32.ofNat q), .int (Int32.ofNat len)] 7)) (T7.setTop (mkF m 3 #[.val (.ref b), .val (.int (Int32.ofNat (o + i) + 1)), .val (.ref d), .val (.int (Int32.ofNat (q + i) + 1)), .val (.int (Int32.ofNat len)), .val (.int (Int32.ofNat i + 1)), .val (.int (cv A (o + i)))] [])) := c8.trans (by
        refine iincV X7.here hexec rfl 1 (hb hbytes d32) (by decide) rfl rfl ?_
        refine iincV X7.here hexec rfl 1 (hb hbytes d35) (by decide) rfl rfl ?_
        refine iincV X7.here hexec rfl 1 (hb hbytes d38) (by decide) rfl rfl ?_
        refine XS.goto X7.here hexec rfl (pc0 := 41) rfl (hb hbytes d41) (by decide) rfl ?_
        exact Steps.refl _)
      have c10 : Steps p.tables e below (s₁.setTop (entryFrame m #[.ref b, .int (Int32.ofNat o), .ref d, .int (Int32.ofNat q), .int (Int32.ofNat len)] 7)) (T7.setTop (mkF m 3 #[.val (.ref b), .val (.int (Int32.ofNat (o + (i + 1)))), .val (.ref d), .val (.int (Int32.ofNat (q + (i + 1)))), .val (.int (Int32.ofNat len)), .val (.int (Int32.ofNat (i + 1))), .val (.int (cv A (o + i)))] [])) := by
        have := c9
        rw [succ32, succ32, succ32] at this
        exact this
      exact ih (i + 1) (by omega) _ (Or.inr ⟨_, rfl, rfl⟩) T7 _ (by rw [copyLocs_step, ← List.append_assoc]; exact X7) (pl.trans p7) (fl.step (by omega) hlt (by simp)) c10
  obtain ⟨T9, B9, z9, X9, p9, f9, g9⟩ := loop len 0 (by omega) .unset (Or.inl rfl) s₁ B (by simpa [copyLocs] using X0) ⟨hB0.1, fun _ _ => rfl, rfl⟩ (Laid.zero _ _ _) c2
  have c11 : Steps p.tables e below (s₁.setTop (entryFrame m #[.ref b, .int (Int32.ofNat o), .ref d, .int (Int32.ofNat q), .int (Int32.ofNat len)] 7)) (T9.setTop (mkF m 46 #[.val (.ref b), .val (.int (Int32.ofNat (o + len))), .val (.ref d), .val (.int (Int32.ofNat (q + len))), .val (.int (Int32.ofNat len)), .val (.int (Int32.ofNat len)), z9] [.int (Int32.ofNat len)])) := g9.trans (by
    refine XS.iload X9.here hexec rfl (hb hbytes d3) rfl ?_
    refine XS.iload X9.here hexec rfl (hb hbytes d5) rfl ?_
    refine XS.icmpYes X9.here hexec rfl (pc0 := 7) rfl (hb hbytes d7) rfl (ii_ge_t (nlt32 (by omega) (Nat.le_refl _))) (by decide) rfl ?_
    refine XS.iload X9.here hexec rfl (hb hbytes d44) rfl ?_
    exact Steps.refl _)
  exact ⟨T9, some (.int (Int32.ofNat len)), _, _, _, X9, by simp, rfl, rfl, (fun h => by cases h), ⟨rfl, B9, p9.from hh0, f9⟩, fun fs hl => c11.trans (X9.ireturnOut hexec hret rfl (Or.inl rfl) (hb hbytes d46) hl)⟩
end Cmp5
namespace Cmp3
def yN : MethodName := ⟨"java/lang/StringUTF16", "compress", "([CII)[B"⟩
abbrev yB : ByteArray := jdk_52_method_16_code
theorem d0 : decode yB 0 = .ok (.iload_n 2, 1) := by decide +kernel
theorem d1 : decode yB 1 = .ok (.newarray .byte, 2) := by decide +kernel
theorem d3 : decode yB 3 = .ok (.astore_n 3, 1) := by decide +kernel
theorem d4 : decode yB 4 = .ok (.aload_n 0, 1) := by decide +kernel
theorem d5 : decode yB 5 = .ok (.iload_n 1, 1) := by decide +kernel
theorem d6 : decode yB 6 = .ok (.aload_n 3, 1) := by decide +kernel
theorem d7 : decode yB 7 = .ok (.iconst 0, 1) := by decide +kernel
theorem d8 : decode yB 8 = .ok (.iload_n 2, 1) := by decide +kernel
theorem d9 : decode yB 9 = .ok (.invokestatic 115, 3) := by decide +kernel
theorem d12 : decode yB 12 = .ok (.istore 4, 2) := by decide +kernel
theorem d14 : decode yB 14 = .ok (.iload 4, 2) := by decide +kernel
theorem d16 : decode yB 16 = .ok (.iload_n 2, 1) := by decide +kernel
theorem d17 : decode yB 17 = .ok (.if_icmp (.eq) 40, 3) := by decide +kernel
theorem d57 : decode yB 57 = .ok (.aload_n 3, 1) := by decide +kernel
theorem d58 : decode yB 58 = .ok (.areturn, 1) := by decide +kernel
def site : List Cond := [.arrayClass .byte, Cmp5.tab] ++ staticW U16 115 Cmp5.yN
def tab : Cond := tabOf yN yB 6 (some (.array .byte)) site
def P (b : Addr) (A : Cell) (o len : Nat) (args : Array Value) (s : State) : Prop := args = #[.ref b, .int (Int32.ofNat o), .int (Int32.ofNat len)] ∧ Ch b A s ∧ o + len ≤ A.slots.size ∧ len ≤ 536870912 ∧ ∀ i, i < len → ¬ 255 < cv A (o + i)
def E (b : Addr) (A : Cell) (o len : Nat) (r : Option Value) (s u : State) : Prop := NewArr .byte "[B" len (fun j => .int (lo8 (cv A (o + j)))) r s u ∧ u.heap.size = s.heap.size + 1
/-- no char of the range above 255: a new byte[] of their low bytes -/
theorem law (l : Launch) (b : Addr) (A : Cell) (o len : Nat) : Law l yN 3 3 1 18 yB 6 (some (.array .byte)) site (P b A o len) (E b A o len) [] 1 len := by
  refine Law.of_walk (plainFor_of_name (by decide +kernel)) (by decide +kernel) (by decide +kernel) (by decide) (fun _ _ h => by rw [h.1]; rfl) (fun _ U U' hal hh h => ⟨h.1, h.2.1.mv hal hh, h.2.2⟩) (fun r U U' V V' h1 hal h2 h => ⟨NewArr.mv r U U' V V' h1 hal h2 h.1, by rw [h1, h2]; exact h.2⟩) ?_
  intro p e s m args below meth c s₁ X0 hexec hbytes hml hret hlk hnm hown hh0 W hP
  obtain ⟨rfl, hA, l1, l2, hp⟩ := hP
  have a31 := hA.1.2.2.2
  have c1 : Steps p.tables e below (s₁.setTop (entryFrame m #[.ref b, .int (Int32.ofNat o), .int (Int32.ofNat len)] 6)) (s₁.setTop (mkF m 0 #[.val (.ref b), .val (.int (Int32.ofNat o)), .val (.int (Int32.ofNat len)), .unset, .unset, .unset] [])) := entry rfl
  have c2 : Steps p.tables e below (s₁.setTop (entryFrame m #[.ref b, .int (Int32.ofNat o), .int (Int32.ofNat len)] 6)) (s₁.setTop (mkF m 1 #[.val (.ref b), .val (.int (Int32.ofNat o)), .val (.int (Int32.ofNat len)), .unset, .unset, .unset] [.int (Int32.ofNat len)])) := c1.trans (by
    refine XS.iloadN X0.here hexec rfl (hb hbytes d0) rfl ?_
    exact Steps.refl _)
  obtain ⟨T3, B3, X3, ba3, bs3, bv3, bh3, bf3, st3⟩ := X0.anew hexec (atype := .byte) (wk W (.arrayClass .byte)) rfl (by show len * 1 ≤ _; omega) (by omega) (g := (mkF m 1 #[.val (.ref b), .val (.int (Int32.ofNat o)), .val (.int (Int32.ofNat len)), .unset, .unset, .unset] [.int (Int32.ofNat len)])) rfl (hb hbytes d1) (rest := []) rfl (Nat.le_refl _) (by show 0 + len ≤ len; omega)
  rw [hh0] at ba3 st3
  have kp3 : XT.Kept s T3 := (XT.Kept.of_eq hh0).push bh3
  have hA3 := hA.keep X3.warmed.alike (kp3 _ _ hA.1.1)
  have hne : b ≠ s.heap.size := hA.1.ne
  have c4 : Steps p.tables e below (s₁.setTop (entryFrame m #[.ref b, .int (Int32.ofNat o), .int (Int32.ofNat len)] 6)) (T3.setTop (mkF m 3 #[.val (.ref b), .val (.int (Int32.ofNat o)), .val (.int (Int32.ofNat len)), .unset, .unset, .unset] [.ref s.heap.size])) := c2.trans (st3 _ (Steps.refl _))
  have c5 : Steps p.tables e below (s₁.setTop (entryFrame m #[.ref b, .int (Int32.ofNat o), .int (Int32.ofNat len)] 6)) (T3.setTop (mkF m 9 #[.val (.ref b), .val (.int (Int32.ofNat o)), .val (.int (Int32.ofNat len)), .val (.ref s.heap.size), .unset, .unset] [.int (Int32.ofNat len), .int 0, .ref s.heap.size, .int (Int32.ofNat o), .ref b])) := c4.trans (by
    refine XS.astoreN X3.here hexec rfl (hb hbytes d3) rfl rfl rfl ?_
    refine XS.aloadN X3.here hexec rfl (hb hbytes d4) rfl rfl ?_
    refine XS.iloadN X3.here hexec rfl (hb hbytes d5) rfl ?_
    refine XS.aloadN X3.here hexec rfl (hb hbytes d6) rfl rfl ?_
    refine iconstV X3.here hexec rfl 0 (hb hbytes d7) (by decide) ?_
    refine XS.iloadN X3.here hexec rfl (hb hbytes d8) rfl ?_
    exact Steps.refl _)
  obtain ⟨v6, T6, X6, E6, g6⟩ := X3.callS hexec (Cmp5.law l b A s.heap.size B3 o 0 len) hown (wks W (staticW U16 115 Cmp5.yN)) (wk W Cmp5.tab) (W := 0) (Nat.le_of_ble_eq_true rfl) (Nat.le_of_ble_eq_true rfl) (Nat.le_refl _) (by show 0 + len + 0 ≤ len; omega) (g := (mkF m 9 #[.val (.ref b), .val (.int (Int32.ofNat o)), .val (.int (Int32.ofNat len)), .val (.ref s.heap.size), .unset, .unset] [.int (Int32.ofNat len), .int (Int32.ofNat 0), .ref s.heap.size, .int (Int32.ofNat o), .ref b])) rfl (by rw [hml]; rfl) c5 (argsL := [.ref b, .int (Int32.ofNat o), .ref s.heap.size, .int (Int32.ofNat 0), .int (Int32.ofNat len)]) (rest := []) rfl rfl (by show 2 * 0 + 0 ≤ _; decide) (hb hbytes d9) (⟨rfl, hA3, ba3, hne, l1, by rw [bs3]; simp, hp⟩)
  obtain ⟨rfl, B6, p6, f6⟩ := E6
  have c7 : Steps p.tables e below (s₁.setTop (entryFrame m #[.ref b, .int (Int32.ofNat o), .int (Int32.ofNat len)] 6)) (T6.setTop (mkF m 12 #[.val (.ref b), .val (.int (Int32.ofNat o)), .val (.int (Int32.ofNat len)), .val (.ref s.heap.size), .unset, .unset] [.int (Int32.ofNat len)])) := g6
  have c8 : Steps p.tables e below (s₁.setTop (entryFrame m #[.ref b, .int (Int32.ofNat o), .int (Int32.ofNat len)] 6)) (T6.setTop (mkF m 58 #[.val (.ref b), .val (.int (Int32.ofNat o)), .val (.int (Int32.ofNat len)), .val (.ref s.heap.size), .val (.int (Int32.ofNat len)), .unset] [.ref s.heap.size])) := c7.trans (by
    refine XS.istore X6.here hexec rfl (hb hbytes d12) rfl rfl ?_
    refine XS.iload X6.here hexec rfl (hb hbytes d14) rfl ?_
    refine XS.iloadN X6.here hexec rfl (hb hbytes d16) rfl ?_
    refine XS.icmpYes X6.here hexec rfl (pc0 := 17) rfl (hb hbytes d17) rfl (ii_eq_t rfl) (by decide) rfl ?_
    refine XS.aloadN X6.here hexec rfl (hb hbytes d57) rfl rfl ?_
    exact Steps.refl _)
  have X8 := X6.wide (L' := []) (cells' := 1) (slots' := len) (fun x hx hlt => by
    simp only [List.nil_append, copyLocs, List.mem_map, List.mem_range] at hx
    obtain ⟨i, -, rfl⟩ := hx
    exact absurd hlt (Nat.lt_irrefl _)) (Nat.le_refl _) (by omega)
  exact ⟨T6, some (.ref s.heap.size), _, _, _, X8, rfl, rfl, rfl, (fun h => by cases h), ⟨⟨rfl, B6, ba3.like (X3.warmed.alike.symm.trans X6.warmed.alike) p6.1 f6.1 f6.2.1 f6.2.2.1, f6.2.1.trans bv3, by rw [X6.warmed.alike.findClass, f6.1]; exact bf3, by rw [f6.2.2.1, bs3]; simp, fun j hj => by rw [f6.2.2.2 j, if_pos (by omega)]; rfl, kp3.put p6 (Nat.le_refl _)⟩, by rw [p6.2.2, bh3, hh0]; simp⟩, fun fs hl => c8.trans (X8.areturnOut hexec rfl hret rfl (hb hbytes d58) hl)⟩
end Cmp3
namespace CodL
def yN : MethodName := ⟨"java/lang/StringUTF16", "coderFromArrayLen", "([BI)B"⟩
abbrev yB : ByteArray := jdk_52_method_15_code
theorem d0 : decode yB 0 = .ok (.iload_n 1, 1) := by decide +kernel
theorem d1 : decode yB 1 = .ok (.aload_n 0, 1) := by decide +kernel
theorem d2 : decode yB 2 = .ok (.arraylength, 1) := by decide +kernel
theorem d3 : decode yB 3 = .ok (.isub, 1) := by decide +kernel
theorem d4 : decode yB 4 = .ok (.bipush 31, 2) := by decide +kernel
theorem d6 : decode yB 6 = .ok (.iushr, 1) := by decide +kernel
theorem d7 : decode yB 7 = .ok (.i2b, 1) := by decide +kernel
theorem d8 : decode yB 8 = .ok (.ireturn, 1) := by decide +kernel
def site : List Cond := []
def tab : Cond := tabOf yN yB 2 (some .byte) site
def P (d : Addr) (B : Cell) (args : Array Value) (s : State) : Prop := args = #[.ref d, .int (Int32.ofNat B.slots.size)] ∧ Arr .byte d B s
def E (r : Option Value) (s u : State) : Prop := XT.PureE (some (.int 0)) r s u
/-- an array as long as the number of chars: LATIN1 -/
theorem law (l : Launch) (d : Addr) (B : Cell) : Law l yN 2 2 0 0 yB 2 (some .byte) site (P d B) E [] 0 0 := by
  refine Law.of_walk (plainFor_of_name (by decide +kernel)) (by decide +kernel) (by decide +kernel) (by decide) (fun _ _ h => by rw [h.1]; rfl) (fun _ U U' hal hh h => ⟨h.1, h.2.mv hal hh⟩) (fun r U U' V V' h1 hal h2 h => XT.PureE.mv r U U' V V' h1 hal h2 h) ?_
  intro p e s m args below meth c s₁ X0 hexec hbytes hml hret hlk hnm hown hh0 W hP
  obtain ⟨rfl, hB⟩ := hP
  have hB0 := hB.mv X0.warmed.alike hh0
  have c1 : Steps p.tables e below (s₁.setTop (entryFrame m #[.ref d, .int (Int32.ofNat B.slots.size)] 2)) (s₁.setTop (mkF m 0 #[.val (.ref d), .val (.int (Int32.ofNat B.slots.size))] [])) := entry rfl
  have c2 : Steps p.tables e below (s₁.setTop (entryFrame m #[.ref d, .int (Int32.ofNat B.slots.size)] 2)) (s₁.setTop (mkF m 2 #[.val (.ref d), .val (.int (Int32.ofNat B.slots.size))] [.ref d, .int (Int32.ofNat B.slots.size)])) := c1.trans (by
    refine XS.iloadN X0.here hexec rfl (hb hbytes d0) rfl ?_
    refine XS.aloadN X0.here hexec rfl (hb hbytes d1) rfl rfl ?_
    exact Steps.refl _)
  have c3 : Steps p.tables e below (s₁.setTop (entryFrame m #[.ref d, .int (Int32.ofNat B.slots.size)] 2)) (s₁.setTop (mkF m 8 #[.val (.ref d), .val (.int (Int32.ofNat B.slots.size))] [.int (lo8 (ushr (Int32.ofNat B.slots.size - Int32.ofNat B.slots.size) 31))])) := c2.trans (by
    refine X0.alen hexec hB0 rfl rfl (hb hbytes d2) ?_
    refine XS.isub X0.here hexec rfl (hb hbytes d3) rfl ?_
    refine bipushV X0.here hexec rfl 31 (hb hbytes d4) (by decide) ?_
    refine iushr X0.here hexec rfl (hb hbytes d6) rfl ?_
    refine i2b X0.here hexec rfl (hb hbytes d7) rfl ?_
    exact Steps.refl _)
  have e0 : lo8 (ushr (Int32.ofNat B.slots.size - Int32.ofNat B.slots.size) 31) = 0 := by rw [Int32.sub_self]; decide
  rw [e0] at c3
  exact ⟨s₁, some (.int 0), _, _, _, X0, rfl, rfl, rfl, (fun h => by cases h), ⟨rfl, hh0⟩, fun fs hl => c3.trans (X0.ireturnOut hexec hret rfl (Or.inr (Or.inr (Or.inl rfl))) (hb hbytes d8) hl)⟩
end CodL
/-- the String at a is Latin-1 over a new byte[] (the heap's one new cell): the low bytes of the len chars of A from o on; every cell but a is kept -/
def Got (a : Addr) (D : Cell) (fV fC : Field) (A : Cell) (o len : Nat) (r : Option Value) (s u : State) : Prop := r = none ∧ ∃ D' V : Cell, Blank "java/lang/String" a D' u ∧ Same D D' [fV.slot, fC.slot] ∧ D'.slots[fV.slot]? = some (.ref s.heap.size) ∧ D'.slots[fC.slot]? = some (.int 0) ∧ Arr .byte s.heap.size V u ∧ V.vm = .none ∧ u.vm.findClass "[B" = some V.cls ∧ V.slots.size = len ∧ (∀ j, j < len → V.slots[j]? = some (.int (lo8 (cv A (o + j))))) ∧ (∀ (y : Addr) (c : Cell), y ≠ a → s.heap[y]? = some c → u.heap[y]? = some c) ∧ u.heap.size = s.heap.size + 1
theorem Got.mv {a : Addr} {D A : Cell} {fV fC : Field} {o len : Nat} : ∀ r (U U' V V' : State), U'.heap = U.heap → V.vm.Alike V'.vm → V'.heap = V.heap → Got a D fV fC A o len r U V → Got a D fV fC A o len r U' V' :=
  fun r U U' V V' h1 hal h2 ⟨e0, D', X, a1, a2, a3, a4, a5, a6, a7, a8, a9, a10, a11⟩ => ⟨e0, D', X, a1.mv hal h2, a2, by rw [h1]; exact a3, a4, by rw [h1]; exact a5.mv hal h2, a6, by rw [hal.findClass]; exact a7, a8, a9, by rw [h1, h2]; exact a10, by rw [h1, h2]; exact a11⟩
namespace New4
def yN : MethodName := ⟨"java/lang/String", "<init>", "([CIILjava/lang/Void;)V"⟩
abbrev yB : ByteArray := jdk_42_method_149_code
theorem d0 : decode yB 0 = .ok (.aload_n 0, 1) := by decide +kernel
theorem d1 : decode yB 1 = .ok (.invokespecial 1, 3) := by decide +kernel
theorem d4 : decode yB 4 = .ok (.iload_n 3, 1) := by decide +kernel
theorem d5 : decode yB 5 = .ok (.ifCond (.ne) 22, 3) := by decide +kernel
theorem d27 : decode yB 27 = .ok (.getstatic 38, 3) := by decide +kernel
theorem d30 : decode yB 30 = .ok (.ifCond (.eq) 28, 3) := by decide +kernel
theorem d33 : decode yB 33 = .ok (.aload_n 1, 1) := by decide +kernel
theorem d34 : decode yB 34 = .ok (.iload_n 2, 1) := by decide +kernel
theorem d35 : decode yB 35 = .ok (.iload_n 3, 1) := by decide +kernel
theorem d36 : decode yB 36 = .ok (.invokestatic 177, 3) := by decide +kernel
theorem d39 : decode yB 39 = .ok (.astore 5, 2) := by decide +kernel
theorem d41 : decode yB 41 = .ok (.aload_n 0, 1) := by decide +kernel
theorem d42 : decode yB 42 = .ok (.aload 5, 2) := by decide +kernel
theorem d44 : decode yB 44 = .ok (.iload_n 3, 1) := by decide +kernel
theorem d45 : decode yB 45 = .ok (.invokestatic 47, 3) := by decide +kernel
theorem d48 : decode yB 48 = .ok (.putfield 15, 3) := by decide +kernel
theorem d51 : decode yB 51 = .ok (.aload_n 0, 1) := by decide +kernel
theorem d52 : decode yB 52 = .ok (.aload 5, 2) := by decide +kernel
theorem d54 : decode yB 54 = .ok (.putfield 9, 3) := by decide +kernel
theorem d57 : decode yB 57 = .ok (.return_, 1) := by decide +kernel
def site : List Cond := [.fieldLink "java/lang/String" 38 "java/lang/String" "COMPACT_STRINGS" "Z", Cmp3.tab, CodL.tab, .laysFinal "java/lang/String" "java/lang/String" "value" "[B", .fieldLink "java/lang/String" 9 "java/lang/String" "value" "[B", .laysFinal "java/lang/String" "java/lang/String" "coder" "B", .fieldLink "java/lang/String" 15 "java/lang/String" "coder" "B"] ++ objW "java/lang/String" 1 ++ staticW "java/lang/String" 177 Cmp3.yN ++ staticW "java/lang/String" 47 CodL.yN
def tab : Cond := tabOf yN yB 6 none site
def P (a : Addr) (D : Cell) (fV fC : Field) (b : Addr) (A : Cell) (z : Int32) (o len : Nat) (args : Array Value) (s : State) : Prop := args = #[.ref a, .ref b, .int (Int32.ofNat o), .int (Int32.ofNat len), .null] ∧ Blank "java/lang/String" a D s ∧ Found "java/lang/String" "value" "[B" fV s ∧ Found "java/lang/String" "coder" "B" fC s ∧ Ch b A s ∧ StaticIs s "java/lang/String" "COMPACT_STRINGS" "Z" (.int z) ∧ ¬ z = 0 ∧ 0 < len ∧ o + len ≤ A.slots.size ∧ len ≤ 536870912 ∧ ∀ i, i < len → ¬ 255 < cv A (o + i)
def E (a : Addr) (D : Cell) (fV fC : Field) (A : Cell) (o len : Nat) (r : Option Value) (s u : State) : Prop := Got a D fV fC A o len r s u
/-- len > 0, no char of the range above 255: a Latin-1 String of their low bytes -/
theorem law (l : Launch) (a : Addr) (D : Cell) (fV fC : Field) (b : Addr) (A : Cell) (z : Int32) (o len : Nat) : Law l yN 5 4 2 35 yB 6 none site (P a D fV fC b A z o len) (E a D fV fC A o len) [⟨a, fC.slot⟩, ⟨a, fV.slot⟩] 1 len := by
  refine Law.of_walk (plainFor_of_name (by decide +kernel)) (by decide +kernel) (by decide +kernel) (by decide) (fun _ _ h => by rw [h.1]; rfl) (fun _ U U' hal hh h => ⟨h.1, h.2.1.mv hal hh, h.2.2.1.al hal, h.2.2.2.1.al hal, h.2.2.2.2.1.mv hal hh, h.2.2.2.2.2.1.there hal hh, h.2.2.2.2.2.2⟩) (fun r U U' V V' h1 hal h2 h => Got.mv r U U' V V' h1 hal h2 h) ?_
  intro p e s m args below meth c s₁ X0 hexec hbytes hml hret hlk hnm hown hh0 W hP
  obtain ⟨rfl, hB, f1, f2, hA, s1, hz, l0, l1, l2, hp⟩ := hP
  have a31 := hA.1.2.2.2
  have c1 : Steps p.tables e below (s₁.setTop (entryFrame m #[.ref a, .ref b, .int (Int32.ofNat o), .int (Int32.ofNat len), .null] 6)) (s₁.setTop (mkF m 0 #[.val (.ref a), .val (.ref b), .val (.int (Int32.ofNat o)), .val (.int (Int32.ofNat len)), .val .null, .unset] [])) := entry rfl
  have c2 : Steps p.tables e below (s₁.setTop (entryFrame m #[.ref a, .ref b, .int (Int32.ofNat o), .int (Int32.ofNat len), .null] 6)) (s₁.setTop (mkF m 1 #[.val (.ref a), .val (.ref b), .val (.int (Int32.ofNat o)), .val (.int (Int32.ofNat len)), .val .null, .unset] [.ref a])) := c1.trans (by
    refine XS.aloadN X0.here hexec rfl (hb hbytes d0) rfl rfl ?_
    exact Steps.refl _)
  obtain ⟨T3, X3, q3, st3⟩ := X0.oinit hexec hown (wks W (objW "java/lang/String" 1)) (g := (mkF m 1 #[.val (.ref a), .val (.ref b), .val (.int (Int32.ofNat o)), .val (.int (Int32.ofNat len)), .val .null, .unset] [.ref a])) rfl (by rw [hml]; rfl) (rest := []) rfl (hb hbytes d1) (W := 0) (by show 2 * 0 + 0 ≤ _; decide) (Nat.le_of_ble_eq_true rfl) (Nat.le_of_ble_eq_true rfl)
  have hh3 := q3.trans hh0
  have c4 : Steps p.tables e below (s₁.setTop (entryFrame m #[.ref a, .ref b, .int (Int32.ofNat o), .int (Int32.ofNat len), .null] 6)) (T3.setTop (mkF m 27 #[.val (.ref a), .val (.ref b), .val (.int (Int32.ofNat o)), .val (.int (Int32.ofNat len)), .val .null, .unset] [])) := (c2.trans (st3 _ (Steps.refl _))).trans (by
    refine XS.iloadN X3.here hexec rfl (hb hbytes d4) rfl ?_
    refine XS.ifYes X3.here hexec rfl (pc0 := 5) rfl (hb hbytes d5) rfl (i0_ne_t (nz32 (by omega) l0)) (by decide) rfl ?_
    exact Steps.refl _)
  obtain ⟨T5, X5, q5, st5⟩ := X3.sget hexec hown (wk W (.fieldLink "java/lang/String" 38 "java/lang/String" "COMPACT_STRINGS" "Z")) s1 (fun _ _ h => by rw [hh3]; exact h) (g := (mkF m 27 #[.val (.ref a), .val (.ref b), .val (.int (Int32.ofNat o)), .val (.int (Int32.ofNat len)), .val .null, .unset] [])) rfl (hb hbytes d27)
  have hh5 := q5.trans hh3
  have c6 : Steps p.tables e below (s₁.setTop (entryFrame m #[.ref a, .ref b, .int (Int32.ofNat o), .int (Int32.ofNat len), .null] 6)) (T5.setTop (mkF m 30 #[.val (.ref a), .val (.ref b), .val (.int (Int32.ofNat o)), .val (.int (Int32.ofNat len)), .val .null, .unset] [.int z])) := c4.trans (st5 _ (Steps.refl _))
  have c7 : Steps p.tables e below (s₁.setTop (entryFrame m #[.ref a, .ref b, .int (Int32.ofNat o), .int (Int32.ofNat len), .null] 6)) (T5.setTop (mkF m 36 #[.val (.ref a), .val (.ref b), .val (.int (Int32.ofNat o)), .val (.int (Int32.ofNat len)), .val .null, .unset] [.int (Int32.ofNat len), .int (Int32.ofNat o), .ref b])) := c6.trans (by
    refine XS.ifNo X5.here hexec rfl (hb hbytes d30) rfl (i0_eq_f hz) ?_
    refine XS.aloadN X5.here hexec rfl (hb hbytes d33) rfl rfl ?_
    refine XS.iloadN X5.here hexec rfl (hb hbytes d34) rfl ?_
    refine XS.iloadN X5.here hexec rfl (hb hbytes d35) rfl ?_
    exact Steps.refl _)
  obtain ⟨v8, T8, X8, E8, g8⟩ := X5.callS hexec (Cmp3.law l b A o len) hown (wks W (staticW "java/lang/String" 177 Cmp3.yN)) (wk W Cmp3.tab) (W := 0) (Nat.le_of_ble_eq_true rfl) (Nat.le_of_ble_eq_true rfl) (Nat.le_refl _) (by show 0 + len ≤ len; omega) (g := (mkF m 36 #[.val (.ref a), .val (.ref b), .val (.int (Int32.ofNat o)), .val (.int (Int32.ofNat len)), .val .null, .unset] [.int (Int32.ofNat len), .int (Int32.ofNat o), .ref b])) rfl (by rw [hml]; rfl) c7 (argsL := [.ref b, .int (Int32.ofNat o), .int (Int32.ofNat len)]) (rest := []) rfl rfl (by show 2 * 0 + 0 ≤ _; decide) (hb hbytes d36) (⟨rfl, hA.mv X5.warmed.alike hh5, l1, l2, hp⟩)
  obtain ⟨e8, z8⟩ := E8
  obtain ⟨rfl, N, n1, n2, n3, n4, n5, n6⟩ := NewArr.mv _ T5 s _ _ hh5.symm (Vm.Alike.refl _) rfl e8
  rw [hh5] at z8
  have hB1 := hB.keep X8.warmed.alike (n6 _ _ hB.1)
  have hne : s.heap.size ≠ a := (Nat.ne_of_lt (Array.getElem?_eq_some_iff.mp hB.1).1).symm
  have c9 : Steps p.tables e below (s₁.setTop (entryFrame m #[.ref a, .ref b, .int (Int32.ofNat o), .int (Int32.ofNat len), .null] 6)) (T8.setTop (mkF m 39 #[.val (.ref a), .val (.ref b), .val (.int (Int32.ofNat o)), .val (.int (Int32.ofNat len)), .val .null, .unset] [.ref s.heap.size])) := g8
  have c10 : Steps p.tables e below (s₁.setTop (entryFrame m #[.ref a, .ref b, .int (Int32.ofNat o), .int (Int32.ofNat len), .null] 6)) (T8.setTop (mkF m 45 #[.val (.ref a), .val (.ref b), .val (.int (Int32.ofNat o)), .val (.int (Int32.ofNat len)), .val .null, .val (.ref s.heap.size)] [.int (Int32.ofNat N.slots.size), .ref s.heap.size, .ref a])) := by
    have hc : Steps p.tables e below (s₁.setTop (entryFrame m #[.ref a, .ref b, .int (Int32.ofNat o), .int (Int32.ofNat len), .null] 6)) (T8.setTop (mkF m 45 #[.val (.ref a), .val (.ref b), .val (.int (Int32.ofNat o)), .val (.int (Int32.ofNat len)), .val .null, .val (.ref s.heap.size)] [.int (Int32.ofNat len), .ref s.heap.size, .ref a])) := c9.trans (by
      refine XS.astore X8.here hexec rfl (hb hbytes d39) rfl rfl rfl ?_
      refine XS.aloadN X8.here hexec rfl (hb hbytes d41) rfl rfl ?_
      refine XS.aload X8.here hexec rfl (hb hbytes d42) rfl rfl ?_
      refine XS.iloadN X8.here hexec rfl (hb hbytes d44) rfl ?_
      exact Steps.refl _)
    rw [n4]; exact hc
  obtain ⟨v11, T11, X11, E11, g11⟩ := X8.callS hexec (CodL.law l s.heap.size N) hown (wks W (staticW "java/lang/String" 47 CodL.yN)) (wk W CodL.tab) (W := 1) (Nat.le_of_ble_eq_true rfl) (Nat.le_of_ble_eq_true rfl) (Nat.le_refl _) (by show 0 + len + 0 ≤ len; omega) (g := (mkF m 45 #[.val (.ref a), .val (.ref b), .val (.int (Int32.ofNat o)), .val (.int (Int32.ofNat len)), .val .null, .val (.ref s.heap.size)] [.int (Int32.ofNat N.slots.size), .ref s.heap.size, .ref a])) rfl (by rw [hml]; rfl) c10 (argsL := [.ref s.heap.size, .int (Int32.ofNat N.slots.size)]) (rest := [.ref a]) rfl rfl (by show 2 * 0 + (1 + 0) ≤ _; decide) (hb hbytes d45) (⟨rfl, n1⟩)
  obtain ⟨rfl, q11⟩ := E11
  have hB11 := hB1.mv (X8.warmed.alike.symm.trans X11.warmed.alike) q11
  have c12 : Steps p.tables e below (s₁.setTop (entryFrame m #[.ref a, .ref b, .int (Int32.ofNat o), .int (Int32.ofNat len), .null] 6)) (T11.setTop (mkF m 48 #[.val (.ref a), .val (.ref b), .val (.int (Int32.ofNat o)), .val (.int (Int32.ofNat len)), .val .null, .val (.ref s.heap.size)] [.int 0, .ref a])) := g11
  obtain ⟨T13, X13, p13, bl13, sl13, st13⟩ := X11.finit hexec hown (wk W (.fieldLink "java/lang/String" 15 "java/lang/String" "coder" "B")) (Or.inr ⟨_, (wk W (.laysFinal "java/lang/String" "java/lang/String" "coder" "B"))⟩) (Or.inl ⟨rfl, hnm⟩) f2 (Or.inl rfl) hB11 (t := .byte) (by decide +kernel) rfl (g := (mkF m 48 #[.val (.ref a), .val (.ref b), .val (.int (Int32.ofNat o)), .val (.int (Int32.ofNat len)), .val .null, .val (.ref s.heap.size)] [.int 0, .ref a])) rfl (rest := []) rfl (hb hbytes d48)
  have c14 : Steps p.tables e below (s₁.setTop (entryFrame m #[.ref a, .ref b, .int (Int32.ofNat o), .int (Int32.ofNat len), .null] 6)) (T13.setTop (mkF m 54 #[.val (.ref a), .val (.ref b), .val (.int (Int32.ofNat o)), .val (.int (Int32.ofNat len)), .val .null, .val (.ref s.heap.size)] [.ref s.heap.size, .ref a])) := (c12.trans (st13 _ (Steps.refl _))).trans (by
    refine XS.aloadN X13.here hexec rfl (hb hbytes d51) rfl rfl ?_
    refine XS.aload X13.here hexec rfl (hb hbytes d52) rfl rfl ?_
    exact Steps.refl _)
  obtain ⟨T15, X15, p15, bl15, sl15, st15⟩ := X13.finit hexec hown (wk W (.fieldLink "java/lang/String" 9 "java/lang/String" "value" "[B")) (Or.inr ⟨_, (wk W (.laysFinal "java/lang/String" "java/lang/String" "value" "[B"))⟩) (Or.inl ⟨rfl, hnm⟩) f1 (Or.inl rfl) bl13 (t := (.array .byte)) (by decide +kernel) rfl (g := (mkF m 54 #[.val (.ref a), .val (.ref b), .val (.int (Int32.ofNat o)), .val (.int (Int32.ofNat len)), .val .null, .val (.ref s.heap.size)] [.ref s.heap.size, .ref a])) rfl (rest := []) rfl (hb hbytes d54)
  have c16 : Steps p.tables e below (s₁.setTop (entryFrame m #[.ref a, .ref b, .int (Int32.ofNat o), .int (Int32.ofNat len), .null] 6)) (T15.setTop (mkF m 57 #[.val (.ref a), .val (.ref b), .val (.int (Int32.ofNat o)), .val (.int (Int32.ofNat len)), .val .null, .val (.ref s.heap.size)] [])) := c14.trans (st15 _ (Steps.refl _))
  have ap := apart (Or.inr ⟨_, (wk W (.laysFinal "java/lang/String" "java/lang/String" "value" "[B"))⟩) (Or.inr ⟨_, (wk W (.laysFinal "java/lang/String" "java/lang/String" "coder" "B"))⟩) f1 f2 (t₁ := .array .byte) (t₂ := .byte) (by decide +kernel) (by decide +kernel) (by decide)
  have al := X8.warmed.alike.symm.trans X15.warmed.alike
  have n7 : T11.heap[s.heap.size]? = some N := by rw [q11]; exact n1.1
  exact ⟨T15, none, _, _, _, X15, by simp, rfl, by omega, (fun _ => rfl), ⟨rfl, _, N, bl15, ((Same.refl D _).set _ (by simp)).set _ (by simp), sl15, (Cell.slots_setSlot_ne _ ap).trans sl13, n1.keep al (p15.other hne (p13.other hne n7)), n2, by rw [al.findClass]; exact n3, n4, n5, fun y c h1 h2 => p15.other h1 (p13.other h1 (by rw [q11]; exact n6 y c h2)), by rw [p15.2.2, p13.2.2, q11]; exact z8⟩, fun fs hl => c16.trans (X15.returnOut hexec hret (hb hbytes d57) hl)⟩
end New4
namespace New1
def yN : MethodName := ⟨"java/lang/String", "<init>", "([C)V"⟩
abbrev yB : ByteArray := jdk_42_method_3_code
theorem d0 : decode yB 0 = .ok (.aload_n 0, 1) := by decide +kernel
theorem d1 : decode yB 1 = .ok (.aload_n 1, 1) := by decide +kernel
theorem d2 : decode yB 2 = .ok (.iconst 0, 1) := by decide +kernel
theorem d3 : decode yB 3 = .ok (.aload_n 1, 1) := by decide +kernel
theorem d4 : decode yB 4 = .ok (.arraylength, 1) := by decide +kernel
theorem d5 : decode yB 5 = .ok (.aconst_null, 1) := by decide +kernel
theorem d6 : decode yB 6 = .ok (.invokespecial 27, 3) := by decide +kernel
theorem d9 : decode yB 9 = .ok (.return_, 1) := by decide +kernel
def site : List Cond := [New4.tab] ++ initW "java/lang/String" 27 New4.yN
def tab : Cond := tabOf yN yB 2 none site
def P (a : Addr) (D : Cell) (fV fC : Field) (b : Addr) (A : Cell) (z : Int32) (args : Array Value) (s : State) : Prop := args = #[.ref a, .ref b] ∧ Blank "java/lang/String" a D s ∧ Found "java/lang/String" "value" "[B" fV s ∧ Found "java/lang/String" "coder" "B" fC s ∧ Ch b A s ∧ StaticIs s "java/lang/String" "COMPACT_STRINGS" "Z" (.int z) ∧ ¬ z = 0 ∧ 0 < A.slots.size ∧ A.slots.size ≤ 536870912 ∧ ∀ i, i < A.slots.size → ¬ 255 < cv A i
def E (a : Addr) (D : Cell) (fV fC : Field) (A : Cell) (r : Option Value) (s u : State) : Prop := Got a D fV fC A 0 A.slots.size r s u
/-- new String(chars), not empty, no char above 255: a Latin-1 String of their low bytes -/
theorem law (l : Launch) (a : Addr) (D : Cell) (fV fC : Field) (b : Addr) (A : Cell) (z : Int32) : Law l yN 2 1 3 52 yB 2 none site (P a D fV fC b A z) (E a D fV fC A) [⟨a, fC.slot⟩, ⟨a, fV.slot⟩] 1 A.slots.size := by
  refine Law.of_walk (plainFor_of_name (by decide +kernel)) (by decide +kernel) (by decide +kernel) (by decide) (fun _ _ h => by rw [h.1]; rfl) (fun _ U U' hal hh h => ⟨h.1, h.2.1.mv hal hh, h.2.2.1.al hal, h.2.2.2.1.al hal, h.2.2.2.2.1.mv hal hh, h.2.2.2.2.2.1.there hal hh, h.2.2.2.2.2.2⟩) (fun r U U' V V' h1 hal h2 h => Got.mv r U U' V V' h1 hal h2 h) ?_
  intro p e s m args below meth c s₁ X0 hexec hbytes hml hret hlk hnm hown hh0 W hP
  obtain ⟨rfl, hB, f1, f2, hA, s1, hz, l0, l2, hp⟩ := hP
  have c1 : Steps p.tables e below (s₁.setTop (entryFrame m #[.ref a, .ref b] 2)) (s₁.setTop (mkF m 0 #[.val (.ref a), .val (.ref b)] [])) := entry rfl
  have c2 : Steps p.tables e below (s₁.setTop (entryFrame m #[.ref a, .ref b] 2)) (s₁.setTop (mkF m 6 #[.val (.ref a), .val (.ref b)] [.null, .int (Int32.ofNat A.slots.size), .int 0, .ref b, .ref a])) := c1.trans (by
    refine XS.aloadN X0.here hexec rfl (hb hbytes d0) rfl rfl ?_
    refine XS.aloadN X0.here hexec rfl (hb hbytes d1) rfl rfl ?_
    refine iconstV X0.here hexec rfl 0 (hb hbytes d2) (by decide) ?_
    refine XS.aloadN X0.here hexec rfl (hb hbytes d3) rfl rfl ?_
    refine X0.alen hexec (hA.1.mv X0.warmed.alike hh0) rfl rfl (hb hbytes d4) ?_
    refine XS.aconstNull X0.here hexec rfl (hb hbytes d5) ?_
    exact Steps.refl _)
  obtain ⟨v3, T3, X3, E3, g3⟩ := X0.callN hexec (New4.law l a D fV fC b A z 0 A.slots.size) rfl hown (wks W (initW "java/lang/String" 27 New4.yN)) (W New4.tab (by simp only [site, List.mem_cons, List.mem_append, true_or, or_true])) (W := 0) (Nat.le_of_ble_eq_true rfl) (Nat.le_of_ble_eq_true rfl) (Nat.le_refl _) (by show 0 + A.slots.size ≤ A.slots.size; omega) (g := (mkF m 6 #[.val (.ref a), .val (.ref b)] [.null, .int (Int32.ofNat A.slots.size), .int (Int32.ofNat 0), .ref b, .ref a])) rfl (by rw [hml]; rfl) c2 (argsL := [.ref b, .int (Int32.ofNat 0), .int (Int32.ofNat A.slots.size), .null]) (rest := []) rfl rfl (by show 2 * 0 + 0 ≤ _; decide) (hb hbytes d6) (⟨rfl, hB.mv X0.warmed.alike hh0, f1.al X0.warmed.alike, f2.al X0.warmed.alike, hA.mv X0.warmed.alike hh0, s1.there X0.warmed.alike hh0, hz, l0, by omega, l2, fun i hi => by rw [Nat.zero_add]; exact hp i hi⟩)
  have e0 := Got.mv _ s₁ s _ _ hh0.symm (Vm.Alike.refl _) rfl E3
  obtain rfl := e0.1
  have c4 : Steps p.tables e below (s₁.setTop (entryFrame m #[.ref a, .ref b] 2)) (T3.setTop (mkF m 9 #[.val (.ref a), .val (.ref b)] [])) := g3
  exact ⟨T3, none, _, _, _, X3, by simp, rfl, by omega, (fun _ => rfl), e0, fun fs hl => c4.trans (X3.returnOut hexec hret (hb hbytes d9) hl)⟩
theorem pays {l : Launch} {R : Room} {p : Program} {e : Env} {below : List Frame} {s : State} {sargs : Array Value} {len W : Nat} (a : Addr) (D : Cell) (fV fC : Field) (b : Addr) (A : Cell) (z : Int32) (htab : tab.before sargs s = true) (hfr : 4 ≤ R.frames) (hlo : W + 65 ≤ R.locals) :
    Back l R p e below s sargs yN len W (fun A₁ a₁ => A₁.cells + 1 ≤ R.cells ∧ A₁.slots + A.slots.size ≤ R.slots ∧ P a D fV fC b A z a₁ A₁.U) (fun A₁ _ v₁ B₁ => E a D fV fC A v₁ A₁.U B₁.U ∧ B₁.locs = A₁.locs ++ [⟨a, fC.slot⟩, ⟨a, fV.slot⟩] ∧ B₁.cells = A₁.cells + 1 ∧ B₁.slots = A₁.slots + A.slots.size) :=
  (law l a D fV fC b A z).pays htab hfr (by omega)
end New1
/-- the byte, read back as charAt reads it, is the char -/
theorem lo8_mask {x : Int32} (h0 : ¬ x < 0) (h1 : ¬ 255 < x) : lo8 x &&& 255 = x := by
  have t : ∀ k : Fin 256, lo8 (Int32.ofNat k.val) &&& 255 = Int32.ofNat k.val := by decide +kernel
  rw [Int32.lt_iff_toInt_lt] at h0 h1
  have e0 : (0 : Int32).toInt = 0 := rfl
  have e1 : (255 : Int32).toInt = 255 := rfl
  obtain ⟨k, hk⟩ : ∃ k : Nat, x.toInt = k := ⟨x.toInt.toNat, by omega⟩
  have hx : x = Int32.ofNat k := Int32.toInt_inj.mp (by rw [hk, Int32.toInt_ofNat_small (by omega)])
  rw [hx]
  exact t ⟨k, by omega⟩
end StrChars
namespace StrChars.Road
open Jvm Sem ClassFile Op Lib Jvm.Stand Jvm.Free Jvm.Free.XT
open Jvm.Lib.Cold (StaticIs)
abbrev ST : String := "java/lang/String"
/-- every table word that New1's law asks, flat -/
abbrev words : List Jvm.Cond := [.code New1.yN New1.yB 2 none, .initialized ST, .methodLink ST 27 New4.yN, .instanceMethod New4.yN,
  .code New4.yN New4.yB 6 none, .fieldLink ST 38 ST "COMPACT_STRINGS" "Z", .laysFinal ST ST "value" "[B", .fieldLink ST 9 ST "value" "[B", .laysFinal ST ST "coder" "B", .fieldLink ST 15 ST "coder" "B",
  .methodLink ST 1 Lib.objectInit, .instanceMethod Lib.objectInit, .code Lib.objectInit ⟨#[0xb1]⟩ 1 none, .methodLink ST 177 Cmp3.yN, .static Cmp3.yN, .methodLink ST 47 CodL.yN, .static CodL.yN,
  .code Cmp3.yN Cmp3.yB 6 (some (.array .byte)), .initialized U16, .arrayClass .byte, .methodLink U16 115 Cmp5.yN, .static Cmp5.yN, .code Cmp5.yN Cmp5.yB 7 (some .int), .code CodL.yN CodL.yB 2 (some .byte)]
theorem tab_of {a : Array Value} {s : State} (h : ∀ w ∈ words, w.before a s = true) : New1.tab.before a s = true := by
  have h5 : Cmp5.tab.before a s = true := unparts (wk h (.code Cmp5.yN Cmp5.yB 7 (some .int))) (wks h (.initialized Cmp5.yN.cls :: Cmp5.site))
  have hc : CodL.tab.before a s = true := unparts (wk h (.code CodL.yN CodL.yB 2 (some .byte))) (wks h (.initialized CodL.yN.cls :: CodL.site))
  have q5 : ∀ w ∈ Cmp5.tab :: words, w.before a s = true := fun w hw => (List.mem_cons.mp hw).elim (fun e => e ▸ h5) (h w)
  have h3 : Cmp3.tab.before a s = true := unparts (wk q5 (.code Cmp3.yN Cmp3.yB 6 (some (.array .byte)))) (wks q5 (.initialized Cmp3.yN.cls :: Cmp3.site))
  have q3 : ∀ w ∈ Cmp3.tab :: CodL.tab :: words, w.before a s = true := fun w hw => (List.mem_cons.mp hw).elim (fun e => e ▸ h3) fun hw => (List.mem_cons.mp hw).elim (fun e => e ▸ hc) (h w)
  have h4 : New4.tab.before a s = true := unparts (wk q3 (.code New4.yN New4.yB 6 none)) (wks q3 (.initialized New4.yN.cls :: New4.site))
  have q4 : ∀ w ∈ New4.tab :: words, w.before a s = true := fun w hw => (List.mem_cons.mp hw).elim (fun e => e ▸ h4) (h w)
  exact unparts (wk q4 (.code New1.yN New1.yB 2 none)) (wks q4 (.initialized New1.yN.cls :: New1.site))
/-- the words ride from the start Z to the walk's own state -/
theorem moved {Z s : State} {a0 args : Array Value} (hZ : Z.Warmed39 s.vm) (hw : ∀ d ∈ words, d.before a0 Z = true) : ∀ d ∈ words, d.before args s = true := fun d hd => by
  have q := hw d hd
  have t : ∀ d ∈ words, d = .arrayClass .byte ∨ (d.onTables && d.keepsFace) = true := by decide +kernel
  rcases t d hd with rfl | t
  · exact RoadKit.mvA hZ q
  · exact RoadKit.mv hZ q t
/-- WHAT COMES BACK, over the tables of the start Z: h the heap at the call, h' behind it -/
def Q (Z : State) (x : Addr) (A : Cell) (h : Heap) (v : Option Value) (h' : Heap) (L : List Loc) : Prop := v = none ∧ (∀ y ∈ L, y.base = x) ∧ RoadKit.Keep h h' [x] ∧ h'.size = h.size + 1 ∧ RoadKit.Exa Z h' x ST ∧ RoadKit.Fld Z h' x ST "value" "[B" (.ref h.size) ∧ RoadKit.Fld Z h' x ST "coder" "B" (.int 0) ∧
  (∃ V : Cell, RoadKit.Arr Z h' h.size V .byte ∧ V.vm = .none ∧ Z.vm.findClass "[B" = some V.cls ∧ V.slots.size = A.slots.size ∧ ∀ j, j < A.slots.size → V.slots[j]? = some (.int (lo8 (cv A j)))) ∧
  ∀ (O n d : String) (w : Value), RoadKit.Fld Z h x O n d w → RoadKit.slotOf Z O n d ≠ RoadKit.slotOf Z ST "value" "[B" → RoadKit.slotOf Z O n d ≠ RoadKit.slotOf Z ST "coder" "B" → RoadKit.Fld Z h' x O n d w
/-- **new String(chars) AT A CALL, IN THE ROAD'S FORM**: for specialBack behind newO: x the fresh String, b the char[] with the cell A -/
theorem back {p : Program} {l : Launch} {e : Env} {R : Room} {s : State} {args : Array Value} {below : List Frame} {len W : Nat} {Z : State} {a0 : Array Value} {h : Heap} (hZ : Z.Warmed39 s.vm) (hw : ∀ d ∈ words, d.before a0 Z = true) {kI : Nat} (wi : (Jvm.Cond.instantiable ST kI).before a0 Z = true)
    {x b : Addr} {A : Cell} {z : Int32} {v0 c0 : Value} (E : RoadKit.Exa Z h x ST) (V : RoadKit.Fld Z h x ST "value" "[B" v0) (C : RoadKit.Fld Z h x ST "coder" "B" c0) (K : RoadKit.Arr Z h b A .char) (hty : Typed .char A) (S : RoadKit.Sta Z h ST "COMPACT_STRINGS" "Z" (.int z)) (hz : ¬ z = 0)
    (l0 : 0 < A.slots.size) (l2 : A.slots.size ≤ 536870912) (hp : ∀ i, i < A.slots.size → ¬ 255 < cv A i) (hfr : 4 ≤ R.frames) (hlo : W + 65 ≤ R.locals) :
    Back l R p e below s args New1.yN len W (fun P a => a = #[.ref x, .ref b] ∧ P.U.heap = h ∧ P.cells + 1 ≤ R.cells ∧ P.slots + A.slots.size ≤ R.slots)
      (fun P _ v B => ∃ L, Q Z x A h v B.U.heap L ∧ B.locs = P.locs ++ L ∧ B.cells = P.cells + 1 ∧ B.slots = P.slots + A.slots.size) := by
  intro m meth c P g ig mk a X hg hsize hdg hW hn hp'
  obtain ⟨rfl, rfl, r1, r2⟩ := hp'
  have al : Z.vm.Alike P.U.vm := hZ.alike.trans X.warmed.alike
  obtain ⟨D, cfV, kV, iV, fV, hD, gV, stV, knV, obV, asV, slV⟩ := id V
  obtain ⟨D', cfC, kC, iC, fC, hD', gC, stC, -, -, asC, slC⟩ := id C
  cases hD.symm.trans hD'
  obtain ⟨D2, kD, e1, e2, e3, e4, e5⟩ := id E
  cases hD.symm.trans e1
  obtain ⟨c2, k2, i1, i2, i3, -⟩ := Cond.instantiable_spec wi
  cases e2.symm.trans i1
  cases e3.symm.trans i2
  obtain ⟨kU, u1, u2⟩ := al.2.2 _ _ e3
  have hB : Blank ST x D P.U := ⟨hD, ⟨knV, fun q hq => by rw [hq] at obV; cases obV⟩, by rw [al.findClass]; exact e2, kU, u1, by rw [u2]; exact i3, by rw [u2]; exact e5 i3⟩
  have F1 : Found ST "value" "[B" fV P.U := ⟨SBG.found_only al ⟨cfV, kV, iV, gV⟩, stV⟩
  have F2 : Found ST "coder" "B" fC P.U := ⟨SBG.found_only al ⟨cfC, kC, iC, gC⟩, stC⟩
  have hA : Ch b A P.U := ⟨⟨K.1, State.isArrayOf_alike al K.2.1, K.2.2, by omega⟩, hty⟩
  have hS : StaticIs P.U ST "COMPACT_STRINGS" "Z" (.int z) := by
    obtain ⟨cfS, iS, kS, fS, st, cS, t1, t2, t3, t4, t5, t6, t7⟩ := S
    exact StaticIs.there (s := { Z with heap := P.U.heap }) ⟨cfS, iS, kS, fS, st, cS, t1, t2, t3, t4, t5, (fun q => by rw [q] at t6; cases t6), t7⟩ al rfl
  obtain ⟨v, B, X', ⟨⟨hv, E', V', q1, q2, q3, q4, q5, q6, q7, q8, q9, q10, q11⟩, hl, hc, hs⟩, st⟩ := New1.pays x D fV fC b A z (tab_of (moved hZ hw)) hfr hlo m meth c P g ig mk _ X hg hsize hdg hW hn ⟨r1, r2, rfl, hB, F1, F2, hA, hS, hz, l0, l2, hp⟩
  have al' : Z.vm.Alike B.U.vm := hZ.alike.trans X'.warmed.alike
  have hsz : E'.slots.size = D.slots.size := by
    obtain ⟨-, -, -, kB, w1, w2, w3⟩ := q1
    obtain ⟨kB', y1, y2⟩ := al'.2.2 _ _ e3
    rw [q2.2.1] at w1
    cases w1.symm.trans y1
    rw [w3, e5 i3, y2]
  refine ⟨v, B, X', ⟨_, ⟨hv, ?_, ⟨by omega, fun y cy hy hn' => q10 y cy (by simpa using hn') hy, fun y cy hy => ?_⟩, q11, ⟨E', _, q1.1, by rw [q2.2.1]; exact e2, by rw [q2.2.1]; exact e3, by rw [q2.1]; exact obV, fun _ => by rw [hsz]; exact e5 i3⟩,
    ⟨E', cfV, kV, iV, fV, q1.1, gV, stV, by rw [q2.1]; exact knV, by rw [q2.1]; exact obV, by rw [q2.2.1]; exact asV, q3⟩, ⟨E', cfC, kC, iC, fC, q1.1, gC, stC, by rw [q2.1]; exact knV, by rw [q2.1]; exact obV, by rw [q2.2.1]; exact asC, q4⟩,
    ⟨V', ⟨q5.1, State.isArrayOf_alike al'.symm q5.2.1, q5.2.2.1⟩, q6, by rw [← al'.findClass]; exact q7, q8, fun j hj => by have := q9 j hj; rwa [Nat.zero_add] at this⟩, fun O n d w F n1 n2 => ?_⟩, hl, hc, hs⟩, st⟩
  · intro y hy
    simp only [List.mem_cons, List.not_mem_nil, or_false] at hy
    rcases hy with rfl | rfl <;> rfl
  · by_cases q : y = x
    · subst q
      cases hD.symm.trans hy
      exact ⟨E', q1.1, q2.2.1, q2.1, hsz⟩
    · exact ⟨cy, q10 y cy q hy, rfl, rfl, rfl⟩
  · obtain ⟨D3, cf, k, i, f, g1, g2, g3, g4, g5, g6, g7⟩ := F
    cases hD.symm.trans g1
    simp only [RoadKit.slotOf, g2, gV, gC, Option.map_some, Option.getD_some] at n1 n2
    exact ⟨E', cf, k, i, f, q1.1, g2, g3, by rw [q2.1]; exact g4, by rw [q2.1]; exact g5, by rw [q2.2.1]; exact g6, by rw [q2.2.2 f.slot (by simp [n1, n2])]; exact g7⟩
end StrChars.Road
namespace StrChars.Road
open Jvm Sem ClassFile Op Lib Jvm.Stand Jvm.Free Jvm.Free.XT
/-- WHAT COMES BACK, the byte[] as a list of values -/
def QA (Z : State) (x : Addr) (zn : Int32) (cs : List Int32) (h : Heap) (v : Option Value) (h' : Heap) (L : List Loc) : Prop := v = none ∧ (∀ y ∈ L, y.base = x) ∧ RoadKit.Keep h h' [x] ∧ h'.size = h.size + 1 ∧ RoadKit.Exa Z h' x ST ∧ RoadKit.Fld Z h' x ST "value" "[B" (.ref h.size) ∧ RoadKit.Fld Z h' x ST "coder" "B" (.int 0) ∧
  (∃ kb, Z.vm.findClass "[B" = some kb ∧ RoadKit.Arv Z h' h.size kb .byte zn (cs.map fun c => .int (lo8 c)) (.int 0)) ∧
  ∀ (O n d : String) (w : Value), RoadKit.Fld Z h x O n d w → RoadKit.slotOf Z O n d ≠ RoadKit.slotOf Z ST "value" "[B" → RoadKit.slotOf Z O n d ≠ RoadKit.slotOf Z ST "coder" "B" → RoadKit.Fld Z h' x O n d w
/-- **new String(chars) AT A CALL, THE ARRAYS AS LISTS**: the char[] at b holds cs, not empty, no char above 255 -/
theorem backArv {p : Program} {l : Launch} {e : Env} {R : Room} {s : State} {args : Array Value} {below : List Frame} {len W : Nat} {Z : State} {a0 : Array Value} {h : Heap} (hZ : Z.Warmed39 s.vm) (hw : ∀ d ∈ words, d.before a0 Z = true) {kI : Nat} (wi : (Jvm.Cond.instantiable ST kI).before a0 Z = true)
    {x b : Addr} {k : ClassId} {zn z : Int32} {cs : List Int32} {dv v0 c0 : Value} (E : RoadKit.Exa Z h x ST) (V : RoadKit.Fld Z h x ST "value" "[B" v0) (C : RoadKit.Fld Z h x ST "coder" "B" c0) (K : RoadKit.Arv Z h b k .char zn (cs.map Value.int) dv) (S : RoadKit.Sta Z h ST "COMPACT_STRINGS" "Z" (.int z)) (hz : ¬ z = 0)
    (hlen : zn.toNatClampNeg = cs.length) (h0 : 0 < cs.length) (hbig : cs.length ≤ 536870912) (hall : ∀ c ∈ cs, ¬ 255 < c) (hfr : 4 ≤ R.frames) (hlo : W + 65 ≤ R.locals) :
    Back l R p e below s args New1.yN len W (fun P a => a = #[.ref x, .ref b] ∧ P.U.heap = h ∧ P.cells + 1 ≤ R.cells ∧ P.slots + cs.length ≤ R.slots)
      (fun P _ v B => ∃ L, QA Z x zn cs h v B.U.heap L ∧ B.locs = P.locs ++ L ∧ B.cells = P.cells + 1 ∧ B.slots = P.slots + cs.length) := by
  obtain ⟨A, K1, K2, K3, K4, K5, K6⟩ := K
  have e : A.slots.size = cs.length := K3.trans hlen
  have hat : ∀ (i : Nat) (hi : i < cs.length), A.slots[i]? = some (.int cs[i]) := fun i hi => by rw [K5 i (by omega)]; simp [List.getD_eq_getElem?_getD, hi]
  have hcv : ∀ (i : Nat) (hi : i < cs.length), cv A i = cs[i] := fun i hi => by unfold cv; rw [hat i hi]
  have hty : Typed .char A := fun i v hv => by
    have hi : i < A.slots.size := (Array.getElem?_eq_some_iff.mp hv).1
    have q := K5 i hi
    rw [hv] at q
    rw [Option.some.inj q]
    exact K6 i hi
  refine Back.mono (back hZ hw wi E V C K1 hty S hz (by omega) (by omega) (fun i hi => by rw [hcv i (by omega)]; exact hall _ (List.getElem_mem _)) hfr hlo) (fun P a hp => ⟨hp.1, hp.2.1, hp.2.2.1, by rw [e]; exact hp.2.2.2⟩) (fun P a v B hp hq => ?_)
  obtain ⟨L, ⟨q1, q2, q3, q4, q5, q6, q7, ⟨V', v1, v2, v3, v4, v5⟩, q9⟩, hl, hc, hs⟩ := hq
  refine ⟨L, ⟨q1, q2, q3, q4, q5, q6, q7, ⟨V'.cls, v3, V', v1, rfl, by rw [v4, e, hlen], K4, fun i hi => ?_, fun i hi => ?_⟩, q9⟩, hl, hc, by rw [hs, e]⟩
  · have hi' : i < cs.length := by omega
    rw [v5 i (by omega), hcv i hi']; simp [List.getD_eq_getElem?_getD, hi']
  · have hi' : i < cs.length := by omega
    simp only [List.getD_eq_getElem?_getD, List.getElem?_map, List.getElem?_eq_getElem hi', Option.map_some, Option.getD_some]
    exact fits_lo8 _
end StrChars.Road
namespace StrChars.Road
open Jvm Sem ClassFile Op Lib Jvm.Stand Jvm.Free Jvm.Free.XT
/-- WHAT COMES BACK, in the writer's own shape -/
def QV (Z : State) (x : Addr) (N : Int32) (bs : List Int32) (h : Heap) (n0 : Nat) (v : Option Value) (h' : Heap) (L : List Loc) : Prop := v = none ∧ RoadKit.Fr n0 L ∧ RoadKit.Keep h h' [x] ∧ RoadKit.Exa Z h' x ST ∧ RoadKit.Fld Z h' x ST "coder" "B" (.int 0) ∧
  ∃ (t : Addr) (kb : ClassId), n0 ≤ t ∧ h.size ≤ t ∧ ¬ t = x ∧ RoadKit.Fld Z h' x ST "value" "[B" (.ref t) ∧ RoadKit.Arv Z h' t kb .byte N (bs.map Value.int) (.int 0)
/-- **new String(chars) AT A CALL, FOR THE WRITER**: a char[] of n known ints, each 0 to 255 -/
theorem backV {p : Program} {l : Launch} {e : Env} {R : Room} {s : State} {args : Array Value} {below : List Frame} {len W : Nat} {Z : State} {a0 : Array Value} {h : Heap} (hZ : Z.Warmed39 s.vm) (hw : ∀ d ∈ words, d.before a0 Z = true) {kI : Nat} (wi : (Jvm.Cond.instantiable ST kI).before a0 Z = true)
    {x b : Addr} {kC : ClassId} {cs bs : List Int32} {d v0 c0 : Value} {z N : Int32} {n n0 : Nat} (hx0 : n0 ≤ x) (hh0 : n0 ≤ h.size) (E : RoadKit.Exa Z h x ST) (V : RoadKit.Fld Z h x ST "value" "[B" v0) (C : RoadKit.Fld Z h x ST "coder" "B" c0) (K : RoadKit.Arv Z h b kC .char N (cs.map Value.int) d) (S : RoadKit.Sta Z h ST "COMPACT_STRINGS" "Z" (.int z)) (hz : ¬ z = 0)
    (hn : cs.length = n) (hN : N = Int32.ofNat n) (l0 : 0 < n) (l2 : n ≤ 4000) (hp : ∀ c ∈ cs, ¬ c < 0 ∧ ¬ (255 : Int32) < c) (hb : bs = cs.map (fun c => c.toInt8.toInt32)) (hfr : 4 ≤ R.frames) (hlo : W + 65 ≤ R.locals) :
    Back l R p e below s args (⟨"java/lang/String", "<init>", "([C)V"⟩ : MethodName) len W (fun P a => a = #[.ref x, .ref b] ∧ P.U.heap = h ∧ P.cells + 1 ≤ R.cells ∧ P.slots + n ≤ R.slots)
      (fun P _ v B => ∃ L, QV Z x N bs h n0 v B.U.heap L ∧ B.locs = P.locs ++ L ∧ B.cells = P.cells + 1 ∧ B.slots = P.slots + n) := by
  subst hn hN hb
  refine Back.mono (backArv hZ hw wi E V C K S hz (n32 (by omega)) l0 (by omega) (fun c hc => (hp c hc).2) hfr hlo) (fun P a hp => hp) (fun P a v B hp hq => ?_)
  obtain ⟨L, ⟨q1, q2, q3, q4, q5, q6, q7, ⟨kb, v1, v2⟩, q9⟩, hl, hc, hs⟩ := hq
  exact ⟨L, ⟨q1, fun y hy => by rw [q2 y hy]; exact hx0, q3, q5, q7, h.size, kb, hh0, Nat.le_refl _, Nat.ne_of_gt E.lt, q6, by rw [List.map_map]; exact v2⟩, hl, hc, hs⟩
end StrChars.Road
namespace StrChars
open Jvm Sem ClassFile Op Lib Jvm.Stand Jvm.Free.XT Jvm.Free.ALB Jvm.Free.JM Jvm.Free
open Jvm.Lib.Cold (StaticIs)
def hi8 (x : Int32) : Int32 := lo8 (x >>> ((8 : Int32) &&& 31))
/-- what StringUTF16.getChar makes of two bytes -/
def pairCh (u v : Int32) : Int32 := (((u &&& 255) <<< ((0 : Int32) &&& 31)) ||| ((v &&& 255) <<< ((8 : Int32) &&& 31))).toUInt32.toUInt16.toUInt32.toInt32
theorem shr0 (c : Int32) : c >>> ((0 : Int32) &&& 31) = c := by
  have e : ((0 : Int32) &&& 31) = 0 := by decide
  rw [e]
  apply Int32.toBitVec_inj.mp
  rw [Int32.toBitVec_shiftRight]
  have e1 : ((0 : Int32).toBitVec.smod 32) = 0#32 := by decide
  rw [e1, BitVec.sshiftRight_eq']
  exact BitVec.sshiftRight_zero
theorem lo8_and (x : Int32) : (lo8 x &&& 255).toBitVec.toNat = x.toBitVec.toNat % 256 := by
  have h : (lo8 x).toBitVec = (x.toBitVec.signExtend 8).signExtend 32 := by rw [lo8, Int8.toBitVec_toInt32, Int32.toBitVec_toInt8]
  rw [Int32.toBitVec_and, BitVec.toNat_and, h]
  have e : ((x.toBitVec.signExtend 8).signExtend 32).toNat % 256 = x.toBitVec.toNat % 256 := by
    rw [BitVec.toNat_signExtend]
    have hlt := x.toBitVec.isLt
    simp only [BitVec.toNat_setWidth, BitVec.toNat_signExtend]
    split <;> split <;> omega
  rw [← e]
  exact Nat.and_two_pow_sub_one_eq_mod _ 8
theorem pair_says {c : Int32} (h0 : ¬ c < 0) (h1 : ¬ 65535 < c) : pairCh (lo8 c) (hi8 c) = c := by
  rw [Int32.lt_iff_toInt_lt] at h0 h1
  have e0 : (0 : Int32).toInt = 0 := rfl
  have e1 : (65535 : Int32).toInt = 65535 := rfl
  have hc : c.toInt = c.toBitVec.toNat := by
    have := c.toBitVec.isLt
    have e : c.toInt = c.toBitVec.toInt := rfl
    rw [e] at h0 h1
    rw [e]
    rw [BitVec.toInt_eq_toNat_cond] at h0 h1 ⊢
    split at h0 <;> split <;> omega
  have hn : c.toBitVec.toNat < 65536 := by omega
  have a1 := lo8_and c
  have a2 : (hi8 c &&& 255).toBitVec.toNat = c.toBitVec.toNat / 256 := by
    rw [hi8, lo8_and]
    have e : ((8 : Int32) &&& 31) = 8 := by decide
    rw [e, Int32.toBitVec_shiftRight]
    have e2 : ((8 : Int32).toBitVec.smod 32) = 8#32 := by decide
    rw [e2, BitVec.sshiftRight_eq', BitVec.toNat_sshiftRight_of_msb_false (by rw [BitVec.msb_eq_false_iff_two_mul_lt]; omega)]
    show c.toBitVec.toNat >>> 8 % 256 = _
    rw [Nat.shiftRight_eq_div_pow]
    omega
  unfold pairCh
  apply Int32.toBitVec_inj.mp
  apply BitVec.eq_of_toNat_eq
  have f0 : ((0 : Int32) &&& 31) = 0 := by decide
  have f8 : ((8 : Int32) &&& 31) = 8 := by decide
  rw [f0, f8]
  have g : (((lo8 c &&& 255) <<< (0 : Int32)) ||| ((hi8 c &&& 255) <<< (8 : Int32))).toBitVec.toNat = c.toBitVec.toNat := by
    rw [Int32.toBitVec_or, Int32.toBitVec_shiftLeft, Int32.toBitVec_shiftLeft]
    have s0 : ((0 : Int32).toBitVec.smod 32) = 0#32 := by decide
    have s8 : ((8 : Int32).toBitVec.smod 32) = 8#32 := by decide
    rw [s0, s8, BitVec.toNat_or]
    simp only [BitVec.shiftLeft_eq', BitVec.toNat_shiftLeft, a1, a2]
    show (c.toBitVec.toNat % 256) <<< 0 % 2 ^ 32 ||| (c.toBitVec.toNat / 256) <<< 8 % 2 ^ 32 = _
    rw [Nat.shiftLeft_zero, Nat.mod_eq_of_lt (show c.toBitVec.toNat % 256 < 2 ^ 32 by omega), Nat.mod_eq_of_lt (show (c.toBitVec.toNat / 256) <<< 8 < 2 ^ 32 by rw [Nat.shiftLeft_eq]; omega), Nat.or_comm, ← Nat.shiftLeft_add_eq_or_of_lt (by omega), Nat.shiftLeft_eq]
    omega
  show BitVec.toNat (((((lo8 c &&& 255) <<< (0 : Int32)) ||| ((hi8 c &&& 255) <<< (8 : Int32))).toBitVec.setWidth 16).setWidth 32) = _
  rw [BitVec.toNat_setWidth, BitVec.toNat_setWidth, g]
  omega
end StrChars
namespace StrChars
open Jvm Sem ClassFile Op Lib Jvm.Stand Jvm.Free.XT Jvm.Free.ALB Jvm.Free.JM Jvm.Free
open Jvm.Lib.Cold (StaticIs)
theorem shr1 {n : Nat} (h : 2 * n < 2 ^ 31) : Int32.ofNat (2 * n) >>> ((1 : Int32) &&& 31) = Int32.ofNat n := by
  have e : ((1 : Int32) &&& 31) = 1 := by decide
  rw [e]
  apply Int32.toBitVec_inj.mp
  rw [Int32.toBitVec_shiftRight]
  have e1 : ((1 : Int32).toBitVec.smod 32) = 1#32 := by decide
  have hm : (BitVec.ofNat 32 (2 * n)).toNat = 2 * n := by rw [BitVec.toNat_ofNat, Nat.mod_eq_of_lt (by omega)]
  rw [e1, BitVec.sshiftRight_eq']
  apply BitVec.eq_of_toNat_eq
  show ((BitVec.ofNat 32 (2 * n)).sshiftRight 1).toNat = (BitVec.ofNat 32 n).toNat
  rw [BitVec.toNat_sshiftRight_of_msb_false (by rw [BitVec.msb_eq_false_iff_two_mul_lt, hm]; omega), hm, BitVec.toNat_ofNat, Nat.shiftRight_eq_div_pow]
  omega
/-- charAt's cast of a byte read back -/
def chr8 (u : Int32) : Int32 := (u &&& 255).toUInt32.toUInt16.toUInt32.toInt32
theorem chr8_lo8 {c : Int32} (h0 : ¬ c < 0) (h1 : ¬ 255 < c) : chr8 (lo8 c) = c := by
  have t : ∀ k : Fin 256, (Int32.ofNat k.val).toUInt32.toUInt16.toUInt32.toInt32 = Int32.ofNat k.val := by decide +kernel
  unfold chr8
  rw [lo8_mask h0 h1]
  rw [Int32.lt_iff_toInt_lt] at h0 h1
  have e0 : (0 : Int32).toInt = 0 := rfl
  have e1 : (255 : Int32).toInt = 255 := rfl
  obtain ⟨k, hk⟩ : ∃ k : Nat, c.toInt = k := ⟨c.toInt.toNat, by omega⟩
  have hx : c = Int32.ofNat k := Int32.toInt_inj.mp (by rw [hk, Int32.toInt_ofNat_small (by omega)])
  rw [hx]
  exact t ⟨k, by omega⟩
theorem narrow_ch {c : Int32} (h0 : ¬ c < 0) (h1 : ¬ 65535 < c) : narrow .char (.int c) = .int c := by
  have q : narrow .char (.int (pairCh (lo8 c) (hi8 c))) = .int (pairCh (lo8 c) (hi8 c)) := narrow_c _
  rwa [pair_says h0 h1] at q
/-- the array's cell V codes the n chars f 0 .. f (n - 1) by the coder cd, as the JDK does: coder 1 just where some char is above 255 -/
def Cod (cd : Int32) (n : Nat) (f : Nat → Int32) (V : Cell) : Prop := (cd = 0 ∧ V.slots.size = n ∧ ∀ j, j < n → V.slots[j]? = some (.int (lo8 (f j))) ∧ ¬ 255 < f j) ∨ (cd = 1 ∧ V.slots.size = 2 * n ∧ (∀ j, j < n → V.slots[2 * j]? = some (.int (lo8 (f j))) ∧ V.slots[2 * j + 1]? = some (.int (hi8 (f j)))) ∧ ∃ j, j < n ∧ 255 < f j)
theorem Cod.cd {cd : Int32} {n : Nat} {f : Nat → Int32} {V : Cell} (h : Cod cd n f V) : cd = 0 ∨ cd = 1 := h.imp (fun q => q.1) fun q => q.1
theorem Cod.len {cd : Int32} {n : Nat} {f : Nat → Int32} {V : Cell} (h : Cod cd n f V) (hs : V.slots.size < 2 ^ 31) : Int32.ofNat V.slots.size >>> (cd &&& 31) = Int32.ofNat n := by
  rcases h with ⟨rfl, h, -⟩ | ⟨rfl, h, -⟩
  · rw [shr0, h]
  · rw [h, shr1 (by omega)]
/-- **x is a String of the n chars f 0 .. f (n - 1)**, Latin-1 or UTF-16; its array at t has the cell V -/
def Txt (x t : Addr) (V : Cell) (cd : Int32) (n : Nat) (f : Nat → Int32) (U : State) : Prop := Exact "java/lang/String" x U ∧ Has x "java/lang/String" "value" "[B" (.ref t) U ∧ Has x "java/lang/String" "coder" "B" (.int cd) U ∧ XT.Arr .byte t V U ∧ Cod cd n f V ∧ ∀ j, j < n → ¬ f j < 0 ∧ ¬ 65535 < f j
theorem Txt.mv {x t : Addr} {V : Cell} {cd : Int32} {n : Nat} {f : Nat → Int32} {U U' : State} (h : Txt x t V cd n f U) (hal : U.vm.Alike U'.vm) (hh : U'.heap = U.heap) : Txt x t V cd n f U' := ⟨h.1.mv hal hh, h.2.1.mv hal hh, h.2.2.1.mv hal hh, h.2.2.2.1.mv hal hh, h.2.2.2.2⟩
namespace Cdr
def yN : MethodName := ⟨"java/lang/String", "coder", "()B"⟩
abbrev yB : ByteArray := jdk_42_method_152_code
theorem d0 : decode yB 0 = .ok (.getstatic 38, 3) := by decide +kernel
theorem d3 : decode yB 3 = .ok (.ifCond (.eq) 10, 3) := by decide +kernel
theorem d6 : decode yB 6 = .ok (.aload_n 0, 1) := by decide +kernel
theorem d7 : decode yB 7 = .ok (.getfield 15, 3) := by decide +kernel
theorem d10 : decode yB 10 = .ok (.goto 4, 3) := by decide +kernel
theorem d14 : decode yB 14 = .ok (.ireturn, 1) := by decide +kernel
def site : List Cond := [.fieldLink "java/lang/String" 38 "java/lang/String" "COMPACT_STRINGS" "Z", .fieldLink "java/lang/String" 15 "java/lang/String" "coder" "B"]
def tab : Cond := tabOf yN yB 1 (some .byte) site
def P (x : Addr) (cd z : Int32) (args : Array Value) (s : State) : Prop := args = #[.ref x] ∧ Has x "java/lang/String" "coder" "B" (.int cd) s ∧ (cd = 0 ∨ cd = 1) ∧ StaticIs s "java/lang/String" "COMPACT_STRINGS" "Z" (.int z) ∧ ¬ z = 0
def E (cd : Int32) (r : Option Value) (s u : State) : Prop := XT.PureE (some (.int cd)) r s u
theorem law (l : Launch) (x : Addr) (cd z : Int32) : Law l yN 1 0 0 0 yB 1 (some .byte) site (P x cd z) (E cd) [] 0 0 := by
  refine Law.of_walk (plainFor_of_name (by decide +kernel)) (by decide +kernel) (by decide +kernel) (by decide) (fun _ _ h => by rw [h.1]; rfl) (fun _ U U' hal hh h => ⟨h.1, h.2.1.mv hal hh, h.2.2.1, h.2.2.2.1.there hal hh, h.2.2.2.2⟩) (fun r U U' V V' h1 hal h2 h => XT.PureE.mv r U U' V V' h1 hal h2 h) ?_
  intro p e s m args below meth c s₁ X0 hexec hbytes hml hret hlk hnm hown hh0 W hP
  obtain ⟨rfl, hx, hc, s1, hz⟩ := hP
  have c1 : Steps p.tables e below (s₁.setTop (entryFrame m #[.ref x] 1)) (s₁.setTop (mkF m 0 #[.val (.ref x)] [])) := entry rfl
  obtain ⟨T2, X2, q2, st2⟩ := X0.sget hexec hown (wk W (.fieldLink "java/lang/String" 38 "java/lang/String" "COMPACT_STRINGS" "Z")) s1 (fun _ _ h => by rw [hh0]; exact h) (g := (mkF m 0 #[.val (.ref x)] [])) rfl (hb hbytes d0)
  have hh2 := q2.trans hh0
  have c3 : Steps p.tables e below (s₁.setTop (entryFrame m #[.ref x] 1)) (T2.setTop (mkF m 7 #[.val (.ref x)] [.ref x])) := (c1.trans (st2 _ (Steps.refl _))).trans (by
    refine XS.ifNo X2.here hexec rfl (hb hbytes d3) rfl (i0_eq_f hz) ?_
    refine XS.aloadN X2.here hexec rfl (hb hbytes d6) rfl rfl ?_
    exact Steps.refl _)
  obtain ⟨T4, X4, q4, st4⟩ := X2.hget hexec hown (wk W (.fieldLink "java/lang/String" 15 "java/lang/String" "coder" "B")) (hx.mv X2.warmed.alike hh2) (g := (mkF m 7 #[.val (.ref x)] [.ref x])) rfl (rest := []) rfl (hb hbytes d7)
  have c5 : Steps p.tables e below (s₁.setTop (entryFrame m #[.ref x] 1)) (T4.setTop (mkF m 14 #[.val (.ref x)] [.int cd])) := (c3.trans (st4 _ (Steps.refl _))).trans (by
    refine XS.goto X4.here hexec rfl (pc0 := 10) rfl (hb hbytes d10) (by decide) rfl ?_
    exact Steps.refl _)
  exact ⟨T4, some (.int cd), _, _, _, X4, rfl, rfl, rfl, (fun h => by cases h), ⟨rfl, q4.trans hh2⟩, fun fs hl => c5.trans (X4.ireturnOut hexec hret (by rcases hc with rfl | rfl <;> rfl) (Or.inr (Or.inr (Or.inl rfl))) (hb hbytes d14) hl)⟩
end Cdr
namespace Len
def yN : MethodName := ⟨"java/lang/String", "length", "()I"⟩
abbrev yB : ByteArray := jdk_42_method_54_code
theorem d0 : decode yB 0 = .ok (.aload_n 0, 1) := by decide +kernel
theorem d1 : decode yB 1 = .ok (.getfield 9, 3) := by decide +kernel
theorem d4 : decode yB 4 = .ok (.arraylength, 1) := by decide +kernel
theorem d5 : decode yB 5 = .ok (.aload_n 0, 1) := by decide +kernel
theorem d6 : decode yB 6 = .ok (.invokevirtual 335, 3) := by decide +kernel
theorem d9 : decode yB 9 = .ok (.ishr, 1) := by decide +kernel
theorem d10 : decode yB 10 = .ok (.ireturn, 1) := by decide +kernel
def site : List Cond := [.fieldLink "java/lang/String" 9 "java/lang/String" "value" "[B", Cdr.tab] ++ virtW "java/lang/String" 335 "java/lang/String" Cdr.yN Cdr.yN
def tab : Cond := tabOf yN yB 1 (some .int) site
def P (x t : Addr) (V : Cell) (cd : Int32) (n : Nat) (f : Nat → Int32) (z : Int32) (args : Array Value) (s : State) : Prop := args = #[.ref x] ∧ Txt x t V cd n f s ∧ StaticIs s "java/lang/String" "COMPACT_STRINGS" "Z" (.int z) ∧ ¬ z = 0
def E (n : Nat) (r : Option Value) (s u : State) : Prop := XT.PureE (some (.int (Int32.ofNat n))) r s u
/-- length() of a String of n chars, in either coding -/
theorem law (l : Launch) (x t : Addr) (V : Cell) (cd : Int32) (n : Nat) (f : Nat → Int32) (z : Int32) : Law l yN 1 0 1 13 yB 1 (some .int) site (P x t V cd n f z) (E n) [] 0 0 := by
  refine Law.of_walk (plainFor_of_name (by decide +kernel)) (by decide +kernel) (by decide +kernel) (by decide) (fun _ _ h => by rw [h.1]; rfl) (fun _ U U' hal hh h => ⟨h.1, h.2.1.mv hal hh, h.2.2.1.there hal hh, h.2.2.2⟩) (fun r U U' V V' h1 hal h2 h => XT.PureE.mv r U U' V V' h1 hal h2 h) ?_
  intro p e s m args below meth c s₁ X0 hexec hbytes hml hret hlk hnm hown hh0 W hP
  obtain ⟨rfl, hx, s1, hz⟩ := hP
  have v31 := hx.2.2.2.1.2.2.2
  have c1 : Steps p.tables e below (s₁.setTop (entryFrame m #[.ref x] 1)) (s₁.setTop (mkF m 1 #[.val (.ref x)] [.ref x])) := Steps.trans (entry rfl) (by
    show Steps p.tables e below (s₁.setTop (mkF m 0 #[.val (.ref x)] [])) _
    refine XS.aloadN X0.here hexec rfl (hb hbytes d0) rfl rfl ?_
    exact Steps.refl _)
  obtain ⟨T2, X2, q2, st2⟩ := X0.hget hexec hown (wk W (.fieldLink "java/lang/String" 9 "java/lang/String" "value" "[B")) (hx.mv X0.warmed.alike hh0).2.1 (g := (mkF m 1 #[.val (.ref x)] [.ref x])) rfl (rest := []) rfl (hb hbytes d1)
  have hh2 := q2.trans hh0
  have hx2 := hx.mv X2.warmed.alike hh2
  have c3 : Steps p.tables e below (s₁.setTop (entryFrame m #[.ref x] 1)) (T2.setTop (mkF m 6 #[.val (.ref x)] [.ref x, .int (Int32.ofNat V.slots.size)])) := (c1.trans (st2 _ (Steps.refl _))).trans (by
    refine X2.alen hexec hx2.2.2.2.1 rfl rfl (hb hbytes d4) ?_
    refine XS.aloadN X2.here hexec rfl (hb hbytes d5) rfl rfl ?_
    exact Steps.refl _)
  obtain ⟨v4, T4, X4, E4, g4⟩ := X2.callV hexec (Cdr.law l x cd z) hown (wks W (virtW "java/lang/String" 335 "java/lang/String" Cdr.yN Cdr.yN)) rfl (by decide) (wk W Cdr.tab) (W := 1) (Nat.le_of_ble_eq_true rfl) (Nat.le_of_ble_eq_true rfl) (Nat.le_refl _) (Nat.le_refl _) (hx2.1.fc X2.warmed.alike) hx2.1.is (g := (mkF m 6 #[.val (.ref x)] [.ref x, .int (Int32.ofNat V.slots.size)])) rfl (by rw [hml]; rfl) c3 (argsL := []) (rest := [.int (Int32.ofNat V.slots.size)]) rfl rfl (by show 2 * 0 + (1 + 0) ≤ _; decide) (hb hbytes d6) (⟨rfl, hx2.2.2.1, hx.2.2.2.2.1.cd, s1.there X2.warmed.alike hh2, hz⟩)
  obtain ⟨rfl, q4⟩ := E4
  have c5 : Steps p.tables e below (s₁.setTop (entryFrame m #[.ref x] 1)) (T4.setTop (mkF m 10 #[.val (.ref x)] [.int (Int32.ofNat V.slots.size >>> (cd &&& 31))])) := Steps.trans g4 (by
    refine ishr X4.here hexec rfl (hb hbytes d9) rfl ?_
    exact Steps.refl _)
  rw [hx.2.2.2.2.1.len v31] at c5
  exact ⟨T4, some (.int (Int32.ofNat n)), _, _, _, X4, rfl, rfl, rfl, (fun h => by cases h), ⟨rfl, q4.trans hh2⟩, fun fs hl => c5.trans (X4.ireturnOut hexec hret rfl (Or.inl rfl) (hb hbytes d10) hl)⟩
theorem pays {l : Launch} {R : Room} {p : Program} {e : Env} {below : List Frame} {s : State} {sargs : Array Value} {len W : Nat} (x t : Addr) (V : Cell) (cd : Int32) (n : Nat) (f : Nat → Int32) (z : Int32) (htab : tab.before sargs s = true) (hfr : 2 ≤ R.frames) (hlo : W + 25 ≤ R.locals) :
    Back l R p e below s sargs yN len W (fun A₁ a₁ => A₁.cells + 0 ≤ R.cells ∧ A₁.slots + 0 ≤ R.slots ∧ P x t V cd n f z a₁ A₁.U) (fun A₁ _ v₁ B₁ => E n v₁ A₁.U B₁.U ∧ B₁.locs = A₁.locs ++ [] ∧ B₁.cells = A₁.cells + 0 ∧ B₁.slots = A₁.slots + 0) :=
  (law l x t V cd n f z).pays htab hfr (by omega)
end Len
namespace IsL
def yN : MethodName := ⟨"java/lang/String", "isLatin1", "()Z"⟩
abbrev yB : ByteArray := jdk_42_method_154_code
theorem d0 : decode yB 0 = .ok (.getstatic 38, 3) := by decide +kernel
theorem d3 : decode yB 3 = .ok (.ifCond (.eq) 14, 3) := by decide +kernel
theorem d6 : decode yB 6 = .ok (.aload_n 0, 1) := by decide +kernel
theorem d7 : decode yB 7 = .ok (.getfield 15, 3) := by decide +kernel
theorem d10 : decode yB 10 = .ok (.ifCond (.ne) 7, 3) := by decide +kernel
theorem d13 : decode yB 13 = .ok (.iconst 1, 1) := by decide +kernel
theorem d14 : decode yB 14 = .ok (.goto 4, 3) := by decide +kernel
theorem d17 : decode yB 17 = .ok (.iconst 0, 1) := by decide +kernel
theorem d18 : decode yB 18 = .ok (.ireturn, 1) := by decide +kernel
def site : List Cond := [.fieldLink "java/lang/String" 38 "java/lang/String" "COMPACT_STRINGS" "Z", .fieldLink "java/lang/String" 15 "java/lang/String" "coder" "B"]
def tab : Cond := tabOf yN yB 1 (some .boolean) site
def P (x : Addr) (cd z : Int32) (args : Array Value) (s : State) : Prop := args = #[.ref x] ∧ Has x "java/lang/String" "coder" "B" (.int cd) s ∧ (cd = 0 ∨ cd = 1) ∧ StaticIs s "java/lang/String" "COMPACT_STRINGS" "Z" (.int z) ∧ ¬ z = 0
def E (cd : Int32) (r : Option Value) (s u : State) : Prop := XT.PureE (some (.int (1 - cd))) r s u
theorem law (l : Launch) (x : Addr) (cd z : Int32) : Law l yN 1 0 0 0 yB 1 (some .boolean) site (P x cd z) (E cd) [] 0 0 := by
  refine Law.of_walk (plainFor_of_name (by decide +kernel)) (by decide +kernel) (by decide +kernel) (by decide) (fun _ _ h => by rw [h.1]; rfl) (fun _ U U' hal hh h => ⟨h.1, h.2.1.mv hal hh, h.2.2.1, h.2.2.2.1.there hal hh, h.2.2.2.2⟩) (fun r U U' V V' h1 hal h2 h => XT.PureE.mv r U U' V V' h1 hal h2 h) ?_
  intro p e s m args below meth c s₁ X0 hexec hbytes hml hret hlk hnm hown hh0 W hP
  obtain ⟨rfl, hx, hc, s1, hz⟩ := hP
  have c1 : Steps p.tables e below (s₁.setTop (entryFrame m #[.ref x] 1)) (s₁.setTop (mkF m 0 #[.val (.ref x)] [])) := entry rfl
  obtain ⟨T2, X2, q2, st2⟩ := X0.sget hexec hown (wk W (.fieldLink "java/lang/String" 38 "java/lang/String" "COMPACT_STRINGS" "Z")) s1 (fun _ _ h => by rw [hh0]; exact h) (g := (mkF m 0 #[.val (.ref x)] [])) rfl (hb hbytes d0)
  have hh2 := q2.trans hh0
  have c3 : Steps p.tables e below (s₁.setTop (entryFrame m #[.ref x] 1)) (T2.setTop (mkF m 7 #[.val (.ref x)] [.ref x])) := (c1.trans (st2 _ (Steps.refl _))).trans (by
    refine XS.ifNo X2.here hexec rfl (hb hbytes d3) rfl (i0_eq_f hz) ?_
    refine XS.aloadN X2.here hexec rfl (hb hbytes d6) rfl rfl ?_
    exact Steps.refl _)
  obtain ⟨T4, X4, q4, st4⟩ := X2.hget hexec hown (wk W (.fieldLink "java/lang/String" 15 "java/lang/String" "coder" "B")) (hx.mv X2.warmed.alike hh2) (g := (mkF m 7 #[.val (.ref x)] [.ref x])) rfl (rest := []) rfl (hb hbytes d7)
  have c5 : Steps p.tables e below (s₁.setTop (entryFrame m #[.ref x] 1)) (T4.setTop (mkF m 10 #[.val (.ref x)] [.int cd])) := c3.trans (st4 _ (Steps.refl _))
  have c6 : Steps p.tables e below (s₁.setTop (entryFrame m #[.ref x] 1)) (T4.setTop (mkF m 18 #[.val (.ref x)] [.int (1 - cd)])) := by
    rcases hc with rfl | rfl
    · exact c5.trans (by
        refine XS.ifNo X4.here hexec rfl (hb hbytes d10) rfl (i0_ne_f rfl) ?_
        refine iconstV X4.here hexec rfl 1 (hb hbytes d13) (by decide) ?_
        refine XS.goto X4.here hexec rfl (pc0 := 14) rfl (hb hbytes d14) (by decide) rfl ?_
        exact Steps.refl _)
    · exact c5.trans (by
        refine XS.ifYes X4.here hexec rfl (pc0 := 10) rfl (hb hbytes d10) rfl (i0_ne_t (by decide)) (by decide) rfl ?_
        refine iconstV X4.here hexec rfl 0 (hb hbytes d17) (by decide) ?_
        exact Steps.refl _)
  exact ⟨T4, some (.int (1 - cd)), _, _, _, X4, rfl, rfl, rfl, (fun h => by cases h), ⟨rfl, q4.trans hh2⟩, fun fs hl => c6.trans (X4.ireturnOut hexec hret (by rcases hc with rfl | rfl <;> rfl) (Or.inr (Or.inl rfl)) (hb hbytes d18) hl)⟩
end IsL
namespace LChA
def yN : MethodName := ⟨"java/lang/StringLatin1", "charAt", "([BI)C"⟩
abbrev yB : ByteArray := jdk_43_method_2_code
theorem d0 : decode yB 0 = .ok (.iload_n 1, 1) := by decide +kernel
theorem d1 : decode yB 1 = .ok (.aload_n 0, 1) := by decide +kernel
theorem d2 : decode yB 2 = .ok (.arraylength, 1) := by decide +kernel
theorem d3 : decode yB 3 = .ok (.invokestatic 9, 3) := by decide +kernel
theorem d6 : decode yB 6 = .ok (.aload_n 0, 1) := by decide +kernel
theorem d7 : decode yB 7 = .ok (.iload_n 1, 1) := by decide +kernel
theorem d8 : decode yB 8 = .ok (.baload, 1) := by decide +kernel
theorem d9 : decode yB 9 = .ok (.sipush 255, 3) := by decide +kernel
theorem d12 : decode yB 12 = .ok (.iand, 1) := by decide +kernel
theorem d13 : decode yB 13 = .ok (.i2c, 1) := by decide +kernel
theorem d14 : decode yB 14 = .ok (.ireturn, 1) := by decide +kernel
def site : List Cond := [JO.Str_checkIndex.tab] ++ staticW "java/lang/StringLatin1" 9 JO.Str_checkIndex.yN
def tab : Cond := tabOf yN yB 2 (some .char) site
def P (t : Addr) (V : Cell) (i : Nat) (u : Int32) (fm : Value) (args : Array Value) (s : State) : Prop := args = #[.ref t, .int (Int32.ofNat i)] ∧ XT.Arr .byte t V s ∧ V.slots[i]? = some (.int u) ∧ (StaticIs s "jdk/internal/util/Preconditions" "SIOOBE_FORMATTER" "Ljava/util/function/BiFunction;" fm ∧ fm.isRef = true)
def E (u : Int32) (r : Option Value) (s w : State) : Prop := XT.PureE (some (.int (chr8 u))) r s w
theorem law (l : Launch) (t : Addr) (V : Cell) (i : Nat) (u : Int32) (fm : Value) : Law l yN 2 2 2 27 yB 2 (some .char) site (P t V i u fm) (E u) [] 0 0 := by
  refine Law.of_walk (plainFor_of_name (by decide +kernel)) (by decide +kernel) (by decide +kernel) (by decide) (fun _ _ h => by rw [h.1]; rfl) (fun _ U U' hal hh h => ⟨h.1, h.2.1.mv hal hh, h.2.2.1, h.2.2.2.1.there hal hh, h.2.2.2.2⟩) (fun r U U' V V' h1 hal h2 h => XT.PureE.mv r U U' V V' h1 hal h2 h) ?_
  intro p e s m args below meth c s₁ X0 hexec hbytes hml hret hlk hnm hown hh0 W hP
  obtain ⟨rfl, hV, hu, s1, rf⟩ := hP
  have v31 := hV.2.2.2
  have hi : i < V.slots.size := (Array.getElem?_eq_some_iff.mp hu).1
  have c1 : Steps p.tables e below (s₁.setTop (entryFrame m #[.ref t, .int (Int32.ofNat i)] 2)) (s₁.setTop (mkF m 0 #[.val (.ref t), .val (.int (Int32.ofNat i))] [])) := entry rfl
  have c2 : Steps p.tables e below (s₁.setTop (entryFrame m #[.ref t, .int (Int32.ofNat i)] 2)) (s₁.setTop (mkF m 3 #[.val (.ref t), .val (.int (Int32.ofNat i))] [.int (Int32.ofNat V.slots.size), .int (Int32.ofNat i)])) := c1.trans (by
    refine XS.iloadN X0.here hexec rfl (hb hbytes d0) rfl ?_
    refine XS.aloadN X0.here hexec rfl (hb hbytes d1) rfl rfl ?_
    refine X0.alen hexec (hV.mv X0.warmed.alike hh0) rfl rfl (hb hbytes d2) ?_
    exact Steps.refl _)
  obtain ⟨v3, T3, X3, E3, g3⟩ := X0.callS hexec (JO.Str_checkIndex.law l (Int32.ofNat i) (Int32.ofNat V.slots.size) fm) hown (wks W (staticW "java/lang/StringLatin1" 9 JO.Str_checkIndex.yN)) (wk W JO.Str_checkIndex.tab) (W := 0) (Nat.le_of_ble_eq_true rfl) (Nat.le_of_ble_eq_true rfl) (Nat.le_refl _) (Nat.le_refl _) (g := (mkF m 3 #[.val (.ref t), .val (.int (Int32.ofNat i))] [.int (Int32.ofNat V.slots.size), .int (Int32.ofNat i)])) rfl (by rw [hml]; rfl) c2 (argsL := [.int (Int32.ofNat i), .int (Int32.ofNat V.slots.size)]) (rest := []) rfl rfl (by show 2 * 0 + 0 ≤ _; decide) (hb hbytes d3) (⟨rfl, rf, s1.there X0.warmed.alike hh0, Int32.ofNat_not_neg (by omega), lt32 v31 hi⟩)
  obtain ⟨rfl, q3⟩ := E3
  have hh3 := q3.trans hh0
  have c4 : Steps p.tables e below (s₁.setTop (entryFrame m #[.ref t, .int (Int32.ofNat i)] 2)) (T3.setTop (mkF m 14 #[.val (.ref t), .val (.int (Int32.ofNat i))] [.int (chr8 u)])) := Steps.trans g3 (by
    refine XS.aloadN X3.here hexec rfl (hb hbytes d6) rfl rfl ?_
    refine XS.iloadN X3.here hexec rfl (hb hbytes d7) rfl ?_
    refine X3.aget hexec (hV.mv X3.warmed.alike hh3) rfl hu rfl rfl (hb hbytes d8) ?_
    refine sipushV X3.here hexec rfl 255 (hb hbytes d9) (by decide) ?_
    refine XS.iand X3.here hexec rfl (hb hbytes d12) rfl ?_
    refine i2c X3.here hexec rfl (hb hbytes d13) rfl ?_
    exact Steps.refl _)
  exact ⟨T3, some (.int (chr8 u)), _, _, _, X3, rfl, rfl, rfl, (fun h => by cases h), ⟨rfl, hh3⟩, fun fs hl => c4.trans (X3.ireturnOut hexec hret (narrow_c _) (Or.inr (Or.inr (Or.inr (Or.inl rfl)))) (hb hbytes d14) hl)⟩
end LChA
end StrChars
namespace StrChars.Road
open Jvm Sem ClassFile Op Lib Jvm.Stand Jvm.Free Jvm.Free.XT
open Jvm.Lib.Cold (StaticIs)
theorem consq {a : Array Value} {s : State} {c : Jvm.Cond} {L : List Jvm.Cond} (h0 : c.before a s = true) (h : ∀ w ∈ L, w.before a s = true) : ∀ w ∈ c :: L, w.before a s = true := fun w hw => (List.mem_cons.mp hw).elim (fun e => e ▸ h0) (h w)
/-- the words of String.length(), either coding -/
abbrev wordsLen : List Jvm.Cond := [.code Len.yN Len.yB 1 (some .int), .initialized ST, .fieldLink ST 9 ST "value" "[B", .fieldLink ST 38 ST "COMPACT_STRINGS" "Z", .fieldLink ST 15 ST "coder" "B", .code Cdr.yN Cdr.yB 1 (some .byte), .methodLink ST 335 Cdr.yN, .declares Cdr.yN, .selects ST Cdr.yN Cdr.yN, .instanceMethod Cdr.yN]
theorem tabLen_of {a : Array Value} {s : State} (h : ∀ w ∈ wordsLen, w.before a s = true) : Len.tab.before a s = true := by
  have hc : Cdr.tab.before a s = true := unparts (wk h (.code Cdr.yN Cdr.yB 1 (some .byte))) (wks h (.initialized Cdr.yN.cls :: Cdr.site))
  have q := consq hc h
  exact unparts (wk q (.code Len.yN Len.yB 1 (some .int))) (wks q (.initialized Len.yN.cls :: Len.site))
theorem movedLen {Z s : State} {a0 args : Array Value} (hZ : Z.Warmed39 s.vm) (hw : ∀ d ∈ wordsLen, d.before a0 Z = true) : ∀ d ∈ wordsLen, d.before args s = true := fun d hd => by
  have q := hw d hd
  have t : ∀ d ∈ wordsLen, d = .arrayClass .byte ∨ (d.onTables && d.keepsFace) = true := by decide +kernel
  rcases t d hd with rfl | t
  · exact RoadKit.mvA hZ q
  · exact RoadKit.mv hZ q t
/-- the bytes of the chars cs, low before high -/
def wideBytes : List Int32 → List Value
  | [] => []
  | c :: cs => .int (lo8 c) :: .int (hi8 c) :: wideBytes cs
theorem wide_lo (d : Value) : ∀ (cs : List Int32) (j : Nat), j < cs.length → (wideBytes cs).getD (2 * j) d = .int (lo8 (cs.getD j 0))
  | [], j, h => absurd h (Nat.not_lt_zero j)
  | c :: cs, 0, _ => rfl
  | c :: cs, j + 1, h => by
    have q := wide_lo d cs j (by simpa using h)
    rw [show 2 * (j + 1) = 2 * j + 1 + 1 from by omega]
    simpa [wideBytes] using q
theorem wide_hi (d : Value) : ∀ (cs : List Int32) (j : Nat), j < cs.length → (wideBytes cs).getD (2 * j + 1) d = .int (hi8 (cs.getD j 0))
  | [], j, h => absurd h (Nat.not_lt_zero j)
  | c :: cs, 0, _ => rfl
  | c :: cs, j + 1, h => by
    have q := wide_hi d cs j (by simpa using h)
    rw [show 2 * (j + 1) + 1 = 2 * j + 1 + 1 + 1 from by omega]
    simpa [wideBytes] using q
theorem low_at (d : Value) (cs : List Int32) (j : Nat) (h : j < cs.length) : (cs.map fun c => Value.int (lo8 c)).getD j d = .int (lo8 (cs.getD j 0)) := by
  simp [List.getD_eq_getElem?_getD, h]
/-- an array of N2 bytes vs codes the chars cs by the coder cd -/
def CodA (cs : List Int32) (cd N2 : Int32) (vs : List Value) : Prop := (cd = 0 ∧ N2 = Int32.ofNat cs.length ∧ vs = (cs.map fun c => Value.int (lo8 c)) ∧ ∀ c ∈ cs, ¬ 255 < c) ∨ (cd = 1 ∧ N2 = Int32.ofNat (2 * cs.length) ∧ vs = wideBytes cs ∧ ∃ c ∈ cs, 255 < c)
theorem CodA.cod {cs : List Int32} {cd N2 : Int32} {vs : List Value} {V : Cell} (h : CodA cs cd N2 vs) (hn : 2 * cs.length < 2 ^ 31) (hs : V.slots.size = N2.toNatClampNeg) (hv : RoadKit.Has V vs (.int 0)) : Cod cd cs.length (fun j => cs.getD j 0) V := by
  rcases h with ⟨rfl, rfl, rfl, h⟩ | ⟨rfl, rfl, rfl, c, hc, hw⟩
  · rw [n32 (by omega)] at hs
    exact Or.inl ⟨rfl, hs, fun j hj => ⟨by rw [hv j (by omega), low_at _ _ _ hj], by
      have e : cs.getD j 0 = cs[j] := by simp [List.getD_eq_getElem?_getD, hj]
      show ¬ 255 < cs.getD j 0
      rw [e]; exact h _ (List.getElem_mem _)⟩⟩
  · rw [n32 (by omega)] at hs
    obtain ⟨j, hj, rfl⟩ := List.getElem_of_mem hc
    exact Or.inr ⟨rfl, hs, fun j hj => ⟨by rw [hv _ (by omega), wide_lo _ _ _ hj], by rw [hv _ (by omega), wide_hi _ _ _ hj]⟩, j, hj, by
      have e : cs.getD j 0 = cs[j] := by simp [List.getD_eq_getElem?_getD, hj]
      show 255 < cs.getD j 0
      rw [e]; exact hw⟩
/-- an object of exactly java/lang/String, its two fields found: as the laws ask it -/
theorem strObj {Z U : State} {a0 : Array Value} {kI : Nat} (wi : (Jvm.Cond.instantiable ST kI).before a0 Z = true) (al : Z.vm.Alike U.vm) {x : Addr} {v0 c0 : Value} (E : RoadKit.Exa Z U.heap x ST) (V : RoadKit.Fld Z U.heap x ST "value" "[B" v0) (C : RoadKit.Fld Z U.heap x ST "coder" "B" c0) :
    ∃ (D : Cell) (fV fC : Field), Blank ST x D U ∧ Found ST "value" "[B" fV U ∧ Found ST "coder" "B" fC U ∧ D.slots[fV.slot]? = some v0 ∧ D.slots[fC.slot]? = some c0 ∧ RoadKit.slotOf Z ST "value" "[B" = fV.slot ∧ RoadKit.slotOf Z ST "coder" "B" = fC.slot := by
  obtain ⟨D, cfV, kV, iV, fV, hD, gV, stV, knV, obV, asV, slV⟩ := V
  obtain ⟨D', cfC, kC, iC, fC, hD', gC, stC, -, -, asC, slC⟩ := C
  cases hD.symm.trans hD'
  obtain ⟨D2, kD, e1, e2, e3, e4, e5⟩ := E
  cases hD.symm.trans e1
  obtain ⟨c2, k2, i1, i2, i3, -⟩ := Cond.instantiable_spec wi
  cases e2.symm.trans i1
  cases e3.symm.trans i2
  obtain ⟨kU, u1, u2⟩ := al.2.2 _ _ e3
  exact ⟨D, fV, fC, ⟨hD, ⟨knV, fun q hq => by rw [hq] at obV; cases obV⟩, by rw [al.findClass]; exact e2, kU, u1, by rw [u2]; exact i3, by rw [u2]; exact e5 i3⟩, ⟨SBG.found_only al ⟨cfV, kV, iV, gV⟩, stV⟩, ⟨SBG.found_only al ⟨cfC, kC, iC, gC⟩, stC⟩, slV, slC, by simp [RoadKit.slotOf, gV], by simp [RoadKit.slotOf, gC]⟩
theorem sta_is {Z U : State} (al : Z.vm.Alike U.vm) {C n d : String} {v : Value} (S : RoadKit.Sta Z U.heap C n d v) : StaticIs U C n d v := by
  obtain ⟨cfS, iS, kS, fS, st, cS, t1, t2, t3, t4, t5, t6, t7⟩ := S
  exact StaticIs.there (s := { Z with heap := U.heap }) ⟨cfS, iS, kS, fS, st, cS, t1, t2, t3, t4, t5, (fun q => by rw [q] at t6; cases t6), t7⟩ al rfl
/-- **length() OF SUCH A STRING** -/
theorem lenW {p : Program} {l : Launch} {e : Env} {R : Room} {s : State} {args : Array Value} {below : List Frame} {len W : Nat} {Z : State} {a0 : Array Value} {h : Heap} (hZ : Z.Warmed39 s.vm) (hw : ∀ d ∈ wordsLen, d.before a0 Z = true) {kI : Nat} (wi : (Jvm.Cond.instantiable ST kI).before a0 Z = true)
    {x t : Addr} {kb : ClassId} {cs : List Int32} {cd N2 z : Int32} {vs : List Value} (E : RoadKit.Exa Z h x ST) (V : RoadKit.Fld Z h x ST "value" "[B" (.ref t)) (C : RoadKit.Fld Z h x ST "coder" "B" (.int cd)) (K : RoadKit.Arv Z h t kb .byte N2 vs (.int 0)) (hc : CodA cs cd N2 vs) (hb : ∀ c ∈ cs, ¬ c < 0 ∧ ¬ (65535 : Int32) < c)
    (S : RoadKit.Sta Z h ST "COMPACT_STRINGS" "Z" (.int z)) (hz : ¬ z = 0) (l2 : cs.length ≤ 4000) (hfr : 2 ≤ R.frames) (hlo : W + 25 ≤ R.locals) :
    Back l R p e below s args (⟨"java/lang/String", "length", "()I"⟩ : MethodName) len W (fun P a => a = #[.ref x] ∧ P.U.heap = h ∧ P.cells + 0 ≤ R.cells ∧ P.slots + 0 ≤ R.slots)
      (fun P _ v B => ∃ L, (v = some (.int (Int32.ofNat cs.length)) ∧ L = [] ∧ B.U.heap = h) ∧ B.locs = P.locs ++ L ∧ B.cells = P.cells + 0 ∧ B.slots = P.slots + 0) := by
  obtain ⟨A, K1, K2, K3, K4, K5, K6⟩ := K
  have hcod := hc.cod (by omega) K3 K5
  intro m meth c P g ig mk a X hg hsize hdg hW hn hp'
  obtain ⟨rfl, rfl, r1, r2⟩ := hp'
  have al : Z.vm.Alike P.U.vm := hZ.alike.trans X.warmed.alike
  obtain ⟨D, fV, fC, hB, F1, F2, g1, g2, -, -⟩ := strObj wi al E V C
  have hx : Txt x t A cd cs.length (fun j => cs.getD j 0) P.U := ⟨⟨_, hB.2.2.1, D, hB.1, rfl, by cases q : D.vm <;> first | rfl | exact absurd q (hB.2.1.2 _)⟩, Has.of hB F1 g1, Has.of hB F2 g2, ⟨K1.1, State.isArrayOf_alike al K1.2.1, K1.2.2, by rcases hcod with ⟨-, q, -⟩ | ⟨-, q, -⟩ <;> omega⟩, hcod, fun j hj => by
    have e : cs.getD j 0 = cs[j] := by simp [List.getD_eq_getElem?_getD, hj]
    show ¬ cs.getD j 0 < 0 ∧ ¬ 65535 < cs.getD j 0
    rw [e]; exact hb _ (List.getElem_mem _)⟩
  obtain ⟨v, B, X', ⟨⟨hv, hh⟩, hl, hk, hs⟩, st⟩ := Len.pays x t A cd cs.length (fun j => cs.getD j 0) z (tabLen_of (movedLen hZ hw)) hfr hlo m meth c P g ig mk _ X hg hsize hdg hW hn ⟨r1, r2, rfl, hx, sta_is al S, hz⟩
  exact ⟨v, B, X', ⟨[], ⟨hv, rfl, hh⟩, hl, hk, hs⟩, st⟩
end StrChars.Road
namespace StrChars
open Jvm Sem ClassFile Op Lib Jvm.Stand Jvm.Free.XT Jvm.Free.ALB Jvm.Free.JM Jvm.Free
open Jvm.Lib.Cold (StaticIs)
/-- what place i of a byte[]'s cell holds -/
def yv (A : Cell) (i : Nat) : Int32 := match A.slots[i]? with | some (.int x) => x | _ => 0
theorem yv_get {a : Addr} {A : Cell} {U : State} (h : XT.Arr .byte a A U) (ht : Typed .byte A) {i : Nat} (hi : i < A.slots.size) : A.slots[i]? = some (.int (yv A i)) := by
  have e := Array.getElem?_eq_getElem hi
  have f := ht i _ e
  unfold yv; rw [e]
  generalize A.slots[i] = v at f
  cases v <;> simp [fits] at f ⊢
/-- the two arrays are equal, place for place -/
def EqC (A B : Cell) : Prop := A.slots.size = B.slots.size ∧ ∀ i, i < A.slots.size → yv A i = yv B i
/-- a boolean that says whether p -/
def Says01 (q : Prop) (r : Option Value) (s u : State) : Prop := ∃ v : Int32, r = some (.int v) ∧ u.heap = s.heap ∧ ((v = 1 ∧ q) ∨ (v = 0 ∧ ¬ q))
theorem Says01.mv {q : Prop} : ∀ r (U U' V V' : State), U'.heap = U.heap → V.vm.Alike V'.vm → V'.heap = V.heap → Says01 q r U V → Says01 q r U' V' :=
  fun r U U' V V' h1 _ h2 ⟨v, a, b, c⟩ => ⟨v, a, by rw [h1, h2]; exact b, c⟩
namespace LEq
def yN : MethodName := ⟨"java/lang/StringLatin1", "equals", "([B[B)Z"⟩
abbrev yB : ByteArray := jdk_43_method_13_code
theorem d0 : decode yB 0 = .ok (.aload_n 0, 1) := by decide +kernel
theorem d1 : decode yB 1 = .ok (.arraylength, 1) := by decide +kernel
theorem d2 : decode yB 2 = .ok (.aload_n 1, 1) := by decide +kernel
theorem d3 : decode yB 3 = .ok (.arraylength, 1) := by decide +kernel
theorem d4 : decode yB 4 = .ok (.if_icmp (.ne) 30, 3) := by decide +kernel
theorem d7 : decode yB 7 = .ok (.iconst 0, 1) := by decide +kernel
theorem d8 : decode yB 8 = .ok (.istore_n 2, 1) := by decide +kernel
theorem d9 : decode yB 9 = .ok (.iload_n 2, 1) := by decide +kernel
theorem d10 : decode yB 10 = .ok (.aload_n 0, 1) := by decide +kernel
theorem d11 : decode yB 11 = .ok (.arraylength, 1) := by decide +kernel
theorem d12 : decode yB 12 = .ok (.if_icmp (.ge) 20, 3) := by decide +kernel
theorem d15 : decode yB 15 = .ok (.aload_n 0, 1) := by decide +kernel
theorem d16 : decode yB 16 = .ok (.iload_n 2, 1) := by decide +kernel
theorem d17 : decode yB 17 = .ok (.baload, 1) := by decide +kernel
theorem d18 : decode yB 18 = .ok (.aload_n 1, 1) := by decide +kernel
theorem d19 : decode yB 19 = .ok (.iload_n 2, 1) := by decide +kernel
theorem d20 : decode yB 20 = .ok (.baload, 1) := by decide +kernel
theorem d21 : decode yB 21 = .ok (.if_icmp (.eq) 5, 3) := by decide +kernel
theorem d24 : decode yB 24 = .ok (.iconst 0, 1) := by decide +kernel
theorem d25 : decode yB 25 = .ok (.ireturn, 1) := by decide +kernel
theorem d26 : decode yB 26 = .ok (.iinc 2 1, 3) := by decide +kernel
theorem d29 : decode yB 29 = .ok (.goto (-20), 3) := by decide +kernel
theorem d32 : decode yB 32 = .ok (.iconst 1, 1) := by decide +kernel
theorem d33 : decode yB 33 = .ok (.ireturn, 1) := by decide +kernel
theorem d34 : decode yB 34 = .ok (.iconst 0, 1) := by decide +kernel
theorem d35 : decode yB 35 = .ok (.ireturn, 1) := by decide +kernel
def site : List Cond := []
def tab : Cond := tabOf yN yB 3 (some .boolean) site
def P (a : Addr) (A : Cell) (b : Addr) (B : Cell) (args : Array Value) (s : State) : Prop := args = #[.ref a, .ref b] ∧ XT.Arr .byte a A s ∧ Typed .byte A ∧ XT.Arr .byte b B s ∧ Typed .byte B
/-- whether two byte[] are equal, place for place -/
theorem law (l : Launch) (a : Addr) (A : Cell) (b : Addr) (B : Cell) : Law l yN 2 2 0 0 yB 3 (some .boolean) site (P a A b B) (Says01 (EqC A B)) [] 0 0 := by
  refine Law.of_walk (plainFor_of_name (by decide +kernel)) (by decide +kernel) (by decide +kernel) (by decide) (fun _ _ h => by rw [h.1]; rfl) (fun _ U U' hal hh h => ⟨h.1, h.2.1.mv hal hh, h.2.2.1, h.2.2.2.1.mv hal hh, h.2.2.2.2⟩) (fun r U U' V V' h1 hal h2 h => Says01.mv r U U' V V' h1 hal h2 h) ?_
  intro p e s m args below meth c s₁ X0 hexec hbytes hml hret hlk hnm hown hh0 W hP
  obtain ⟨rfl, hA, tA, hB, tB⟩ := hP
  have a31 := hA.2.2.2
  have b31 := hB.2.2.2
  have hA0 := hA.mv X0.warmed.alike hh0
  have hB0 := hB.mv X0.warmed.alike hh0
  have c1 : Steps p.tables e below (s₁.setTop (entryFrame m #[.ref a, .ref b] 3)) (s₁.setTop (mkF m 0 #[.val (.ref a), .val (.ref b), .unset] [])) := entry rfl
  have c2 : Steps p.tables e below (s₁.setTop (entryFrame m #[.ref a, .ref b] 3)) (s₁.setTop (mkF m 4 #[.val (.ref a), .val (.ref b), .unset] [.int (Int32.ofNat B.slots.size), .int (Int32.ofNat A.slots.size)])) := c1.trans (by
    refine XS.aloadN X0.here hexec rfl (hb hbytes d0) rfl rfl ?_
    refine X0.alen hexec hA0 rfl rfl (hb hbytes d1) ?_
    refine XS.aloadN X0.here hexec rfl (hb hbytes d2) rfl rfl ?_
    refine X0.alen hexec hB0 rfl rfl (hb hbytes d3) ?_
    exact Steps.refl _)
  by_cases hs : A.slots.size = B.slots.size
  · have c3 : Steps p.tables e below (s₁.setTop (entryFrame m #[.ref a, .ref b] 3)) (s₁.setTop (mkF m 9 #[.val (.ref a), .val (.ref b), .val (.int 0)] [])) := c2.trans (by
      refine XS.icmpNo X0.here hexec rfl (hb hbytes d4) rfl (ii_ne_f (by rw [hs])) ?_
      refine iconstV X0.here hexec rfl 0 (hb hbytes d7) (by decide) ?_
      refine XS.istoreN X0.here hexec rfl (hb hbytes d8) rfl rfl ?_
      exact Steps.refl _)
    have loop : ∀ (r i : Nat), i + r = A.slots.size → (∀ j, j < i → yv A j = yv B j) → Steps p.tables e below (s₁.setTop (entryFrame m #[.ref a, .ref b] 3)) (s₁.setTop (mkF m 9 #[.val (.ref a), .val (.ref b), .val (.int (Int32.ofNat i))] [])) → ∃ (pc : Nat) (Ls : Array Slot) (v : Int32), (pc = 25 ∨ pc = 33) ∧ ((v = 1 ∧ EqC A B) ∨ (v = 0 ∧ ¬ EqC A B)) ∧ Steps p.tables e below (s₁.setTop (entryFrame m #[.ref a, .ref b] 3)) (s₁.setTop (mkF m pc Ls [.int v])) := by
      intro r
      induction r with
      | zero =>
        intro i hi he cl
        exact ⟨33, _, 1, Or.inr rfl, Or.inl ⟨rfl, hs, fun j hj => he j (by omega)⟩, cl.trans (by
          refine XS.iloadN X0.here hexec rfl (hb hbytes d9) rfl ?_
          refine XS.aloadN X0.here hexec rfl (hb hbytes d10) rfl rfl ?_
          refine X0.alen hexec hA0 rfl rfl (hb hbytes d11) ?_
          refine XS.icmpYes X0.here hexec rfl (pc0 := 12) rfl (hb hbytes d12) rfl (ii_ge_t (nlt32 (by omega) (by omega))) (by decide) rfl ?_
          refine iconstV X0.here hexec rfl 1 (hb hbytes d32) (by decide) ?_
          exact Steps.refl _)⟩
      | succ r ih =>
        intro i hi he cl
        have c4 : Steps p.tables e below (s₁.setTop (entryFrame m #[.ref a, .ref b] 3)) (s₁.setTop (mkF m 21 #[.val (.ref a), .val (.ref b), .val (.int (Int32.ofNat i))] [.int (yv B i), .int (yv A i)])) := cl.trans (by
          refine XS.iloadN X0.here hexec rfl (hb hbytes d9) rfl ?_
          refine XS.aloadN X0.here hexec rfl (hb hbytes d10) rfl rfl ?_
          refine X0.alen hexec hA0 rfl rfl (hb hbytes d11) ?_
          refine XS.icmpNo X0.here hexec rfl (hb hbytes d12) rfl (ii_ge_f (lt32 (by omega) (by omega))) ?_
          refine XS.aloadN X0.here hexec rfl (hb hbytes d15) rfl rfl ?_
          refine XS.iloadN X0.here hexec rfl (hb hbytes d16) rfl ?_
          refine X0.aget hexec hA0 rfl (yv_get hA tA (i := i) (by omega)) rfl rfl (hb hbytes d17) ?_
          refine XS.aloadN X0.here hexec rfl (hb hbytes d18) rfl rfl ?_
          refine XS.iloadN X0.here hexec rfl (hb hbytes d19) rfl ?_
          refine X0.aget hexec hB0 rfl (yv_get hB tB (i := i) (by omega)) rfl rfl (hb hbytes d20) ?_
          exact Steps.refl _)
        by_cases hv : yv A i = yv B i
        · have c5 : Steps p.tables e below (s₁.setTop (entryFrame m #[.ref a, .ref b] 3)) (s₁.setTop (mkF m 9 #[.val (.ref a), .val (.ref b), .val (.int (Int32.ofNat i + 1))] [])) := c4.trans (by
            refine XS.icmpYes X0.here hexec rfl (pc0 := 21) rfl (hb hbytes d21) rfl (ii_eq_t hv) (by decide) rfl ?_
            refine iincV X0.here hexec rfl 1 (hb hbytes d26) (by decide) rfl rfl ?_
            refine XS.goto X0.here hexec rfl (pc0 := 29) rfl (hb hbytes d29) (by decide) rfl ?_
            exact Steps.refl _)
          rw [succ32] at c5
          exact ih (i + 1) (by omega) (fun j hj => by
            by_cases e : j = i
            · rw [e]; exact hv
            · exact he j (by omega)) c5
        · exact ⟨25, _, 0, Or.inl rfl, Or.inr ⟨rfl, fun q => hv (q.2 i (by omega))⟩, c4.trans (by
            refine XS.icmpNo X0.here hexec rfl (hb hbytes d21) rfl (ii_eq_f hv) ?_
            refine iconstV X0.here hexec rfl 0 (hb hbytes d24) (by decide) ?_
            exact Steps.refl _)⟩
    obtain ⟨pc, Ls, v, hpc, hv, cz⟩ := loop A.slots.size 0 (by omega) (fun j hj => absurd hj (Nat.not_lt_zero j)) c3
    have nv : narrow .boolean (.int v) = .int v := by rcases hv with ⟨rfl, -⟩ | ⟨rfl, -⟩ <;> rfl
    rcases hpc with rfl | rfl
    · exact ⟨s₁, some (.int v), _, _, _, X0, rfl, rfl, rfl, (fun h => by cases h), ⟨v, rfl, hh0, hv⟩, fun fs hl => cz.trans (X0.ireturnOut hexec hret nv (Or.inr (Or.inl rfl)) (hb hbytes d25) hl)⟩
    · exact ⟨s₁, some (.int v), _, _, _, X0, rfl, rfl, rfl, (fun h => by cases h), ⟨v, rfl, hh0, hv⟩, fun fs hl => cz.trans (X0.ireturnOut hexec hret nv (Or.inr (Or.inl rfl)) (hb hbytes d33) hl)⟩
  · have c3 : Steps p.tables e below (s₁.setTop (entryFrame m #[.ref a, .ref b] 3)) (s₁.setTop (mkF m 35 #[.val (.ref a), .val (.ref b), .unset] [.int 0])) := c2.trans (by
      refine XS.icmpYes X0.here hexec rfl (pc0 := 4) rfl (hb hbytes d4) rfl (ii_ne_t (ne32 a31 b31 hs)) (by decide) rfl ?_
      refine iconstV X0.here hexec rfl 0 (hb hbytes d34) (by decide) ?_
      exact Steps.refl _)
    exact ⟨s₁, some (.int 0), _, _, _, X0, rfl, rfl, rfl, (fun h => by cases h), ⟨0, rfl, hh0, Or.inr ⟨rfl, fun q => hs q.1⟩⟩, fun fs hl => c3.trans (X0.ireturnOut hexec hret rfl (Or.inr (Or.inl rfl)) (hb hbytes d35) hl)⟩
end LEq
theorem Cod.ty {cd : Int32} {n : Nat} {f : Nat → Int32} {V : Cell} (h : Cod cd n f V) : Typed .byte V := fun i v hv => by
  have hi : i < V.slots.size := (Array.getElem?_eq_some_iff.mp hv).1
  rcases h with ⟨-, k1, k2⟩ | ⟨-, k1, k2, -⟩
  · rw [(k2 i (by omega)).1] at hv; cases hv; exact fits_lo8 _
  · rcases Nat.mod_two_eq_zero_or_one i with e | e
    · obtain ⟨j, rfl⟩ : ∃ j, i = 2 * j := ⟨i / 2, by omega⟩
      rw [(k2 j (by omega)).1] at hv; cases hv; exact fits_lo8 _
    · obtain ⟨j, rfl⟩ : ∃ j, i = 2 * j + 1 := ⟨i / 2, by omega⟩
      rw [(k2 j (by omega)).2] at hv; cases hv; exact fits_lo8 _
/-- the same text -/
def SameT (n : Nat) (f : Nat → Int32) (k : Nat) (g : Nat → Int32) : Prop := n = k ∧ ∀ j, j < n → f j = g j
theorem lo8_inj {x y : Int32} (h0 : ¬ x < 0) (h1 : ¬ 255 < x) (k0 : ¬ y < 0) (k1 : ¬ 255 < y) (h : lo8 x = lo8 y) : x = y := by
  rw [← lo8_mask h0 h1, ← lo8_mask k0 k1, h]
/-- arrays coded by one coder are equal just where the texts are -/
theorem Cod.eqv {cd : Int32} {n k : Nat} {f g : Nat → Int32} {V V' : Cell} (h : Cod cd n f V) (h' : Cod cd k g V') (hf : ∀ j, j < n → ¬ f j < 0 ∧ ¬ 65535 < f j) (hg : ∀ j, j < k → ¬ g j < 0 ∧ ¬ 65535 < g j) : EqC V V' ↔ SameT n f k g := by
  have yvv : ∀ {W : Cell} {i : Nat} {x : Int32}, W.slots[i]? = some (.int x) → yv W i = x := fun q => by unfold yv; rw [q]
  rcases h with ⟨rfl, k1, k2⟩ | ⟨rfl, k1, k2, -⟩
  · rcases h' with ⟨-, m1, m2⟩ | ⟨e, -⟩
    · constructor
      · rintro ⟨e1, e2⟩
        refine ⟨by omega, fun j hj => ?_⟩
        have q := e2 j (by omega)
        rw [yvv (k2 j hj).1, yvv (m2 j (by omega)).1] at q
        exact lo8_inj (hf j hj).1 (k2 j hj).2 (hg j (by omega)).1 (m2 j (by omega)).2 q
      · rintro ⟨rfl, e2⟩
        refine ⟨by omega, fun j hj => ?_⟩
        rw [yvv (k2 j (by omega)).1, yvv (m2 j (by omega)).1, e2 j (by omega)]
    · exact absurd e (by decide)
  · rcases h' with ⟨e, -⟩ | ⟨-, m1, m2, -⟩
    · exact absurd e (by decide)
    · constructor
      · rintro ⟨e1, e2⟩
        refine ⟨by omega, fun j hj => ?_⟩
        have q1 := e2 (2 * j) (by omega)
        have q2 := e2 (2 * j + 1) (by omega)
        rw [yvv (k2 j hj).1, yvv (m2 j (by omega)).1] at q1
        rw [yvv (k2 j hj).2, yvv (m2 j (by omega)).2] at q2
        rw [← pair_says (hf j hj).1 (hf j hj).2, ← pair_says (hg j (by omega)).1 (hg j (by omega)).2, q1, q2]
      · rintro ⟨rfl, e2⟩
        refine ⟨by omega, fun i hi => ?_⟩
        rcases Nat.mod_two_eq_zero_or_one i with e | e
        · obtain ⟨j, rfl⟩ : ∃ j, i = 2 * j := ⟨i / 2, by omega⟩
          rw [yvv (k2 j (by omega)).1, yvv (m2 j (by omega)).1, e2 j (by omega)]
        · obtain ⟨j, rfl⟩ : ∃ j, i = 2 * j + 1 := ⟨i / 2, by omega⟩
          rw [yvv (k2 j (by omega)).2, yvv (m2 j (by omega)).2, e2 j (by omega)]
/-- two codings differ: so do the texts -/
theorem Cod.dif {cd cd' : Int32} {n k : Nat} {f g : Nat → Int32} {V V' : Cell} (h : Cod cd n f V) (h' : Cod cd' k g V') (hne : ¬ cd = cd') : ¬ SameT n f k g := by
  rintro ⟨rfl, e⟩
  rcases h with ⟨rfl, -, k2⟩ | ⟨rfl, -, -, j, hj, hw⟩
  · rcases h' with ⟨rfl, -⟩ | ⟨-, -, -, j, hj, hw⟩
    · exact hne rfl
    · exact (k2 j hj).2 (by rw [e j hj]; exact hw)
  · rcases h' with ⟨-, -, m2⟩ | ⟨rfl, -⟩
    · exact (m2 j hj).2 (by rw [← e j hj]; exact hw)
    · exact hne rfl
/-- an object of exactly C is an instance of C -/
theorem cinst {p : Program} {l : Launch} {e : Env} {R : Room} {s : State} {m : MethodId} {args : Array Value} {below : List Frame} {meth : Method} {c : Code} {T : State} {locs : List Loc} {cells slots : Nat} (X : Stand p l e R s m args below meth c T locs cells slots) (hexec : p.tables.exec = Jvm.exec) {own C : String} {index : Nat} (hown : s.vm.findClass own = some m.cls) (hlink : (Cond.classLink own index C).before args s = true) {a : Addr} (hE : Exact C a T)
    {g : JFrame} (hg : g.method = m) {rest : List Value} (hstack : g.stack = .ref a :: rest) (hdg : decode c.code g.pc = .ok (.instanceof index, 3)) :
    ∃ T', Stand p l e R s m args below meth c T' locs cells slots ∧ T'.heap = T.heap ∧ ∀ target, Steps p.tables e below (T'.setTop { g with pc := g.pc + 3, stack := .int 1 :: rest }) target → Steps p.tables e below (T.setTop g) target := by
  obtain ⟨cB, h1, D, h2, h3, h4⟩ := hE
  have h1' : s.vm.findClass C = some cB := by rw [← X.warmed.alike.findClass]; exact h1
  obtain ⟨vm', X', st⟩ := X.instanceofYes hexec hown hlink h2 h4 h1' (by rw [h3]; exact Jvm.Free.SB.assignable_self _ _) hg hstack hdg
  exact ⟨_, X', rfl, st⟩
theorem cself {p : Program} {l : Launch} {e : Env} {R : Room} {s : State} {m : MethodId} {args : Array Value} {below : List Frame} {meth : Method} {c : Code} {T : State} {locs : List Loc} {cells slots : Nat} (X : Stand p l e R s m args below meth c T locs cells slots) (hexec : p.tables.exec = Jvm.exec) {own C : String} {index : Nat} (hown : s.vm.findClass own = some m.cls) (hlink : (Cond.classLink own index C).before args s = true) {a : Addr} (hE : Exact C a T)
    {g : JFrame} (hg : g.method = m) {rest : List Value} (hstack : g.stack = .ref a :: rest) (hdg : decode c.code g.pc = .ok (.checkcast index, 3)) :
    ∃ T', Stand p l e R s m args below meth c T' locs cells slots ∧ T'.heap = T.heap ∧ ∀ target, Steps p.tables e below (T'.setTop { g with pc := g.pc + 3, stack := .ref a :: rest }) target → Steps p.tables e below (T.setTop g) target := by
  obtain ⟨cB, h1, D, h2, h3, h4⟩ := hE
  have h1' : s.vm.findClass C = some cB := by rw [← X.warmed.alike.findClass]; exact h1
  obtain ⟨vm', X', st⟩ := X.checkcastYes hexec hown hlink h2 h4 h1' (by rw [h3]; exact Jvm.Free.SB.assignable_self _ _) hg hstack hdg
  exact ⟨_, X', rfl, fun t h => st t (by rw [← hstack] at h; exact h)⟩
namespace SEq
def yN : MethodName := ⟨"java/lang/String", "equals", "(Ljava/lang/Object;)Z"⟩
abbrev yB : ByteArray := jdk_42_method_66_code
theorem d0 : decode yB 0 = .ok (.aload_n 0, 1) := by decide +kernel
theorem d1 : decode yB 1 = .ok (.aload_n 1, 1) := by decide +kernel
theorem d2 : decode yB 2 = .ok (.if_acmp (.ne) 5, 3) := by decide +kernel
theorem d5 : decode yB 5 = .ok (.iconst 1, 1) := by decide +kernel
theorem d6 : decode yB 6 = .ok (.ireturn, 1) := by decide +kernel
theorem d7 : decode yB 7 = .ok (.aload_n 1, 1) := by decide +kernel
theorem d8 : decode yB 8 = .ok (.instanceof 10, 3) := by decide +kernel
theorem d11 : decode yB 11 = .ok (.ifCond (.eq) 43, 3) := by decide +kernel
theorem d14 : decode yB 14 = .ok (.aload_n 1, 1) := by decide +kernel
theorem d15 : decode yB 15 = .ok (.checkcast 10, 3) := by decide +kernel
theorem d18 : decode yB 18 = .ok (.astore_n 2, 1) := by decide +kernel
theorem d19 : decode yB 19 = .ok (.getstatic 38, 3) := by decide +kernel
theorem d22 : decode yB 22 = .ok (.ifCond (.eq) 14, 3) := by decide +kernel
theorem d25 : decode yB 25 = .ok (.aload_n 0, 1) := by decide +kernel
theorem d26 : decode yB 26 = .ok (.getfield 15, 3) := by decide +kernel
theorem d29 : decode yB 29 = .ok (.aload_n 2, 1) := by decide +kernel
theorem d30 : decode yB 30 = .ok (.getfield 15, 3) := by decide +kernel
theorem d33 : decode yB 33 = .ok (.if_icmp (.ne) 21, 3) := by decide +kernel
theorem d36 : decode yB 36 = .ok (.aload_n 0, 1) := by decide +kernel
theorem d37 : decode yB 37 = .ok (.getfield 9, 3) := by decide +kernel
theorem d40 : decode yB 40 = .ok (.aload_n 2, 1) := by decide +kernel
theorem d41 : decode yB 41 = .ok (.getfield 9, 3) := by decide +kernel
theorem d44 : decode yB 44 = .ok (.invokestatic 541, 3) := by decide +kernel
theorem d47 : decode yB 47 = .ok (.ifCond (.eq) 7, 3) := by decide +kernel
theorem d50 : decode yB 50 = .ok (.iconst 1, 1) := by decide +kernel
theorem d51 : decode yB 51 = .ok (.goto 4, 3) := by decide +kernel
theorem d54 : decode yB 54 = .ok (.iconst 0, 1) := by decide +kernel
theorem d55 : decode yB 55 = .ok (.ireturn, 1) := by decide +kernel
def site : List Cond := [.classLink "java/lang/String" 10 "java/lang/String", .fieldLink "java/lang/String" 38 "java/lang/String" "COMPACT_STRINGS" "Z", .fieldLink "java/lang/String" 15 "java/lang/String" "coder" "B", .fieldLink "java/lang/String" 9 "java/lang/String" "value" "[B", LEq.tab] ++ staticW "java/lang/String" 541 LEq.yN
def tab : Cond := tabOf yN yB 3 (some .boolean) site
def P (x t : Addr) (V : Cell) (cd : Int32) (n : Nat) (f : Nat → Int32) (y t' : Addr) (V' : Cell) (cd' : Int32) (k : Nat) (g : Nat → Int32) (z : Int32) (args : Array Value) (s : State) : Prop := args = #[.ref x, .ref y] ∧ Txt x t V cd n f s ∧ Txt y t' V' cd' k g s ∧ StaticIs s "java/lang/String" "COMPACT_STRINGS" "Z" (.int z) ∧ ¬ z = 0
/-- equals(Object) of two Strings: whether the texts are the same -/
theorem law (l : Launch) (x t : Addr) (V : Cell) (cd : Int32) (n : Nat) (f : Nat → Int32) (y t' : Addr) (V' : Cell) (cd' : Int32) (k : Nat) (g : Nat → Int32) (z : Int32) : Law l yN 2 1 1 14 yB 3 (some .boolean) site (P x t V cd n f y t' V' cd' k g z) (Says01 (SameT n f k g)) [] 0 0 := by
  refine Law.of_walk (plainFor_of_name (by decide +kernel)) (by decide +kernel) (by decide +kernel) (by decide) (fun _ _ h => by rw [h.1]; rfl) (fun _ U U' hal hh h => ⟨h.1, h.2.1.mv hal hh, h.2.2.1.mv hal hh, h.2.2.2.1.there hal hh, h.2.2.2.2⟩) (fun r U U' V V' h1 hal h2 h => Says01.mv r U U' V V' h1 hal h2 h) ?_
  intro p e s m args below meth c s₁ X0 hexec hbytes hml hret hlk hnm hown hh0 W hP
  obtain ⟨rfl, hx, hy, s1, hz⟩ := hP
  have c1 : Steps p.tables e below (s₁.setTop (entryFrame m #[.ref x, .ref y] 3)) (s₁.setTop (mkF m 2 #[.val (.ref x), .val (.ref y), .unset] [.ref y, .ref x])) := Steps.trans (entry rfl) (by
    show Steps p.tables e below (s₁.setTop (mkF m 0 #[.val (.ref x), .val (.ref y), .unset] [])) _
    refine XS.aloadN X0.here hexec rfl (hb hbytes d0) rfl rfl ?_
    refine XS.aloadN X0.here hexec rfl (hb hbytes d1) rfl rfl ?_
    exact Steps.refl _)
  by_cases hxy : x = y
  · have c2 : Steps p.tables e below (s₁.setTop (entryFrame m #[.ref x, .ref y] 3)) (s₁.setTop (mkF m 6 #[.val (.ref x), .val (.ref y), .unset] [.int 1])) := c1.trans (by
      refine acmpNo X0.here hexec rfl (hb hbytes d2) rfl rfl rfl (by simp [acmp, hxy]) ?_
      refine iconstV X0.here hexec rfl 1 (hb hbytes d5) (by decide) ?_
      exact Steps.refl _)
    subst hxy
    have ec : cd = cd' := by
      obtain ⟨D, fd, a1, a2, a3⟩ := hx.2.2.1
      obtain ⟨D', fd', b1, b2, b3⟩ := hy.2.2.1
      cases a1.symm.trans b1
      obtain ⟨q1, q2, q3, q4⟩ := a2.1
      obtain ⟨r1, r2, r3, r4⟩ := b2.1
      cases q4.symm.trans r4
      cases a3.symm.trans b3; rfl
    have et : t = t' := by
      obtain ⟨D, fd, a1, a2, a3⟩ := hx.2.1
      obtain ⟨D', fd', b1, b2, b3⟩ := hy.2.1
      cases a1.symm.trans b1
      obtain ⟨q1, q2, q3, q4⟩ := a2.1
      obtain ⟨r1, r2, r3, r4⟩ := b2.1
      cases q4.symm.trans r4
      cases a3.symm.trans b3; rfl
    subst ec et
    have ev : V = V' := by cases hx.2.2.2.1.1.symm.trans hy.2.2.2.1.1; rfl
    subst ev
    have hs : SameT n f k g := (Cod.eqv hx.2.2.2.2.1 hy.2.2.2.2.1 hx.2.2.2.2.2 hy.2.2.2.2.2).mp ⟨rfl, fun _ _ => rfl⟩
    exact ⟨s₁, some (.int 1), _, _, _, X0, rfl, rfl, rfl, (fun h => by cases h), ⟨1, rfl, hh0, Or.inl ⟨rfl, hs⟩⟩, fun fs hl => c2.trans (X0.ireturnOut hexec hret rfl (Or.inr (Or.inl rfl)) (hb hbytes d6) hl)⟩
  · have c2 : Steps p.tables e below (s₁.setTop (entryFrame m #[.ref x, .ref y] 3)) (s₁.setTop (mkF m 8 #[.val (.ref x), .val (.ref y), .unset] [.ref y])) := c1.trans (by
      refine acmpYes X0.here hexec rfl (pc0 := 2) rfl (hb hbytes d2) rfl rfl rfl (by simp [acmp, hxy]) (by decide) rfl ?_
      refine XS.aloadN X0.here hexec rfl (hb hbytes d7) rfl rfl ?_
      exact Steps.refl _)
    obtain ⟨T3, X3, q3, st3⟩ := cinst X0 hexec hown (wk W (.classLink "java/lang/String" 10 "java/lang/String")) (hy.mv X0.warmed.alike hh0).1 (g := (mkF m 8 #[.val (.ref x), .val (.ref y), .unset] [.ref y])) rfl (rest := []) rfl (hb hbytes d8)
    have hh3 := q3.trans hh0
    have c4 : Steps p.tables e below (s₁.setTop (entryFrame m #[.ref x, .ref y] 3)) (T3.setTop (mkF m 15 #[.val (.ref x), .val (.ref y), .unset] [.ref y])) := (c2.trans (st3 _ (Steps.refl _))).trans (by
      refine XS.ifNo X3.here hexec rfl (hb hbytes d11) rfl (i0_eq_f (by decide)) ?_
      refine XS.aloadN X3.here hexec rfl (hb hbytes d14) rfl rfl ?_
      exact Steps.refl _)
    obtain ⟨T5, X5, q5, st5⟩ := cself X3 hexec hown (wk W (.classLink "java/lang/String" 10 "java/lang/String")) (hy.mv X3.warmed.alike hh3).1 (g := (mkF m 15 #[.val (.ref x), .val (.ref y), .unset] [.ref y])) rfl (rest := []) rfl (hb hbytes d15)
    have hh5 := q5.trans hh3
    have c6 : Steps p.tables e below (s₁.setTop (entryFrame m #[.ref x, .ref y] 3)) (T5.setTop (mkF m 19 #[.val (.ref x), .val (.ref y), .val (.ref y)] [])) := (c4.trans (st5 _ (Steps.refl _))).trans (by
      refine XS.astoreN X5.here hexec rfl (hb hbytes d18) rfl rfl rfl ?_
      exact Steps.refl _)
    obtain ⟨T7, X7, q7, st7⟩ := X5.sget hexec hown (wk W (.fieldLink "java/lang/String" 38 "java/lang/String" "COMPACT_STRINGS" "Z")) s1 (fun _ _ h => by rw [hh5]; exact h) (g := (mkF m 19 #[.val (.ref x), .val (.ref y), .val (.ref y)] [])) rfl (hb hbytes d19)
    have hh7 := q7.trans hh5
    have c8 : Steps p.tables e below (s₁.setTop (entryFrame m #[.ref x, .ref y] 3)) (T7.setTop (mkF m 26 #[.val (.ref x), .val (.ref y), .val (.ref y)] [.ref x])) := (c6.trans (st7 _ (Steps.refl _))).trans (by
      refine XS.ifNo X7.here hexec rfl (hb hbytes d22) rfl (i0_eq_f hz) ?_
      refine XS.aloadN X7.here hexec rfl (hb hbytes d25) rfl rfl ?_
      exact Steps.refl _)
    obtain ⟨T9, X9, q9, st9⟩ := X7.hget hexec hown (wk W (.fieldLink "java/lang/String" 15 "java/lang/String" "coder" "B")) (hx.mv X7.warmed.alike hh7).2.2.1 (g := (mkF m 26 #[.val (.ref x), .val (.ref y), .val (.ref y)] [.ref x])) rfl (rest := []) rfl (hb hbytes d26)
    have hh9 := q9.trans hh7
    have c10 : Steps p.tables e below (s₁.setTop (entryFrame m #[.ref x, .ref y] 3)) (T9.setTop (mkF m 30 #[.val (.ref x), .val (.ref y), .val (.ref y)] [.ref y, .int cd])) := (c8.trans (st9 _ (Steps.refl _))).trans (by
      refine XS.aloadN X9.here hexec rfl (hb hbytes d29) rfl rfl ?_
      exact Steps.refl _)
    obtain ⟨T11, X11, q11, st11⟩ := X9.hget hexec hown (wk W (.fieldLink "java/lang/String" 15 "java/lang/String" "coder" "B")) (hy.mv X9.warmed.alike hh9).2.2.1 (g := (mkF m 30 #[.val (.ref x), .val (.ref y), .val (.ref y)] [.ref y, .int cd])) rfl (rest := [.int cd]) rfl (hb hbytes d30)
    have hh11 := q11.trans hh9
    have c12 : Steps p.tables e below (s₁.setTop (entryFrame m #[.ref x, .ref y] 3)) (T11.setTop (mkF m 33 #[.val (.ref x), .val (.ref y), .val (.ref y)] [.int cd', .int cd])) := c10.trans (st11 _ (Steps.refl _))
    by_cases hcd : cd = cd'
    · subst hcd
      have c13 : Steps p.tables e below (s₁.setTop (entryFrame m #[.ref x, .ref y] 3)) (T11.setTop (mkF m 37 #[.val (.ref x), .val (.ref y), .val (.ref y)] [.ref x])) := c12.trans (by
        refine XS.icmpNo X11.here hexec rfl (hb hbytes d33) rfl (ii_ne_f rfl) ?_
        refine XS.aloadN X11.here hexec rfl (hb hbytes d36) rfl rfl ?_
        exact Steps.refl _)
      obtain ⟨T14, X14, q14, st14⟩ := X11.hget hexec hown (wk W (.fieldLink "java/lang/String" 9 "java/lang/String" "value" "[B")) (hx.mv X11.warmed.alike hh11).2.1 (g := (mkF m 37 #[.val (.ref x), .val (.ref y), .val (.ref y)] [.ref x])) rfl (rest := []) rfl (hb hbytes d37)
      have hh14 := q14.trans hh11
      have c15 : Steps p.tables e below (s₁.setTop (entryFrame m #[.ref x, .ref y] 3)) (T14.setTop (mkF m 41 #[.val (.ref x), .val (.ref y), .val (.ref y)] [.ref y, .ref t])) := (c13.trans (st14 _ (Steps.refl _))).trans (by
        refine XS.aloadN X14.here hexec rfl (hb hbytes d40) rfl rfl ?_
        exact Steps.refl _)
      obtain ⟨T16, X16, q16, st16⟩ := X14.hget hexec hown (wk W (.fieldLink "java/lang/String" 9 "java/lang/String" "value" "[B")) (hy.mv X14.warmed.alike hh14).2.1 (g := (mkF m 41 #[.val (.ref x), .val (.ref y), .val (.ref y)] [.ref y, .ref t])) rfl (rest := [.ref t]) rfl (hb hbytes d41)
      have hh16 := q16.trans hh14
      have c17 : Steps p.tables e below (s₁.setTop (entryFrame m #[.ref x, .ref y] 3)) (T16.setTop (mkF m 44 #[.val (.ref x), .val (.ref y), .val (.ref y)] [.ref t', .ref t])) := c15.trans (st16 _ (Steps.refl _))
      obtain ⟨v18, T18, X18, E18, g18⟩ := X16.callS hexec (LEq.law l t V t' V') hown (wks W (staticW "java/lang/String" 541 LEq.yN)) (wk W LEq.tab) (W := 0) (Nat.le_of_ble_eq_true rfl) (Nat.le_of_ble_eq_true rfl) (Nat.le_refl _) (Nat.le_refl _) (g := (mkF m 44 #[.val (.ref x), .val (.ref y), .val (.ref y)] [.ref t', .ref t])) rfl (by rw [hml]; rfl) c17 (argsL := [.ref t, .ref t']) (rest := []) rfl rfl (by show 2 * 0 + 0 ≤ _; decide) (hb hbytes d44) (⟨rfl, hx.2.2.2.1.mv X16.warmed.alike hh16, hx.2.2.2.2.1.ty, hy.2.2.2.1.mv X16.warmed.alike hh16, hy.2.2.2.2.1.ty⟩)
      obtain ⟨v, rfl, q18, hv⟩ := E18
      have iff := Cod.eqv hx.2.2.2.2.1 hy.2.2.2.2.1 hx.2.2.2.2.2 hy.2.2.2.2.2
      rcases hv with ⟨rfl, he⟩ | ⟨rfl, he⟩
      · have c19 : Steps p.tables e below (s₁.setTop (entryFrame m #[.ref x, .ref y] 3)) (T18.setTop (mkF m 55 #[.val (.ref x), .val (.ref y), .val (.ref y)] [.int 1])) := Steps.trans g18 (by
          refine XS.ifNo X18.here hexec rfl (hb hbytes d47) rfl (i0_eq_f (by decide)) ?_
          refine iconstV X18.here hexec rfl 1 (hb hbytes d50) (by decide) ?_
          refine XS.goto X18.here hexec rfl (pc0 := 51) rfl (hb hbytes d51) (by decide) rfl ?_
          exact Steps.refl _)
        exact ⟨T18, some (.int 1), _, _, _, X18, rfl, rfl, rfl, (fun h => by cases h), ⟨1, rfl, q18.trans hh16, Or.inl ⟨rfl, iff.mp he⟩⟩, fun fs hl => c19.trans (X18.ireturnOut hexec hret rfl (Or.inr (Or.inl rfl)) (hb hbytes d55) hl)⟩
      · have c19 : Steps p.tables e below (s₁.setTop (entryFrame m #[.ref x, .ref y] 3)) (T18.setTop (mkF m 55 #[.val (.ref x), .val (.ref y), .val (.ref y)] [.int 0])) := Steps.trans g18 (by
          refine XS.ifYes X18.here hexec rfl (pc0 := 47) rfl (hb hbytes d47) rfl (i0_eq_t rfl) (by decide) rfl ?_
          refine iconstV X18.here hexec rfl 0 (hb hbytes d54) (by decide) ?_
          exact Steps.refl _)
        exact ⟨T18, some (.int 0), _, _, _, X18, rfl, rfl, rfl, (fun h => by cases h), ⟨0, rfl, q18.trans hh16, Or.inr ⟨rfl, fun q => he (iff.mpr q)⟩⟩, fun fs hl => c19.trans (X18.ireturnOut hexec hret rfl (Or.inr (Or.inl rfl)) (hb hbytes d55) hl)⟩
    · have c13 : Steps p.tables e below (s₁.setTop (entryFrame m #[.ref x, .ref y] 3)) (T11.setTop (mkF m 55 #[.val (.ref x), .val (.ref y), .val (.ref y)] [.int 0])) := c12.trans (by
        refine XS.icmpYes X11.here hexec rfl (pc0 := 33) rfl (hb hbytes d33) rfl (ii_ne_t hcd) (by decide) rfl ?_
        refine iconstV X11.here hexec rfl 0 (hb hbytes d54) (by decide) ?_
        exact Steps.refl _)
      exact ⟨T11, some (.int 0), _, _, _, X11, rfl, rfl, rfl, (fun h => by cases h), ⟨0, rfl, hh11, Or.inr ⟨rfl, Cod.dif hx.2.2.2.2.1 hy.2.2.2.2.1 hcd⟩⟩, fun fs hl => c13.trans (X11.ireturnOut hexec hret rfl (Or.inr (Or.inl rfl)) (hb hbytes d55) hl)⟩
theorem pays {l : Launch} {R : Room} {p : Program} {e : Env} {below : List Frame} {s : State} {sargs : Array Value} {len W : Nat} (x t : Addr) (V : Cell) (cd : Int32) (n : Nat) (f : Nat → Int32) (y t' : Addr) (V' : Cell) (cd' : Int32) (k : Nat) (g : Nat → Int32) (z : Int32) (htab : tab.before sargs s = true) (hfr : 2 ≤ R.frames) (hlo : W + 28 ≤ R.locals) :
    Back l R p e below s sargs yN len W (fun A₁ a₁ => A₁.cells + 0 ≤ R.cells ∧ A₁.slots + 0 ≤ R.slots ∧ P x t V cd n f y t' V' cd' k g z a₁ A₁.U) (fun A₁ _ v₁ B₁ => Says01 (SameT n f k g) v₁ A₁.U B₁.U ∧ B₁.locs = A₁.locs ++ [] ∧ B₁.cells = A₁.cells + 0 ∧ B₁.slots = A₁.slots + 0) :=
  (law l x t V cd n f y t' V' cd' k g z).pays htab hfr (by omega)
end SEq
end StrChars
namespace StrChars.Road
open Jvm Sem ClassFile Op Lib Jvm.Stand Jvm.Free Jvm.Free.XT
open Jvm.Lib.Cold (StaticIs)
/-- the words of String.equals(Object) -/
abbrev wordsEq : List Jvm.Cond := [.code SEq.yN SEq.yB 3 (some .boolean), .initialized ST, .classLink ST 10 ST, .fieldLink ST 38 ST "COMPACT_STRINGS" "Z", .fieldLink ST 15 ST "coder" "B", .fieldLink ST 9 ST "value" "[B", .methodLink ST 541 LEq.yN, .static LEq.yN, .code LEq.yN LEq.yB 3 (some .boolean), .initialized "java/lang/StringLatin1"]
theorem tabEq_of {a : Array Value} {s : State} (h : ∀ w ∈ wordsEq, w.before a s = true) : SEq.tab.before a s = true := by
  have hl : LEq.tab.before a s = true := unparts (wk h (.code LEq.yN LEq.yB 3 (some .boolean))) (wks h (.initialized LEq.yN.cls :: LEq.site))
  have q := consq hl h
  exact unparts (wk q (.code SEq.yN SEq.yB 3 (some .boolean))) (wks q (.initialized SEq.yN.cls :: SEq.site))
theorem movedEq {Z s : State} {a0 args : Array Value} (hZ : Z.Warmed39 s.vm) (hw : ∀ d ∈ wordsEq, d.before a0 Z = true) : ∀ d ∈ wordsEq, d.before args s = true := fun d hd => by
  have t : ∀ d ∈ wordsEq, (d.onTables && d.keepsFace) = true := by decide +kernel
  exact RoadKit.mv hZ (hw d hd) (t d hd)
/-- the road's facts of a String, as the laws ask it -/
theorem txt_of {Z U : State} {a0 : Array Value} {kI : Nat} (wi : (Jvm.Cond.instantiable ST kI).before a0 Z = true) (al : Z.vm.Alike U.vm) {x t : Addr} {kb : ClassId} {cs : List Int32} {cd N2 : Int32} {vs : List Value} (E : RoadKit.Exa Z U.heap x ST) (V : RoadKit.Fld Z U.heap x ST "value" "[B" (.ref t)) (C : RoadKit.Fld Z U.heap x ST "coder" "B" (.int cd)) (K : RoadKit.Arv Z U.heap t kb .byte N2 vs (.int 0)) (hc : CodA cs cd N2 vs) (hb : ∀ c ∈ cs, ¬ c < 0 ∧ ¬ (65535 : Int32) < c) (l2 : cs.length ≤ 4000) :
    ∃ A, Txt x t A cd cs.length (fun j => cs.getD j 0) U := by
  obtain ⟨A, K1, K2, K3, K4, K5, K6⟩ := K
  have hcod := hc.cod (by omega) K3 K5
  obtain ⟨D, fV, fC, hB, F1, F2, g1, g2, -, -⟩ := strObj wi al E V C
  exact ⟨A, ⟨_, hB.2.2.1, D, hB.1, rfl, by cases q : D.vm <;> first | rfl | exact absurd q (hB.2.1.2 _)⟩, Has.of hB F1 g1, Has.of hB F2 g2, ⟨K1.1, State.isArrayOf_alike al K1.2.1, K1.2.2, by rcases hcod with ⟨-, q, -⟩ | ⟨-, q, -⟩ <;> omega⟩, hcod, fun j hj => by
    have e : cs.getD j 0 = cs[j] := by simp [List.getD_eq_getElem?_getD, hj]
    show ¬ cs.getD j 0 < 0 ∧ ¬ 65535 < cs.getD j 0
    rw [e]; exact hb _ (List.getElem_mem _)⟩
theorem same_list (cs ds : List Int32) : SameT cs.length (fun j => cs.getD j 0) ds.length (fun j => ds.getD j 0) ↔ cs = ds := by
  constructor
  · rintro ⟨e, q⟩
    refine List.ext_getElem e fun j h1 h2 => ?_
    have := q j h1
    simpa [List.getD_eq_getElem?_getD, h1, h2] using this
  · rintro rfl
    exact ⟨rfl, fun _ _ => rfl⟩
/-- **equals(Object) OF TWO SUCH STRINGS**: 1 just where the chars are the same -/
theorem eqW {p : Program} {l : Launch} {e : Env} {R : Room} {s : State} {args : Array Value} {below : List Frame} {len W : Nat} {Z : State} {a0 : Array Value} {h : Heap} (hZ : Z.Warmed39 s.vm) (hw : ∀ d ∈ wordsEq, d.before a0 Z = true) {kI : Nat} (wi : (Jvm.Cond.instantiable ST kI).before a0 Z = true)
    {x t : Addr} {kb : ClassId} {cs : List Int32} {cd N2 : Int32} {vs : List Value} (E : RoadKit.Exa Z h x ST) (V : RoadKit.Fld Z h x ST "value" "[B" (.ref t)) (C : RoadKit.Fld Z h x ST "coder" "B" (.int cd)) (K : RoadKit.Arv Z h t kb .byte N2 vs (.int 0)) (hc : CodA cs cd N2 vs) (hb : ∀ c ∈ cs, ¬ c < 0 ∧ ¬ (65535 : Int32) < c) (l2 : cs.length ≤ 4000)
    {y t' : Addr} {kb' : ClassId} {ds : List Int32} {cd' N2' : Int32} {vs' : List Value} (E' : RoadKit.Exa Z h y ST) (V' : RoadKit.Fld Z h y ST "value" "[B" (.ref t')) (C' : RoadKit.Fld Z h y ST "coder" "B" (.int cd')) (K' : RoadKit.Arv Z h t' kb' .byte N2' vs' (.int 0)) (hc' : CodA ds cd' N2' vs') (hb' : ∀ c ∈ ds, ¬ c < 0 ∧ ¬ (65535 : Int32) < c) (l2' : ds.length ≤ 4000)
    {z : Int32} (S : RoadKit.Sta Z h ST "COMPACT_STRINGS" "Z" (.int z)) (hz : ¬ z = 0) (hfr : 2 ≤ R.frames) (hlo : W + 28 ≤ R.locals) :
    Back l R p e below s args (⟨"java/lang/String", "equals", "(Ljava/lang/Object;)Z"⟩ : MethodName) len W (fun P a => a = #[.ref x, .ref y] ∧ P.U.heap = h ∧ P.cells + 0 ≤ R.cells ∧ P.slots + 0 ≤ R.slots)
      (fun P _ v B => ∃ L, (((v = some (.int 1) ∧ cs = ds) ∨ (v = some (.int 0) ∧ ¬ cs = ds)) ∧ L = [] ∧ B.U.heap = h) ∧ B.locs = P.locs ++ L ∧ B.cells = P.cells + 0 ∧ B.slots = P.slots + 0) := by
  intro m meth c P g ig mk a X hg hsize hdg hW hn hp'
  obtain ⟨rfl, rfl, r1, r2⟩ := hp'
  have al : Z.vm.Alike P.U.vm := hZ.alike.trans X.warmed.alike
  obtain ⟨A, hx⟩ := txt_of wi al E V C K hc hb l2
  obtain ⟨A', hy⟩ := txt_of wi al E' V' C' K' hc' hb' l2'
  obtain ⟨v, B, X', ⟨⟨w, hv, hh, hq⟩, hl, hk, hs⟩, st⟩ := SEq.pays x t A cd cs.length (fun j => cs.getD j 0) y t' A' cd' ds.length (fun j => ds.getD j 0) z (tabEq_of (movedEq hZ hw)) hfr hlo m meth c P g ig mk _ X hg hsize hdg hW hn ⟨r1, r2, rfl, hx, hy, sta_is al S, hz⟩
  refine ⟨v, B, X', ⟨[], ⟨?_, rfl, hh⟩, hl, hk, hs⟩, st⟩
  rcases hq with ⟨rfl, q⟩ | ⟨rfl, q⟩
  · exact Or.inl ⟨hv, (same_list cs ds).mp q⟩
  · exact Or.inr ⟨hv, fun e => q ((same_list cs ds).mpr e)⟩
end StrChars.Road
namespace StrChars
open Jvm Sem ClassFile Op Lib Jvm.Stand Jvm.Free.XT Jvm.Free.ALB Jvm.Free.JM Jvm.Free
open Jvm.Lib.Cold (StaticIs)
namespace ChN
def yN : MethodName := ⟨"java/lang/String", "charAt", "(I)C"⟩
abbrev yB : ByteArray := jdk_42_method_56_code
theorem d0 : decode yB 0 = .ok (.aload_n 0, 1) := by decide +kernel
theorem d1 : decode yB 1 = .ok (.invokevirtual 492, 3) := by decide +kernel
theorem d4 : decode yB 4 = .ok (.ifCond (.eq) 12, 3) := by decide +kernel
theorem d7 : decode yB 7 = .ok (.aload_n 0, 1) := by decide +kernel
theorem d8 : decode yB 8 = .ok (.getfield 9, 3) := by decide +kernel
theorem d11 : decode yB 11 = .ok (.iload_n 1, 1) := by decide +kernel
theorem d12 : decode yB 12 = .ok (.invokestatic 495, 3) := by decide +kernel
theorem d15 : decode yB 15 = .ok (.ireturn, 1) := by decide +kernel
def site : List Cond := [.fieldLink "java/lang/String" 9 "java/lang/String" "value" "[B", IsL.tab, LChA.tab] ++ virtW "java/lang/String" 492 "java/lang/String" IsL.yN IsL.yN ++ staticW "java/lang/String" 495 LChA.yN
def tab : Cond := tabOf yN yB 2 (some .char) site
def P (x t : Addr) (V : Cell) (n : Nat) (f : Nat → Int32) (z : Int32) (fm : Value) (i : Nat) (args : Array Value) (s : State) : Prop := args = #[.ref x, .int (Int32.ofNat i)] ∧ Txt x t V 0 n f s ∧ i < n ∧ StaticIs s "java/lang/String" "COMPACT_STRINGS" "Z" (.int z) ∧ ¬ z = 0 ∧ StaticIs s "jdk/internal/util/Preconditions" "SIOOBE_FORMATTER" "Ljava/util/function/BiFunction;" fm ∧ fm.isRef = true
def E (f : Nat → Int32) (i : Nat) (r : Option Value) (s u : State) : Prop := XT.PureE (some (.int (f i))) r s u
/-- charAt(i) of a Latin-1 String of n chars, i < n: f i -/
theorem law (l : Launch) (x t : Addr) (V : Cell) (n : Nat) (f : Nat → Int32) (z : Int32) (fm : Value) (i : Nat) : Law l yN 2 1 3 40 yB 2 (some .char) site (P x t V n f z fm i) (E f i) [] 0 0 := by
  refine Law.of_walk (plainFor_of_name (by decide +kernel)) (by decide +kernel) (by decide +kernel) (by decide) (fun _ _ h => by rw [h.1]; rfl) (fun _ U U' hal hh h => ⟨h.1, h.2.1.mv hal hh, h.2.2.1, h.2.2.2.1.there hal hh, h.2.2.2.2.1, h.2.2.2.2.2.1.there hal hh, h.2.2.2.2.2.2⟩) (fun r U U' V V' h1 hal h2 h => XT.PureE.mv r U U' V V' h1 hal h2 h) ?_
  intro p e s m args below meth c s₁ X0 hexec hbytes hml hret hlk hnm hown hh0 W hP
  obtain ⟨rfl, hx, hi, s1, hz, s3, rf⟩ := hP
  have v31 := hx.2.2.2.1.2.2.2
  have hr := hx.2.2.2.2.2 i hi
  have hx0 := hx.mv X0.warmed.alike hh0
  have c1 : Steps p.tables e below (s₁.setTop (entryFrame m #[.ref x, .int (Int32.ofNat i)] 2)) (s₁.setTop (mkF m 1 #[.val (.ref x), .val (.int (Int32.ofNat i))] [.ref x])) := Steps.trans (entry rfl) (by
    show Steps p.tables e below (s₁.setTop (mkF m 0 #[.val (.ref x), .val (.int (Int32.ofNat i))] [])) _
    refine XS.aloadN X0.here hexec rfl (hb hbytes d0) rfl rfl ?_
    exact Steps.refl _)
  obtain ⟨v2, T2, X2, E2, g2⟩ := X0.callV hexec (IsL.law l x 0 z) hown (wks W (virtW "java/lang/String" 492 "java/lang/String" IsL.yN IsL.yN)) rfl (by decide) (wk W IsL.tab) (W := 0) (Nat.le_of_ble_eq_true rfl) (Nat.le_of_ble_eq_true rfl) (Nat.le_refl _) (Nat.le_refl _) (hx0.1.fc X0.warmed.alike) hx0.1.is (g := (mkF m 1 #[.val (.ref x), .val (.int (Int32.ofNat i))] [.ref x])) rfl (by rw [hml]; rfl) c1 (argsL := []) (rest := []) rfl rfl (by show 2 * 0 + 0 ≤ _; decide) (hb hbytes d1) (⟨rfl, hx0.2.2.1, hx.2.2.2.2.1.cd, s1.there X0.warmed.alike hh0, hz⟩)
  obtain ⟨rfl, q2⟩ := E2
  have hh2 := q2.trans hh0
  have hx2 := hx.mv X2.warmed.alike hh2
  obtain ⟨-, k1, k2⟩ | ⟨k0, -⟩ := hx.2.2.2.2.1
  · have c3 : Steps p.tables e below (s₁.setTop (entryFrame m #[.ref x, .int (Int32.ofNat i)] 2)) (T2.setTop (mkF m 8 #[.val (.ref x), .val (.int (Int32.ofNat i))] [.ref x])) := Steps.trans g2 (by
      refine XS.ifNo X2.here hexec rfl (hb hbytes d4) rfl (i0_eq_f (by decide)) ?_
      refine XS.aloadN X2.here hexec rfl (hb hbytes d7) rfl rfl ?_
      exact Steps.refl _)
    obtain ⟨T4, X4, q4, st4⟩ := X2.hget hexec hown (wk W (.fieldLink "java/lang/String" 9 "java/lang/String" "value" "[B")) hx2.2.1 (g := (mkF m 8 #[.val (.ref x), .val (.int (Int32.ofNat i))] [.ref x])) rfl (rest := []) rfl (hb hbytes d8)
    have hh4 := q4.trans hh2
    have c5 : Steps p.tables e below (s₁.setTop (entryFrame m #[.ref x, .int (Int32.ofNat i)] 2)) (T4.setTop (mkF m 12 #[.val (.ref x), .val (.int (Int32.ofNat i))] [.int (Int32.ofNat i), .ref t])) := (c3.trans (st4 _ (Steps.refl _))).trans (by
      refine XS.iloadN X4.here hexec rfl (hb hbytes d11) rfl ?_
      exact Steps.refl _)
    obtain ⟨v6, T6, X6, E6, g6⟩ := X4.callS hexec (LChA.law l t V i (lo8 (f i)) fm) hown (wks W (staticW "java/lang/String" 495 LChA.yN)) (wk W LChA.tab) (W := 0) (Nat.le_of_ble_eq_true rfl) (Nat.le_of_ble_eq_true rfl) (Nat.le_refl _) (Nat.le_refl _) (g := (mkF m 12 #[.val (.ref x), .val (.int (Int32.ofNat i))] [.int (Int32.ofNat i), .ref t])) rfl (by rw [hml]; rfl) c5 (argsL := [.ref t, .int (Int32.ofNat i)]) (rest := []) rfl rfl (by show 2 * 0 + 0 ≤ _; decide) (hb hbytes d12) (⟨rfl, hx.2.2.2.1.mv X4.warmed.alike hh4, (k2 i hi).1, s3.there X4.warmed.alike hh4, rf⟩)
    obtain ⟨rfl, q6⟩ := E6
    rw [chr8_lo8 hr.1 (k2 i hi).2] at g6
    exact ⟨T6, some (.int (f i)), _, _, _, X6, rfl, rfl, rfl, (fun h => by cases h), ⟨rfl, q6.trans hh4⟩, fun fs hl => Steps.trans g6 (X6.ireturnOut hexec hret (narrow_ch hr.1 hr.2) (Or.inr (Or.inr (Or.inr (Or.inl rfl)))) (hb hbytes d15) hl)⟩
  · exact absurd k0 (by decide)
theorem pays {l : Launch} {R : Room} {p : Program} {e : Env} {below : List Frame} {s : State} {sargs : Array Value} {len W : Nat} (x t : Addr) (V : Cell) (n : Nat) (f : Nat → Int32) (z : Int32) (fm : Value) (i : Nat) (htab : tab.before sargs s = true) (hfr : 4 ≤ R.frames) (hlo : W + 53 ≤ R.locals) :
    Back l R p e below s sargs yN len W (fun A₁ a₁ => A₁.cells + 0 ≤ R.cells ∧ A₁.slots + 0 ≤ R.slots ∧ P x t V n f z fm i a₁ A₁.U) (fun A₁ _ v₁ B₁ => E f i v₁ A₁.U B₁.U ∧ B₁.locs = A₁.locs ++ [] ∧ B₁.cells = A₁.cells + 0 ∧ B₁.slots = A₁.slots + 0) :=
  (law l x t V n f z fm i).pays htab hfr (by omega)
end ChN
end StrChars
namespace StrChars.Road
open Jvm Sem ClassFile Op Lib Jvm.Stand Jvm.Free Jvm.Free.XT
open Jvm.Lib.Cold (StaticIs)
/-- the words of String.charAt(int), the Latin-1 road alone -/
abbrev wordsChN : List Jvm.Cond := [.code ChN.yN ChN.yB 2 (some .char), .initialized ST, .fieldLink ST 9 ST "value" "[B", .fieldLink ST 38 ST "COMPACT_STRINGS" "Z", .fieldLink ST 15 ST "coder" "B", .code IsL.yN IsL.yB 1 (some .boolean), .methodLink ST 492 IsL.yN, .declares IsL.yN, .selects ST IsL.yN IsL.yN, .instanceMethod IsL.yN,
  .methodLink ST 495 LChA.yN, .static LChA.yN, .code LChA.yN LChA.yB 2 (some .char), .initialized "java/lang/StringLatin1", .methodLink "java/lang/StringLatin1" 9 JO.Str_checkIndex.yN, .static JO.Str_checkIndex.yN, .code JO.Str_checkIndex.yN JO.Str_checkIndex.yB 2 none,
  .fieldLink ST 1053 "jdk/internal/util/Preconditions" "SIOOBE_FORMATTER" "Ljava/util/function/BiFunction;", .methodLink ST 1059 JC.PreCheck.yN, .static JC.PreCheck.yN, .code JC.PreCheck.yN JC.PreCheck.yB 3 (some .int), .initialized "jdk/internal/util/Preconditions"]
theorem tabChN_of {a : Array Value} {s : State} (h : ∀ w ∈ wordsChN, w.before a s = true) : ChN.tab.before a s = true := by
  have hp : JC.PreCheck.tab.before a s = true := unparts (wk h (.code JC.PreCheck.yN JC.PreCheck.yB 3 (some .int))) (wks h (.initialized JC.PreCheck.yN.cls :: JC.PreCheck.site))
  have qk := consq hp h
  have hk : JO.Str_checkIndex.tab.before a s = true := unparts (wk qk (.code JO.Str_checkIndex.yN JO.Str_checkIndex.yB 2 none)) (wks qk (.initialized JO.Str_checkIndex.yN.cls :: JO.Str_checkIndex.site))
  have ql := consq hk h
  have hl : LChA.tab.before a s = true := unparts (wk ql (.code LChA.yN LChA.yB 2 (some .char))) (wks ql (.initialized LChA.yN.cls :: LChA.site))
  have hi : IsL.tab.before a s = true := unparts (wk h (.code IsL.yN IsL.yB 1 (some .boolean))) (wks h (.initialized IsL.yN.cls :: IsL.site))
  have q := consq hi (consq hl h)
  exact unparts (wk q (.code ChN.yN ChN.yB 2 (some .char))) (wks q (.initialized ChN.yN.cls :: ChN.site))
theorem movedChN {Z s : State} {a0 args : Array Value} (hZ : Z.Warmed39 s.vm) (hw : ∀ d ∈ wordsChN, d.before a0 Z = true) : ∀ d ∈ wordsChN, d.before args s = true := fun d hd => by
  have t : ∀ d ∈ wordsChN, (d.onTables && d.keepsFace) = true := by decide +kernel
  exact RoadKit.mv hZ (hw d hd) (t d hd)
/-- **charAt(i) OF A LATIN-1 STRING**, i < n: the char -/
theorem chN {p : Program} {l : Launch} {e : Env} {R : Room} {s : State} {args : Array Value} {below : List Frame} {len W : Nat} {Z : State} {a0 : Array Value} {h : Heap} (hZ : Z.Warmed39 s.vm) (hw : ∀ d ∈ wordsChN, d.before a0 Z = true) {kI : Nat} (wi : (Jvm.Cond.instantiable ST kI).before a0 Z = true)
    {x t : Addr} {kb : ClassId} {cs : List Int32} {N2 z : Int32} {vs : List Value} {fm : Value} {i : Nat} {j : Int32} (E : RoadKit.Exa Z h x ST) (V : RoadKit.Fld Z h x ST "value" "[B" (.ref t)) (C : RoadKit.Fld Z h x ST "coder" "B" (.int 0)) (K : RoadKit.Arv Z h t kb .byte N2 vs (.int 0)) (hc : CodA cs 0 N2 vs) (hb : ∀ c ∈ cs, ¬ c < 0 ∧ ¬ (65535 : Int32) < c)
    (S : RoadKit.Sta Z h ST "COMPACT_STRINGS" "Z" (.int z)) (hz : ¬ z = 0) (F : RoadKit.Sta Z h "jdk/internal/util/Preconditions" "SIOOBE_FORMATTER" "Ljava/util/function/BiFunction;" fm) (rf : fm.isRef = true) (l2 : cs.length ≤ 4000) (hi : i < cs.length) (hj : j = Int32.ofNat i) (hfr : 4 ≤ R.frames) (hlo : W + 53 ≤ R.locals) :
    Back l R p e below s args (⟨"java/lang/String", "charAt", "(I)C"⟩ : MethodName) len W (fun P a => a = #[.ref x, .int j] ∧ P.U.heap = h ∧ P.cells + 0 ≤ R.cells ∧ P.slots + 0 ≤ R.slots)
      (fun P _ v B => ∃ L, (v = some (.int (cs.getD i 0)) ∧ L = [] ∧ B.U.heap = h) ∧ B.locs = P.locs ++ L ∧ B.cells = P.cells + 0 ∧ B.slots = P.slots + 0) := by
  subst hj
  intro m meth c P g ig mk a X hg hsize hdg hW hn hp'
  obtain ⟨rfl, rfl, r1, r2⟩ := hp'
  have al : Z.vm.Alike P.U.vm := hZ.alike.trans X.warmed.alike
  obtain ⟨A, hx⟩ := txt_of wi al E V C K hc hb l2
  obtain ⟨v, B, X', ⟨⟨hv, hh⟩, hl, hk, hs⟩, st⟩ := ChN.pays x t A cs.length (fun j => cs.getD j 0) z fm i (tabChN_of (movedChN hZ hw)) hfr hlo m meth c P g ig mk _ X hg hsize hdg hW hn ⟨r1, r2, rfl, hx, hi, sta_is al S, hz, sta_is al F, rf⟩
  exact ⟨v, B, X', ⟨[], ⟨hv, rfl, hh⟩, hl, hk, hs⟩, st⟩
/-- what backV says of its String, as the contracts of this text ask it: cs's low bytes, coder 0 -/
theorem codOf {cs : List Int32} {n : Nat} (hn : cs.length = n) (hb : ∀ c ∈ cs, ¬ 255 < c) : CodA cs 0 (Int32.ofNat n) ((cs.map lo8).map Value.int) := Or.inl ⟨rfl, by rw [hn], by simp [List.map_map, Function.comp_def], hb⟩
end StrChars.Road
end Jvm.Pilot.@@N@@
namespace Jvm.Pilot.@@N@@
open Jvm Jvm.ClassFile Sem Op Lib Jvm.Free Jvm.Stand Jvm.LawKit Jvm.RoadKit Bundle Jvm.Pilot.@@N@@.Jvm.D
set_option maxRecDepth 65536
set_option maxHeartbeats 40000000
section OwnKit
variable {p : Program} {l : Launch} {e : Env} {R : Room} {s : State} {m : MethodId} {args : Array Value} {below : List Frame} {meth : Method} {c : Code} {T : State} {locs : List Loc} {cells slots : Nat} {Z : State} {a0 : Array Value} {h : Heap} {own : String} {cd : ByteArray} {maxL : Nat} {ret : Option FieldType} {nm : String} {n0 : Nat} {F : Option Value → Heap → Prop} {kc ks : Nat} {En : Outcome → State → Prop} {pc : Nat} {ls : Array Slot} {st : List Value}
/-- from the frame g over T the method runs to its end, returns v, leaves a heap, F holds of both; only new cells are written -/
def own_Go (p : Program) (e : Env) (below : List Frame) (En : Outcome → State → Prop) (T : State) (g : JFrame) : Prop :=
  ∃ s₂ o, Steps p.tables e below (T.setTop g) s₂ ∧ s₂.status = .running ∧ Ended s₂ below o ∧ En o s₂
def own_En (s : State) (n0 : Nat) (F : Option Value → Heap → Prop) (kc ks : Nat) (o : Outcome) (s₂ : State) : Prop := ∃ v L, o = .returned v ∧ (F v s₂.heap ∧ Fr n0 L) ∧ FrameEnd s o s₂ L kc ks
theorem own_step {T' : State} {g g' : JFrame} (st : ∀ t, Steps p.tables e below (T'.setTop g') t → Steps p.tables e below (T.setTop g) t) (k : own_Go p e below En T' g') : own_Go p e below En T g := by
  obtain ⟨s₂, o, h1, h2⟩ := k
  exact ⟨s₂, o, st _ h1, h2⟩
/-- what stays the same in one body -/
def own_Cx (p : Program) (s : State) (m : MethodId) (meth : Method) (c : Code) (Z : State) (own : String) (cd : ByteArray) (maxL : Nat) (ret : Option FieldType) (nm : String) : Prop :=
  p.tables.exec = Jvm.exec ∧ c.code = cd ∧ c.maxLocals = maxL ∧ s.vm.findClass own = some m.cls ∧ meth.name = nm ∧ meth.sig.returnType = ret ∧ meth.locks = false ∧ Z.Warmed39 s.vm
/-- where the walk stands: the heap is h, at most so many cells and slots have been made, nothing old was written -/
def own_S (p : Program) (l : Launch) (e : Env) (R : Room) (s : State) (m : MethodId) (args : Array Value) (below : List Frame) (meth : Method) (c : Code) (n0 : Nat) (T : State) (h : Heap) (cells slots : Nat) : Prop :=
  ∃ locs k n, Stand p l e R s m args below meth c T locs k n ∧ T.heap = h ∧ Fr n0 locs ∧ k ≤ cells ∧ n ≤ slots
theorem own_S.mono {c' s' : Nat} (S : own_S p l e R s m args below meth c n0 T h cells slots) (h1 : cells ≤ c') (h2 : slots ≤ s') : own_S p l e R s m args below meth c n0 T h c' s' := by
  obtain ⟨locs, k, n, X, e1, N, q1, q2⟩ := S
  exact ⟨locs, k, n, X, e1, N, Nat.le_trans q1 h1, Nat.le_trans q2 h2⟩
theorem own_hd (C : own_Cx p s m meth c Z own cd maxL ret nm) {i : Instr} {len : Nat} (hd : decode cd pc = .ok (i, len)) : decode c.code pc = .ok (i, len) := by rw [C.2.1]; exact hd
theorem own_hsz (C : own_Cx p s m meth c Z own cd maxL ret nm) (hsz : ls.size = maxL) : ls.size = c.maxLocals := by rw [C.2.2.1]; exact hsz
/-- the k-th table word -/
theorem own_wd {L : List Jvm.Cond} (hw : ∀ d ∈ L, d.before a0 Z = true) (i : Nat) {d : Jvm.Cond} (hi : L[i]? = some d) : d.before a0 Z = true := hw d (List.mem_of_getElem? hi)
/-- one plain instruction -/
def own_st (i : Instr) (len pc : Nat) (ls : Array Slot) (st : List Value) : Option (Nat × Array Slot × List Value) :=
  match i with
  | .iload_n k => match len, ls[k.val]? with | 1, some (.val (.int v)) => some (pc + 1, ls, .int v :: st) | _, _ => none
  | .iload k => match len, ls[k]? with | 2, some (.val (.int v)) => some (pc + 2, ls, .int v :: st) | _, _ => none
  | .lload_n k => match len, ls[k.val]? with | 1, some (.val (.long v)) => some (pc + 1, ls, .long v :: st) | _, _ => none
  | .lload k => match len, ls[k]? with | 2, some (.val (.long v)) => some (pc + 2, ls, .long v :: st) | _, _ => none
  | .dload_n k => match len, ls[k.val]? with | 1, some (.val (.double v)) => some (pc + 1, ls, .double v :: st) | _, _ => none
  | .dload k => match len, ls[k]? with | 2, some (.val (.double v)) => some (pc + 2, ls, .double v :: st) | _, _ => none
  | .aload_n k => match len, ls[k.val]? with | 1, some (.val (.ref v)) => some (pc + 1, ls, .ref v :: st) | 1, some (.val .null) => some (pc + 1, ls, .null :: st) | _, _ => none
  | .aload k => match len, ls[k]? with | 2, some (.val (.ref v)) => some (pc + 2, ls, .ref v :: st) | 2, some (.val .null) => some (pc + 2, ls, .null :: st) | _, _ => none
  | .istore_n k => match len, st with | 1, .int x :: r => (match storeLocals ls k.val (.int x) with | some l' => some (pc + 1, l', r) | none => none) | _, _ => none
  | .istore k => match len, st with | 2, .int x :: r => (match storeLocals ls k (.int x) with | some l' => some (pc + 2, l', r) | none => none) | _, _ => none
  | .lstore_n k => match len, st with | 1, .long x :: r => (match storeLocals ls k.val (.long x) with | some l' => some (pc + 1, l', r) | none => none) | _, _ => none
  | .lstore k => match len, st with | 2, .long x :: r => (match storeLocals ls k (.long x) with | some l' => some (pc + 2, l', r) | none => none) | _, _ => none
  | .dstore_n k => match len, st with | 1, .double x :: r => (match storeLocals ls k.val (.double x) with | some l' => some (pc + 1, l', r) | none => none) | _, _ => none
  | .dstore k => match len, st with | 2, .double x :: r => (match storeLocals ls k (.double x) with | some l' => some (pc + 2, l', r) | none => none) | _, _ => none
  | .astore_n k => match len, st with
    | 1, .ref x :: r => (match storeLocals ls k.val (.ref x) with | some l' => some (pc + 1, l', r) | none => none)
    | 1, .null :: r => (match storeLocals ls k.val .null with | some l' => some (pc + 1, l', r) | none => none)
    | _, _ => none
  | .astore k => match len, st with
    | 2, .ref x :: r => (match storeLocals ls k (.ref x) with | some l' => some (pc + 2, l', r) | none => none)
    | 2, .null :: r => (match storeLocals ls k .null with | some l' => some (pc + 2, l', r) | none => none)
    | _, _ => none
  | .iinc k d => match len, ls[k]? with | 3, some (.val (.int x)) => (match storeLocals ls k (.int (x + Int32.ofInt d)) with | some l' => some (pc + 3, l', st) | none => none) | _, _ => none
  | .iconst i => match len with | 1 => some (pc + 1, ls, .int (Int32.ofInt i) :: st) | _ => none
  | .bipush i => match len with | 2 => some (pc + 2, ls, .int (Int8.ofInt i).toInt32 :: st) | _ => none
  | .sipush i => match len with | 3 => some (pc + 3, ls, .int (Int16.ofInt i).toInt32 :: st) | _ => none
  | .lconst k => match len with | 1 => some (pc + 1, ls, .long (Int64.ofNat k) :: st) | _ => none
  | .aconst_null => match len with | 1 => some (pc + 1, ls, .null :: st) | _ => none
  | .iadd => match len, st with | 1, .int y :: .int x :: r => some (pc + 1, ls, .int (x + y) :: r) | _, _ => none
  | .isub => match len, st with | 1, .int y :: .int x :: r => some (pc + 1, ls, .int (x - y) :: r) | _, _ => none
  | .imul => match len, st with | 1, .int y :: .int x :: r => some (pc + 1, ls, .int (x * y) :: r) | _, _ => none
  | .iand => match len, st with | 1, .int y :: .int x :: r => some (pc + 1, ls, .int (x &&& y) :: r) | _, _ => none
  | .ior => match len, st with | 1, .int y :: .int x :: r => some (pc + 1, ls, .int (x ||| y) :: r) | _, _ => none
  | .ixor => match len, st with | 1, .int y :: .int x :: r => some (pc + 1, ls, .int (x ^^^ y) :: r) | _, _ => none
  | .ishl => match len, st with | 1, .int y :: .int x :: r => some (pc + 1, ls, .int (x <<< (y &&& 31)) :: r) | _, _ => none
  | .ishr => match len, st with | 1, .int y :: .int x :: r => some (pc + 1, ls, .int (x >>> (y &&& 31)) :: r) | _, _ => none
  | .iushr => match len, st with | 1, .int y :: .int x :: r => some (pc + 1, ls, .int (Jvm.Free.XT.ushr x y) :: r) | _, _ => none
  | .ineg => match len, st with | 1, .int x :: r => some (pc + 1, ls, .int (-x) :: r) | _, _ => none
  | .ladd => match len, st with | 1, .long y :: .long x :: r => some (pc + 1, ls, .long (x + y) :: r) | _, _ => none
  | .lsub => match len, st with | 1, .long y :: .long x :: r => some (pc + 1, ls, .long (x - y) :: r) | _, _ => none
  | .lmul => match len, st with | 1, .long y :: .long x :: r => some (pc + 1, ls, .long (x * y) :: r) | _, _ => none
  | .land => match len, st with | 1, .long y :: .long x :: r => some (pc + 1, ls, .long (x &&& y) :: r) | _, _ => none
  | .lor => match len, st with | 1, .long y :: .long x :: r => some (pc + 1, ls, .long (x ||| y) :: r) | _, _ => none
  | .lshl => match len, st with | 1, .int y :: .long x :: r => some (pc + 1, ls, .long (x <<< (y.toInt64 &&& 63)) :: r) | _, _ => none
  | .lshr => match len, st with | 1, .int y :: .long x :: r => some (pc + 1, ls, .long (x >>> (y.toInt64 &&& 63)) :: r) | _, _ => none
  | .lushr => match len, st with | 1, .int y :: .long x :: r => some (pc + 1, ls, .long (Jvm.Free.XT.ushrL x y) :: r) | _, _ => none
  | .lcmp => match len, st with | 1, .long y :: .long x :: r => some (pc + 1, ls, .int (Jvm.Free.XT.cmpL x y) :: r) | _, _ => none
  | .i2l => match len, st with | 1, .int x :: r => some (pc + 1, ls, .long x.toInt64 :: r) | _, _ => none
  | .l2i => match len, st with | 1, .long x :: r => some (pc + 1, ls, .int x.toInt32 :: r) | _, _ => none
  | .i2b => match len, st with | 1, .int x :: r => some (pc + 1, ls, .int x.toInt8.toInt32 :: r) | _, _ => none
  | .i2c => match len, st with | 1, .int x :: r => some (pc + 1, ls, .int x.toUInt32.toUInt16.toUInt32.toInt32 :: r) | _, _ => none
  | .i2s => match len, st with | 1, .int x :: r => some (pc + 1, ls, .int x.toInt16.toInt32 :: r) | _, _ => none
  | .i2d => match len, st with | 1, .int x :: r => some (pc + 1, ls, .double (FP.i2d x) :: r) | _, _ => none
  | .dup => match len, st with | 1, .int x :: r => some (pc + 1, ls, .int x :: .int x :: r) | 1, .ref x :: r => some (pc + 1, ls, .ref x :: .ref x :: r) | 1, .null :: r => some (pc + 1, ls, .null :: .null :: r) | _, _ => none
  | .pop => match len, st with | 1, .int x :: r => some (pc + 1, ls, r) | 1, .ref x :: r => some (pc + 1, ls, r) | 1, .null :: r => some (pc + 1, ls, r) | _, _ => none
  | .dup_x1 => match len, st with | 1, .int x :: .ref y :: r => some (pc + 1, ls, .int x :: .ref y :: .int x :: r) | 1, .int x :: .int y :: r => some (pc + 1, ls, .int x :: .int y :: .int x :: r) | 1, .ref x :: .ref y :: r => some (pc + 1, ls, .ref x :: .ref y :: .ref x :: r) | _, _ => none
  | .dup2 => match len, st with | 1, .int x :: .ref y :: r => some (pc + 1, ls, .int x :: .ref y :: .int x :: .ref y :: r) | 1, .int x :: .int y :: r => some (pc + 1, ls, .int x :: .int y :: .int x :: .int y :: r) | 1, .long x :: r => some (pc + 1, ls, .long x :: .long x :: r) | _, _ => none
  | .goto o => match len, decide (0 ≤ (pc : Int) + o) with | 3, true => some (((pc : Int) + o).toNat, ls, st) | _, _ => none
  | .ifnull o => match len, st, decide (0 ≤ (pc : Int) + o) with | 3, .null :: r, true => some (((pc : Int) + o).toNat, ls, r) | 3, .ref _ :: r, _ => some (pc + 3, ls, r) | _, _, _ => none
  | .ifnonnull o => match len, st, decide (0 ≤ (pc : Int) + o) with | 3, .ref _ :: r, true => some (((pc : Int) + o).toNat, ls, r) | 3, .null :: r, _ => some (pc + 3, ls, r) | _, _, _ => none
  | .ifCond q o => match len, st, decide (0 ≤ (pc : Int) + o) with
    | 3, .int x :: r, true => (match if_icmp.holds q x 0 with | true => some (((pc : Int) + o).toNat, ls, r) | false => some (pc + 3, ls, r))
    | _, _, _ => none
  | .if_icmp q o => match len, st, decide (0 ≤ (pc : Int) + o) with
    | 3, .int y :: .int x :: r, true => (match if_icmp.holds q x y with | true => some (((pc : Int) + o).toNat, ls, r) | false => some (pc + 3, ls, r))
    | _, _, _ => none
  | _ => none
theorem own_st_ok (X : Stand p l e R s m args below meth c T locs cells slots) (hx : p.tables.exec = Jvm.exec) {i : Instr} {len pc' : Nat} {ls' : Array Slot} {st' : List Value} (hd : decode c.code pc = .ok (i, len)) (hs : own_st i len pc ls st = some (pc', ls', st')) (t : State)
    (k : Steps p.tables e below (T.setTop (mkF m pc' ls' st')) t) : Steps p.tables e below (T.setTop (mkF m pc ls st)) t := by
  unfold own_st at hs
  split at hs
  · split at hs <;> first | cases hs | skip
    rename_i q; exact XS.iloadN X.here hx rfl hd q k
  · split at hs <;> first | cases hs | skip
    rename_i q; exact XS.iload X.here hx rfl hd q k
  · split at hs <;> first | cases hs | skip
    rename_i q; exact Jvm.Free.XT.lloadN X.here hx rfl hd q k
  · split at hs <;> first | cases hs | skip
    rename_i q; exact Jvm.Free.XT.lload X.here hx rfl hd q k
  · split at hs <;> first | cases hs | skip
    rename_i q; exact XS.dloadN X.here hx rfl hd q k
  · split at hs <;> first | cases hs | skip
    rename_i q; exact XS.dload X.here hx rfl hd q k
  · split at hs <;> first | cases hs | skip
    · rename_i q; exact XS.aloadN X.here hx rfl hd q rfl k
    · rename_i q; exact XS.aloadN X.here hx rfl hd q rfl k
  · split at hs <;> first | cases hs | skip
    · rename_i q; exact XS.aload X.here hx rfl hd q rfl k
    · rename_i q; exact XS.aload X.here hx rfl hd q rfl k
  · split at hs <;> first | cases hs | skip
    split at hs <;> first | cases hs | skip
    rename_i q; exact XS.istoreN X.here hx rfl hd rfl q k
  · split at hs <;> first | cases hs | skip
    split at hs <;> first | cases hs | skip
    rename_i q; exact XS.istore X.here hx rfl hd rfl q k
  · split at hs <;> first | cases hs | skip
    split at hs <;> first | cases hs | skip
    rename_i q; exact Jvm.Free.XT.lstoreN X.here hx rfl hd rfl q k
  · split at hs <;> first | cases hs | skip
    split at hs <;> first | cases hs | skip
    rename_i q; exact Jvm.Free.XT.lstore X.here hx rfl hd rfl q k
  · split at hs <;> first | cases hs | skip
    split at hs <;> first | cases hs | skip
    rename_i q; exact XS.dstoreN X.here hx rfl hd rfl q k
  · split at hs <;> first | cases hs | skip
    split at hs <;> first | cases hs | skip
    rename_i q; exact XS.dstore X.here hx rfl hd rfl q k
  · split at hs <;> first | cases hs | skip
    all_goals
      split at hs <;> first | cases hs | skip
      rename_i q; exact XS.astoreN X.here hx rfl hd rfl rfl q k
  · split at hs <;> first | cases hs | skip
    all_goals
      split at hs <;> first | cases hs | skip
      rename_i q; exact XS.astore X.here hx rfl hd rfl rfl q k
  · split at hs <;> first | cases hs | skip
    rename_i q0
    split at hs <;> first | cases hs | skip
    rename_i q; exact XS.iinc X.here hx rfl hd q0 q k
  · split at hs <;> first | cases hs | skip
    exact XS.iconst X.here hx rfl hd k
  · split at hs <;> first | cases hs | skip
    exact XS.bipush X.here hx rfl hd k
  · split at hs <;> first | cases hs | skip
    exact XS.sipush X.here hx rfl hd k
  · split at hs <;> first | cases hs | skip
    exact Jvm.Free.XT.lconst X.here hx rfl hd k
  · split at hs <;> first | cases hs | skip
    exact XS.aconstNull X.here hx rfl hd k
  · split at hs <;> first | cases hs | skip
    exact XS.iadd X.here hx rfl hd rfl k
  · split at hs <;> first | cases hs | skip
    exact XS.isub X.here hx rfl hd rfl k
  · split at hs <;> first | cases hs | skip
    exact XS.imul X.here hx rfl hd rfl k
  · split at hs <;> first | cases hs | skip
    exact XS.iand X.here hx rfl hd rfl k
  · split at hs <;> first | cases hs | skip
    exact Jvm.Free.XT.ior X.here hx rfl hd rfl k
  · split at hs <;> first | cases hs | skip
    exact Jvm.Free.XT.ixor X.here hx rfl hd rfl k
  · split at hs <;> first | cases hs | skip
    exact Jvm.Free.XT.ishl X.here hx rfl hd rfl k
  · split at hs <;> first | cases hs | skip
    exact Jvm.Free.XT.ishr X.here hx rfl hd rfl k
  · split at hs <;> first | cases hs | skip
    exact Jvm.Free.XT.iushr X.here hx rfl hd rfl k
  · split at hs <;> first | cases hs | skip
    exact XS.ineg X.here hx rfl hd rfl k
  · split at hs <;> first | cases hs | skip
    exact Jvm.Free.XT.ladd X.here hx rfl hd rfl k
  · split at hs <;> first | cases hs | skip
    exact Jvm.Free.XT.lsub X.here hx rfl hd rfl k
  · split at hs <;> first | cases hs | skip
    exact Jvm.Free.XT.lmul X.here hx rfl hd rfl k
  · split at hs <;> first | cases hs | skip
    exact Jvm.Free.XT.land X.here hx rfl hd rfl k
  · split at hs <;> first | cases hs | skip
    exact Jvm.Free.XT.lor X.here hx rfl hd rfl k
  · split at hs <;> first | cases hs | skip
    exact Jvm.Free.XT.lshl X.here hx rfl hd rfl k
  · split at hs <;> first | cases hs | skip
    exact Jvm.Free.XT.lshr X.here hx rfl hd rfl k
  · split at hs <;> first | cases hs | skip
    exact Jvm.Free.XT.lushr X.here hx rfl hd rfl k
  · split at hs <;> first | cases hs | skip
    exact Jvm.Free.XT.lcmp X.here hx rfl hd rfl k
  · split at hs <;> first | cases hs | skip
    exact Jvm.Free.XT.i2l X.here hx rfl hd rfl k
  · split at hs <;> first | cases hs | skip
    exact Jvm.Free.XT.l2i X.here hx rfl hd rfl k
  · split at hs <;> first | cases hs | skip
    exact Jvm.Free.XT.i2b X.here hx rfl hd rfl k
  · split at hs <;> first | cases hs | skip
    exact Jvm.Free.XT.i2c X.here hx rfl hd rfl k
  · split at hs <;> first | cases hs | skip
    exact Jvm.Free.XT.i2s X.here hx rfl hd rfl k
  · split at hs <;> first | cases hs | skip
    exact XS.i2dS X.here hx rfl hd rfl rfl k
  · split at hs <;> first | cases hs | skip
    all_goals exact XS.dup X.here hx rfl hd rfl rfl k
  · split at hs <;> first | cases hs | skip
    all_goals exact Jvm.Free.XT.pop X.here hx rfl hd rfl rfl k
  · split at hs <;> first | cases hs | skip
    all_goals exact Jvm.Free.XT.dupX1 X.here hx rfl hd rfl rfl rfl k
  · split at hs <;> first | cases hs | skip
    · exact Jvm.Free.XT.dup2 X.here hx rfl hd rfl rfl rfl k
    · exact Jvm.Free.XT.dup2 X.here hx rfl hd rfl rfl rfl k
    · exact Jvm.Free.XT.dup2L X.here hx rfl hd rfl k
  · split at hs <;> first | cases hs | skip
    rename_i q; exact XS.goto X.here hx rfl rfl hd (of_decide_eq_true q) rfl k
  · split at hs <;> first | cases hs | skip
    · rename_i q; exact XS.ifnullYes X.here hx rfl rfl hd rfl (of_decide_eq_true q) rfl k
    · exact XS.ifnullNo X.here hx rfl hd rfl k
  · split at hs <;> first | cases hs | skip
    · rename_i q; exact Jvm.Free.XT.ifnonnullYes X.here hx rfl rfl hd rfl (of_decide_eq_true q) rfl k
    · exact Jvm.Free.XT.ifnonnullNo X.here hx rfl hd rfl k
  · split at hs <;> first | cases hs | skip
    rename_i q1
    split at hs <;> (rename_i hc; rw [← if0] at hc; simp only [Option.some.injEq, Prod.mk.injEq] at hs; obtain ⟨rfl, rfl, rfl⟩ := hs)
    · exact XS.ifYes X.here hx rfl rfl hd rfl hc (of_decide_eq_true q1) rfl k
    · exact XS.ifNo X.here hx rfl hd rfl hc k
  · split at hs <;> first | cases hs | skip
    rename_i q1
    split at hs <;> (rename_i hc; simp only [Option.some.injEq, Prod.mk.injEq] at hs; obtain ⟨rfl, rfl, rfl⟩ := hs)
    · exact XS.icmpYes X.here hx rfl rfl hd rfl hc (of_decide_eq_true q1) rfl k
    · exact XS.icmpNo X.here hx rfl hd rfl hc k
  · cases hs
/-- a row of plain instructions -/
def own_run : List (Nat × Instr × Nat) → Nat → Array Slot → List Value → Option (Nat × Array Slot × List Value)
  | [], pc, ls, st => some (pc, ls, st)
  | x :: seg, pc, ls, st => match decide (pc = x.1) with
    | true => (match own_st x.2.1 x.2.2 x.1 ls st with | some (pc', ls', st') => own_run seg pc' ls' st' | none => none)
    | false => none
def own_dec (cd : ByteArray) (seg : List (Nat × Instr × Nat)) : Bool := seg.all fun x => decide (decode cd x.1 = .ok x.2)
theorem own_run_ok (X : Stand p l e R s m args below meth c T locs cells slots) (hx : p.tables.exec = Jvm.exec) (hby : c.code = cd) : ∀ (seg : List (Nat × Instr × Nat)) {pc pc' : Nat} {ls ls' : Array Slot} {st st' : List Value}, own_dec cd seg = true → own_run seg pc ls st = some (pc', ls', st') → ∀ t,
    Steps p.tables e below (T.setTop (mkF m pc' ls' st')) t → Steps p.tables e below (T.setTop (mkF m pc ls st)) t := by
  intro seg
  induction seg with
  | nil =>
    intro pc pc' ls ls' st st' _ hr t k
    simp only [own_run, Option.some.injEq, Prod.mk.injEq] at hr
    obtain ⟨rfl, rfl, rfl⟩ := hr
    exact k
  | cons x seg ih =>
    intro pc pc' ls ls' st st' hd hr t k
    simp only [own_dec, List.all_cons, Bool.and_eq_true, decide_eq_true_eq] at hd
    simp only [own_run] at hr
    split at hr
    · rename_i q
      have q' : pc = x.1 := of_decide_eq_true q
      subst q'
      split at hr
      · rename_i a1 b1 c1 q2
        exact own_st_ok X hx (by rw [hby]; exact hd.1) q2 t (ih hd.2 hr t k)
      · cases hr
    · cases hr
theorem own_seg (C : own_Cx p s m meth c Z own cd maxL ret nm) (S : own_S p l e R s m args below meth c n0 T h cells slots) (seg : List (Nat × Instr × Nat)) (hd : own_dec cd seg = true) (pc' : Nat) (ls' : Array Slot) (st' : List Value)
    (hr : own_run seg pc ls st = some (pc', ls', st')) (k : own_Go p e below En T (mkF m pc' ls' st')) : own_Go p e below En T (mkF m pc ls st) := by
  obtain ⟨locs, kk, n, X, -⟩ := S
  exact own_step (own_run_ok X C.1 C.2.1 seg hd hr) k
def own_P : ClassFile.Cond → Int32 → Int32 → Prop
  | .eq, x, y => x = y | .ne, x, y => ¬ x = y | .lt, x, y => x < y | .ge, x, y => ¬ x < y | .gt, x, y => y < x | .le, x, y => ¬ y < x
def own_N : ClassFile.Cond → Int32 → Int32 → Prop
  | .eq, x, y => ¬ x = y | .ne, x, y => x = y | .lt, x, y => ¬ x < y | .ge, x, y => x < y | .gt, x, y => ¬ y < x | .le, x, y => y < x
theorem own_holds (q : ClassFile.Cond) (x y : Int32) : (own_P q x y ∧ if_icmp.holds q x y = true) ∨ (own_N q x y ∧ if_icmp.holds q x y = false) := by
  cases q
  · by_cases g : x = y
    · exact Or.inl ⟨g, (teq g).1⟩
    · exact Or.inr ⟨g, (feq g).1⟩
  · by_cases g : x = y
    · exact Or.inr ⟨g, (teq g).2⟩
    · exact Or.inl ⟨g, (feq g).2⟩
  · by_cases g : x < y
    · exact Or.inl ⟨g, (tlt g).1⟩
    · exact Or.inr ⟨g, (flt g).1⟩
  · by_cases g : x < y
    · exact Or.inr ⟨g, (tlt g).2.1⟩
    · exact Or.inl ⟨g, (flt g).2.1⟩
  · by_cases g : y < x
    · exact Or.inl ⟨g, (tlt g).2.2.1⟩
    · exact Or.inr ⟨g, (flt g).2.2.1⟩
  · by_cases g : y < x
    · exact Or.inr ⟨g, (tlt g).2.2.2⟩
    · exact Or.inl ⟨g, (flt g).2.2.2⟩
theorem own_icmp (C : own_Cx p s m meth c Z own cd maxL ret nm) (S : own_S p l e R s m args below meth c n0 T h cells slots) {q : ClassFile.Cond} {o : Int} {x y : Int32} (hd : decode cd pc = .ok (.if_icmp q o, 3)) (pc' : Nat) (ho : 0 ≤ (pc : Int) + o) (hp : ((pc : Int) + o).toNat = pc')
    (k1 : own_P q x y → own_Go p e below En T (mkF m pc' ls st)) (k2 : own_N q x y → own_Go p e below En T (mkF m (pc + 3) ls st)) : own_Go p e below En T (mkF m pc ls (.int y :: .int x :: st)) := by
  obtain ⟨locs, kk, n, X, -⟩ := S
  rcases own_holds q x y with ⟨g, hc⟩ | ⟨g, hc⟩
  · exact own_step (fun t k => XS.icmpYes X.here C.1 rfl rfl (own_hd C hd) rfl hc ho hp k) (k1 g)
  · exact own_step (fun t k => XS.icmpNo X.here C.1 rfl (own_hd C hd) rfl hc k) (k2 g)
theorem own_if (C : own_Cx p s m meth c Z own cd maxL ret nm) (S : own_S p l e R s m args below meth c n0 T h cells slots) {q : ClassFile.Cond} {o : Int} {x : Int32} (hd : decode cd pc = .ok (.ifCond q o, 3)) (pc' : Nat) (ho : 0 ≤ (pc : Int) + o) (hp : ((pc : Int) + o).toNat = pc')
    (k1 : own_P q x 0 → own_Go p e below En T (mkF m pc' ls st)) (k2 : own_N q x 0 → own_Go p e below En T (mkF m (pc + 3) ls st)) : own_Go p e below En T (mkF m pc ls (.int x :: st)) := by
  obtain ⟨locs, kk, n, X, -⟩ := S
  rcases own_holds q x 0 with ⟨g, hc⟩ | ⟨g, hc⟩ <;> rw [← if0] at hc
  · exact own_step (fun t k => XS.ifYes X.here C.1 rfl rfl (own_hd C hd) rfl hc ho hp k) (k1 g)
  · exact own_step (fun t k => XS.ifNo X.here C.1 rfl (own_hd C hd) rfl hc k) (k2 g)
def own_A : ClassFile.ACond → Value → Value → Prop
  | .eq, x, y => x = y | .ne, x, y => ¬ x = y
def own_B : ClassFile.ACond → Value → Value → Prop
  | .eq, x, y => ¬ x = y | .ne, x, y => x = y
theorem own_acmp (C : own_Cx p s m meth c Z own cd maxL ret nm) (S : own_S p l e R s m args below meth c n0 T h cells slots) {q : ClassFile.ACond} {o : Int} {x y : Value} (hx' : x.isRef = true) (hy' : y.isRef = true) (hd : decode cd pc = .ok (.if_acmp q o, 3)) (pc' : Nat) (ho : 0 ≤ (pc : Int) + o) (hp : ((pc : Int) + o).toNat = pc')
    (k1 : own_A q x y → own_Go p e below En T (mkF m pc' ls st)) (k2 : own_B q x y → own_Go p e below En T (mkF m (pc + 3) ls st)) : own_Go p e below En T (mkF m pc ls (y :: x :: st)) := by
  obtain ⟨locs, kk, n, X, -⟩ := S
  cases q <;> by_cases g : x = y
  · exact own_step (fun t k => Jvm.Free.XT.acmpYes X.here C.1 rfl rfl (own_hd C hd) rfl hx' hy' (Jvm.Free.XT.aa_eq_t g) ho hp k) (k1 g)
  · exact own_step (fun t k => Jvm.Free.XT.acmpNo X.here C.1 rfl (own_hd C hd) rfl hx' hy' (Jvm.Free.XT.aa_eq_f g) k) (k2 g)
  · exact own_step (fun t k => Jvm.Free.XT.acmpNo X.here C.1 rfl (own_hd C hd) rfl hx' hy' (Jvm.Free.XT.aa_ne_f g) k) (k2 g)
  · exact own_step (fun t k => Jvm.Free.XT.acmpYes X.here C.1 rfl rfl (own_hd C hd) rfl hx' hy' (Jvm.Free.XT.aa_ne_t g) ho hp k) (k1 g)
theorem own_irem (C : own_Cx p s m meth c Z own cd maxL ret nm) (S : own_S p l e R s m args below meth c n0 T h cells slots) {x y : Int32} (hd : decode cd pc = .ok (.irem, 1)) (hy : y ≠ 0) (k : own_Go p e below En T (mkF m (pc + 1) ls (.int (x % y) :: st))) : own_Go p e below En T (mkF m pc ls (.int y :: .int x :: st)) := by
  obtain ⟨locs, kk, n, X, -⟩ := S
  exact own_step (fun t k => iremM X C.1 rfl (own_hd C hd) rfl hy k) k
theorem own_ldc (C : own_Cx p s m meth c Z own cd maxL ret nm) (S : own_S p l e R s m args below meth c n0 T h cells slots) {index : Nat} {v : Int32} (w : (Jvm.Cond.constant own index v).before a0 Z = true) (hd : decode cd pc = .ok (.ldc index, 2)) (k : own_Go p e below En T (mkF m (pc + 2) ls (.int v :: st))) : own_Go p e below En T (mkF m pc ls st) := by
  obtain ⟨locs, kk, n, X, -⟩ := S
  exact own_step (fun t k => X.ldcInt C.1 C.2.2.2.1 (mv C.2.2.2.2.2.2.2 w) (g := mkF m pc ls st) rfl (own_hd C hd) t k) k
theorem own_getF (C : own_Cx p s m meth c Z own cd maxL ret nm) (S : own_S p l e R s m args below meth c n0 T h cells slots) {index : Nat} {R0 O n d host : String} {a : Addr} {v : Value} (w : (Jvm.Cond.fieldLink own index R0 n d).before a0 Z = true ∨ (Jvm.Cond.fieldLinkNest own index R0 n d host).before a0 Z = true) (via : Via Z R0 O n d) (FF : Fld Z h a O n d v) (hd : decode cd pc = .ok (.getfield index, 3))
    (k : ∀ T', own_S p l e R s m args below meth c n0 T' h cells slots → own_Go p e below En T' (mkF m (pc + 3) ls (v :: st))) : own_Go p e below En T (mkF m pc ls (.ref a :: st)) := by
  obtain ⟨locs, kk, nn, X, eT, N, q1, q2⟩ := S
  obtain ⟨T', X', e', stp⟩ := getF X C.1 C.2.2.2.2.2.2.2 C.2.2.2.1 w via eT FF (g := mkF m pc ls (.ref a :: st)) rfl rfl (own_hd C hd)
  exact own_step stp (k T' ⟨_, _, _, X', e', N, q1, q2⟩)
theorem own_getS (C : own_Cx p s m meth c Z own cd maxL ret nm) (S : own_S p l e R s m args below meth c n0 T h cells slots) {index : Nat} {R0 O n d : String} {v : Value} (w : (Jvm.Cond.fieldLink own index R0 n d).before a0 Z = true) (via : Via Z R0 O n d) (FF : Sta Z h O n d v) (hd : decode cd pc = .ok (.getstatic index, 3))
    (k : ∀ T', own_S p l e R s m args below meth c n0 T' h cells slots → own_Go p e below En T' (mkF m (pc + 3) ls (v :: st))) : own_Go p e below En T (mkF m pc ls st) := by
  obtain ⟨locs, kk, nn, X, eT, N, q1, q2⟩ := S
  obtain ⟨T', X', e', stp⟩ := getS X C.1 C.2.2.2.2.2.2.2 (host := "") C.2.2.2.1 w via eT FF (g := mkF m pc ls st) rfl (own_hd C hd)
  exact own_step stp (k T' ⟨_, _, _, X', e', N, q1, q2⟩)
theorem own_putF (C : own_Cx p s m meth c Z own cd maxL ret nm) (S : own_S p l e R s m args below meth c n0 T h cells slots) {index ki : Nat} {R0 O n d host Cl : String} {a : Addr} {v old : Value} {ty : FieldType} (w : (Jvm.Cond.fieldLink own index R0 n d).before a0 Z = true ∨ (Jvm.Cond.fieldLinkNest own index R0 n d host).before a0 Z = true) (via : Via Z R0 O n d) (FF : Fld Z h a O n d old) (E : Exa Z h a Cl)
    (L : (Jvm.Cond.lays Cl O n d).before a0 Z = true ∨ ((Jvm.Cond.laysFinal Cl O n d).before a0 Z = true ∧ own = O ∧ nm = "<init>")) (wi : (Jvm.Cond.instantiable Cl ki).before a0 Z = true) (hty : parseFieldDescriptor d = some ty) (hn : narrow ty v = v) (hf : fits ty v = true) (hge : n0 ≤ a) (hd : decode cd pc = .ok (.putfield index, 3))
    (k : ∀ T' h', own_S p l e R s m args below meth c n0 T' h' cells slots → Wr h h' a (Jvm.RoadKit.slotOf Z O n d) v → own_Go p e below En T' (mkF m (pc + 3) ls st)) : own_Go p e below En T (mkF m pc ls (v :: .ref a :: st)) := by
  obtain ⟨locs, kk, nn, X, eT, N, q1, q2⟩ := S
  obtain ⟨T', h', X', e', W, stp⟩ := putF X C.1 C.2.2.2.2.2.2.2 C.2.2.2.1 w via eT FF E (L.imp id (fun q => ⟨q.1, q.2.1, C.2.2.2.2.1.trans q.2.2⟩)) wi hty hn hf (g := mkF m pc ls (v :: .ref a :: st)) rfl rfl (own_hd C hd)
  exact own_step stp (k T' h' ⟨_, _, _, X', e', Fr.snoc X' N hge, q1, q2⟩ W)
theorem own_new (C : own_Cx p s m meth c Z own cd maxL ret nm) (S : own_S p l e R s m args below meth c n0 T h cells slots) {index ki : Nat} {Cl : String} (w : (Jvm.Cond.classLink own index Cl).before a0 Z = true) (wi : (Jvm.Cond.instantiable Cl ki).before a0 Z = true) (wz : (Jvm.Cond.initialized Cl).before a0 Z = true) (hd : decode cd pc = .ok (.new index, 3)) (hc : cells + 1 ≤ R.cells) (hl : slots + ki ≤ R.slots)
    (k : ∀ T' h' a, own_S p l e R s m args below meth c n0 T' h' (cells + 1) (slots + ki) → a = h.size → Ext h h' → Exa Z h' a Cl → (∀ {O nm d : String} {ty : FieldType}, Laid Z a0 Cl O nm d → parseFieldDescriptor d = some ty → Fld Z h' a O nm d (defaultValue ty)) → own_Go p e below En T' (mkF m (pc + 3) ls (.ref a :: st))) : own_Go p e below En T (mkF m pc ls st) := by
  obtain ⟨locs, kk, nn, X, eT, N, q1, q2⟩ := S
  obtain ⟨T', h', X', e', E, A, D, -, stp⟩ := newO X C.1 C.2.2.2.2.2.2.2 C.2.2.2.1 w wi wz eT (g := mkF m pc ls st) rfl (own_hd C hd) (by omega) (by omega)
  exact own_step stp (k T' h' _ ⟨_, _, _, X', e', N, by omega, by omega⟩ rfl E A D)
theorem own_initO (C : own_Cx p s m meth c Z own cd maxL ret nm) (S : own_S p l e R s m args below meth c n0 T h cells slots) {index : Nat} (w1 : (Jvm.Cond.methodLink own index Lib.objectInit).before a0 Z = true) (w2 : (Jvm.Cond.instanceMethod Lib.objectInit).before a0 Z = true) (w3 : (Jvm.Cond.code Lib.objectInit ⟨#[0xb1]⟩ 1 none).before a0 Z = true) {a : Addr} (hsz : ls.size = maxL) (hd : decode cd pc = .ok (.invokespecial index, 3)) (hf : 1 ≤ R.frames) (W : Nat) (hW : (st.map fun v => v.category).sum ≤ W) (hl : W + 12 ≤ R.locals)
    (k : ∀ T', own_S p l e R s m args below meth c n0 T' h cells slots → own_Go p e below En T' (mkF m (pc + 3) ls st)) : own_Go p e below En T (mkF m pc ls (.ref a :: st)) := by
  obtain ⟨locs, kk, nn, X, eT, N, q1, q2⟩ := S
  obtain ⟨T', X', e', stp⟩ := initO X C.1 C.2.2.2.2.2.2.2 C.2.2.2.1 w1 w2 w3 eT (g := mkF m pc ls (.ref a :: st)) rfl (own_hsz C hsz) rfl (own_hd C hd) hf (W := W) (by show 2 * 0 + _ ≤ W; omega) hl
  exact own_step stp (k T' ⟨_, _, _, X', e', N, q1, q2⟩)
theorem own_newP (C : own_Cx p s m meth c Z own cd maxL ret nm) (S : own_S p l e R s m args below meth c n0 T h cells slots) {aty : ArrayType} (w : (Jvm.Cond.arrayClass (newarray.typeOf aty)).before a0 Z = true) (hd : decode cd pc = .ok (.newarray aty, 2)) {n : Int32} (hn : ¬ n < 0) (cap : Nat) (hcap : n.toNatClampNeg ≤ cap) (hb : cap * 8 ≤ 536870912) (hc : cells + 1 ≤ R.cells) (hl : slots + cap ≤ R.slots)
    (k : ∀ T' h' a cA, own_S p l e R s m args below meth c n0 T' h' (cells + 1) (slots + cap) → a = h.size → Ext h h' → Arv Z h' a cA (newarray.typeOf aty) n [] (defaultValue (newarray.typeOf aty)) → own_Go p e below En T' (mkF m (pc + 2) ls (.ref a :: st))) : own_Go p e below En T (mkF m pc ls (.int n :: st)) := by
  obtain ⟨locs, kk, nn, X, eT, N, q1, q2⟩ := S
  obtain ⟨T', h', cA, X', e', E, A, stp⟩ := newP X C.1 C.2.2.2.2.2.2.2 w eT (g := mkF m pc ls (.int n :: st)) rfl (own_hd C hd) rfl hn hcap hb (by omega) (by omega)
  exact own_step stp (k T' h' _ cA ⟨_, _, _, X', e', N, by omega, by omega⟩ rfl E (Arv.new A hn))
theorem own_alen (C : own_Cx p s m meth c Z own cd maxL ret nm) (S : own_S p l e R s m args below meth c n0 T h cells slots) {a : Addr} {ka : ClassId} {ty : FieldType} {N : Int32} {vs : List Value} {dv : Value} (FF : Arv Z h a ka ty N vs dv) (hd : decode cd pc = .ok (.arraylength, 1)) (k : own_Go p e below En T (mkF m (pc + 1) ls (.int N :: st))) : own_Go p e below En T (mkF m pc ls (.ref a :: st)) := by
  obtain ⟨locs, kk, nn, X, eT, -⟩ := S
  obtain ⟨cl, A, -, sz, hN, -⟩ := FF
  rw [← len_of sz hN] at k
  exact own_step (fun t k => X.arraylength C.1 (by rw [eT]; exact A.1) (State.isArrayOf_alike C.2.2.2.2.2.2.2.alike A.2.1) (g := mkF m pc ls (.ref a :: st)) rfl rfl (own_hd C hd) t k) k
theorem own_caload (C : own_Cx p s m meth c Z own cd maxL ret nm) (S : own_S p l e R s m args below meth c n0 T h cells slots) {a : Addr} {ka : ClassId} {N j : Int32} {vs : List Value} {dv : Value} (FF : Arv Z h a ka .char N vs dv) (hin : ¬ j < 0 ∧ j < N) (v : Value) (hv : vs.getD j.toNatClampNeg dv = v) (hd : decode cd pc = .ok (.caload, 1)) (k : own_Go p e below En T (mkF m (pc + 1) ls (v :: st))) : own_Go p e below En T (mkF m pc ls (.int j :: .ref a :: st)) := by
  obtain ⟨locs, kk, nn, X, eT, -⟩ := S
  obtain ⟨cl, A, -, sz, hN, H, -⟩ := FF
  exact own_step (fun t k => X.caload C.1 (by rw [eT]; exact A.1) (State.isArrayOf_alike C.2.2.2.2.2.2.2.alike A.2.1) A.2.2 (inb_of sz hin) (Has.at H (inb_of sz hin) hv) (g := mkF m pc ls (.int j :: .ref a :: st)) rfl rfl (own_hd C hd) t k) k
theorem own_castore (C : own_Cx p s m meth c Z own cd maxL ret nm) (S : own_S p l e R s m args below meth c n0 T h cells slots) {a : Addr} {ka : ClassId} {N j x : Int32} {vs : List Value} {dv : Value} (FF : Arv Z h a ka .char N vs dv) (hin : ¬ j < 0 ∧ j < N) (i : Nat) (hj : j.toNatClampNeg = i) (hi : i < vs.length) (x' : Int32) (hx' : nar .char x = x') (hge : n0 ≤ a) (hd : decode cd pc = .ok (.castore, 1))
    (k : ∀ T' h', own_S p l e R s m args below meth c n0 T' h' cells slots → Wr h h' a j.toNatClampNeg (.int x') → Arv Z h' a ka .char N (vs.set i (.int x')) dv → own_Go p e below En T' (mkF m (pc + 1) ls st)) : own_Go p e below En T (mkF m pc ls (.int x :: .int j :: .ref a :: st)) := by
  subst hx'
  obtain ⟨locs, kk, nn, X, eT, N, q1, q2⟩ := S
  obtain ⟨cl, A, ck, sz, hN, H, G⟩ := FF
  obtain ⟨T', h', X', e', W, stp⟩ := stC X C.1 C.2.2.2.2.2.2.2 eT A (inb_of sz hin) (g := mkF m pc ls (.int x :: .int j :: .ref a :: st)) rfl rfl (own_hd C hd)
  exact own_step stp (k T' h' ⟨_, _, _, X', e', Fr.snoc X' N hge, q1, q2⟩ W (Arv.set A ck sz hN H G (fits_nar_char x) W i hj hi))
theorem own_aaload (C : own_Cx p s m meth c Z own cd maxL ret nm) (S : own_S p l e R s m args below meth c n0 T h cells slots) {a : Addr} {ka : ClassId} {ty : FieldType} {N j : Int32} {vs : List Value} {dv : Value} (FF : Arv Z h a ka ty N vs dv) (hty : ty.isReference = true) (hin : ¬ j < 0 ∧ j < N) (v : Value) (hv : vs.getD j.toNatClampNeg dv = v) (hd : decode cd pc = .ok (.aaload, 1)) (k : own_Go p e below En T (mkF m (pc + 1) ls (v :: st))) : own_Go p e below En T (mkF m pc ls (.int j :: .ref a :: st)) := by
  obtain ⟨locs, kk, nn, X, eT, -⟩ := S
  obtain ⟨cl, A, -, sz, hN, H, -⟩ := FF
  exact own_step (fun t k => X.aaload C.1 (by rw [eT]; exact A.1) (State.isArrayOf_alike C.2.2.2.2.2.2.2.alike A.2.1) hty A.2.2 (inb_of sz hin) (Has.at H (inb_of sz hin) hv) (g := mkF m pc ls (.int j :: .ref a :: st)) rfl rfl (own_hd C hd) t k) k
theorem own_cast (C : own_Cx p s m meth c Z own cd maxL ret nm) (S : own_S p l e R s m args below meth c n0 T h cells slots) {index : Nat} {K : String} {a : Addr} (w : (Jvm.Cond.classLink own index K).before a0 Z = true) (FF : Ins Z h a K true) (hd : decode cd pc = .ok (.checkcast index, 3))
    (k : ∀ T', own_S p l e R s m args below meth c n0 T' h cells slots → own_Go p e below En T' (mkF m (pc + 3) ls (.ref a :: st))) : own_Go p e below En T (mkF m pc ls (.ref a :: st)) := by
  obtain ⟨locs, kk, nn, X, eT, N, q1, q2⟩ := S
  obtain ⟨T', X', e', stp⟩ := castY X C.1 C.2.2.2.2.2.2.2 C.2.2.2.1 w eT FF (g := mkF m pc ls (.ref a :: st)) rfl rfl (own_hd C hd)
  exact own_step stp (k T' ⟨_, _, _, X', e', N, q1, q2⟩)
theorem own_instN (C : own_Cx p s m meth c Z own cd maxL ret nm) (S : own_S p l e R s m args below meth c n0 T h cells slots) {index : Nat} (hd : decode cd pc = .ok (.instanceof index, 3)) (k : own_Go p e below En T (mkF m (pc + 3) ls (.int 0 :: st))) : own_Go p e below En T (mkF m pc ls (.null :: st)) := by
  obtain ⟨locs, kk, nn, X, -⟩ := S
  exact own_step (fun t k => Jvm.Stand.instanceofNull X C.1 (g := mkF m pc ls (.null :: st)) rfl rfl (own_hd C hd) t k) k
theorem own_ret {t : FieldType} (C : own_Cx p s m meth c Z own cd maxL (some t) nm) (S : own_S p l e R s m args below meth c n0 T h cells slots) {i : Instr} {w : Value} (hd : decode cd pc = .ok (i, 1)) (hn : narrow t w = w)
    (hi : (i = .ireturn ∧ (t = .int ∨ t = .boolean ∨ t = .byte ∨ t = .char ∨ t = .short) ∧ ∃ z, w = .int z) ∨ (i = .lreturn ∧ t = .long ∧ ∃ z, w = .long z) ∨ (i = .dreturn ∧ t = .double ∧ ∃ z, w = .double z) ∨ (i = .freturn ∧ t = .float ∧ ∃ z, w = .float z) ∨ (i = .areturn ∧ t.isReference = true ∧ w.isRef = true))
    (hc : cells ≤ kc) (hs : slots ≤ ks) (hF : F (some w) h) : own_Go p e below (own_En s n0 F kc ks) T (mkF m pc ls (w :: st)) := by
  obtain ⟨locs, kk, nn, X, eT, N, q1, q2⟩ := S
  obtain ⟨fs, hr, hrun, hended, hW, hsame⟩ := X.leave (v := some w) (fun q => by rw [C.2.2.2.2.2.1] at q; cases q) C.2.2.2.2.2.2.1
  refine ⟨_, _, retOut X C.1 C.2.2.2.2.2.1 hn hi (own_hd C hd) hr, hrun, hended, _, _, rfl, ⟨?_, N⟩, ⟨_, rfl⟩, hW, hsame.mono (Nat.le_trans q1 hc) (Nat.le_trans q2 hs)⟩
  show F (some w) T.heap
  rw [eT]; exact hF
theorem own_retZ (C : own_Cx p s m meth c Z own cd maxL (some .boolean) nm) (S : own_S p l e R s m args below meth c n0 T h cells slots) {z : Int32} (hd : decode cd pc = .ok (.ireturn, 1)) (hz : z &&& 1 = z) (hc : cells ≤ kc) (hs : slots ≤ ks) (hF : F (some (.int z)) h) : own_Go p e below (own_En s n0 F kc ks) T (mkF m pc ls (.int z :: st)) :=
  own_ret C S hd (by show Value.int (z &&& 1) = _; rw [hz]) (Or.inl ⟨rfl, Or.inr (Or.inl rfl), z, rfl⟩) hc hs hF
theorem own_retC (C : own_Cx p s m meth c Z own cd maxL (some .char) nm) (S : own_S p l e R s m args below meth c n0 T h cells slots) {z : Int32} (hd : decode cd pc = .ok (.ireturn, 1)) (hz : z.toUInt32.toUInt16.toUInt32.toInt32 = z) (hc : cells ≤ kc) (hs : slots ≤ ks) (hF : F (some (.int z)) h) : own_Go p e below (own_En s n0 F kc ks) T (mkF m pc ls (.int z :: st)) :=
  own_ret C S hd (by show Value.int (z.toUInt32.toUInt16.toUInt32.toInt32) = _; rw [hz]) (Or.inl ⟨rfl, by simp, z, rfl⟩) hc hs hF
theorem own_retA {t : FieldType} (C : own_Cx p s m meth c Z own cd maxL (some t) nm) (S : own_S p l e R s m args below meth c n0 T h cells slots) {w : Value} (ht : t.isReference = true) (hr : w.isRef = true) (hd : decode cd pc = .ok (.areturn, 1)) (hc : cells ≤ kc) (hs : slots ≤ ks) (hF : F (some w) h) : own_Go p e below (own_En s n0 F kc ks) T (mkF m pc ls (w :: st)) :=
  own_ret C S hd (by cases w <;> simp [Value.isRef] at hr <;> cases t <;> first | rfl | (simp [FieldType.isReference] at ht)) (by simp [ht, hr]) hc hs hF
def own_Met (l : Launch) (Z : State) (y : MethodName) (cd : ByteArray) (maxL : Nat) (ret : Option FieldType) (rm : Room) (n0 : Nat) (as' : Array Value) (h0 : Heap) (Q : Option Value → Heap → Prop) : Prop :=
  ∀ ws, MetFree l y (head1 (Jvm.Cond.code y cd maxL ret :: ws) rm) (fun a U => a = as' ∧ Z.Warmed39 U.vm ∧ U.heap = h0) (fun _ _ _ _ _ => True) (fun _ U o U' => ∃ v L, o = .returned v ∧ (Q v U'.heap ∧ Fr n0 L) ∧ FrameEnd U o U' L rm.cells rm.slots)
theorem own_met {y : MethodName} {rm : Room} {as' : Array Value} {h0 : Heap} {Q : Option Value → Heap → Prop} (hp : plainFor y = true) (ls : Array Slot) (hef : ∀ m, entryFrame m as' maxL = mkF m 0 ls [])
    (H : ∀ (p : Program) (e : Env) (s : State) (m : MethodId) (below : List Frame) (meth : Method) (c : Code) (T : State), own_Cx p s m meth c Z y.cls cd maxL ret y.name → own_S p l e rm s m as' below meth c n0 T h0 0 0 → own_Go p e below (own_En s n0 Q rm.cells rm.slots) T (mkF m 0 ls [])) : own_Met l Z y cd maxL ret rm n0 as' h0 Q := by
  intro ws
  refine MetFree.of_bodySF hp hisR ?_
  intro p e s m args below meth c s₁ Bd hml hP hK
  obtain ⟨rfl, hZ, hh⟩ := hP
  have e0 : s₁.heap = h0 := by rw [← hh, Bd.state]; rfl
  have G := H p e s m below meth c s₁ ⟨Bd.exec, Bd.bytes, hml, findClass_of_methodNamed Bd.named, (name_of_methodNamed Bd.named Bd.method).1, Bd.returns, BodyLoose.notSynchronized Bd, hZ⟩ ⟨_, _, _, Stand.of_body Bd, e0, Fr.nil n0, Nat.le_refl _, Nat.le_refl _⟩
  rw [← hef m] at G
  exact G
/-- who pays a call -/
abbrev own_Pay (l : Launch) (R : Room) (p : Program) (e : Env) (below : List Frame) (s : State) (args : Array Value) (y : MethodName) (len W : Nat) (as' : Array Value) (h : Heap) (k1 k2 : Nat) (Q : Option Value → Heap → List Loc → Prop) : Prop :=
  Back l R p e below s args y len W (fun P a => a = as' ∧ P.U.heap = h ∧ P.cells + k1 ≤ R.cells ∧ P.slots + k2 ≤ R.slots) (fun P _ v B => ∃ L, Q v B.U.heap L ∧ B.locs = P.locs ++ L ∧ B.cells = P.cells + k1 ∧ B.slots = P.slots + k2)
theorem own_Met.pay {y : MethodName} {cdy : ByteArray} {maxy : Nat} {rety : Option FieldType} {rm : Room} {as' : Array Value} {Q : Option Value → Heap → Prop} (M : own_Met l Z y cdy maxy rety rm n0 as' h Q) (C : own_Cx p s m meth c Z own cd maxL ret nm) {len : Nat} (W : Nat) (wc : (Jvm.Cond.code y cdy maxy rety).before a0 Z = true) (wz : (Jvm.Cond.initialized y.cls).before a0 Z = true) (hf : rm.frames + 1 ≤ R.frames) (hl : W + (maxy + 11) + rm.locals ≤ R.locals) :
    own_Pay l R p e below s args y len W as' h rm.cells rm.slots (fun v h' L => Q v h' ∧ Fr n0 L) := backOf (Q := fun v h' L => Q v h' ∧ Fr n0 L) (M []) C.2.2.2.2.2.2.2 wc wz hf hl
theorem own_callS (C : own_Cx p s m meth c Z own cd maxL ret nm) (S : own_S p l e R s m args below meth c n0 T h cells slots) {y : MethodName} {index : Nat} {cdy : ByteArray} {maxy : Nat} {rety : Option FieldType} {W k1 k2 : Nat} {as' : Array Value} {Q : Option Value → Heap → List Loc → Prop}
    (w1 : (Jvm.Cond.methodLink own index y).before a0 Z = true) (w2 : (Jvm.Cond.static y).before a0 Z = true) (w3 : (Jvm.Cond.initialized y.cls).before a0 Z = true) (w4 : (Jvm.Cond.code y cdy maxy rety).before a0 Z = true) (hy : y.cls ≠ "java/lang/invoke/MethodHandle" ∧ y.cls ≠ "java/lang/invoke/VarHandle")
    (hK : own_Pay l R p e below s args y 3 W as' h k1 k2 Q) (hfr : ∀ v h' L, Q v h' L → Fr n0 L) (argsL rest : List Value) {ps : List FieldType} {rr : Option FieldType} (has : argsL.toArray = as') (hpd : parseMethodDescriptor y.desc = some ⟨ps, rr⟩) (hlen : argsL.length = ps.length) (hstk : st = argsL.reverse ++ rest) (hsz : ls.size = maxL) (hW : (rest.map fun v => v.category).sum ≤ W)
    (hc : cells + k1 ≤ R.cells) (hs : slots + k2 ≤ R.slots) (hd : decode cd pc = .ok (.invokestatic index, 3))
    (k : ∀ T' h' v L, own_S p l e R s m args below meth c n0 T' h' (cells + k1) (slots + k2) → Q v h' L → own_Go p e below En T' (mkF m (pc + 3) ls (v.toList ++ rest))) : own_Go p e below En T (mkF m pc ls st) := by
  obtain ⟨locs, kk, nn, X, eT, N, q1, q2⟩ := S
  have hZ := C.2.2.2.2.2.2.2
  obtain ⟨v, vm1, B, -, X', ⟨L, hQ, l1, l2, l3⟩, stp⟩ := Jvm.LawKit.callS X C.1 C.2.2.2.1 (mvT hZ w1) (mvT hZ w2) (mvT hZ w3) (mvT hZ w4) hy hK (g := mkF m pc ls st) rfl (own_hsz C hsz) (argsL := argsL) (rest := rest) (lenOf hpd hlen) hstk (by show 2 * 0 + _ ≤ W; omega) (own_hd C hd) (fun _ _ => ⟨has, eT, by show kk + k1 ≤ _; omega, by show nn + k2 ≤ _; omega⟩)
  refine own_step stp (k B.U _ v L ⟨B.locs, B.cells, B.slots, X', rfl, ?_, ?_, ?_⟩ hQ)
  · rw [l1]; exact Fr.app N (hfr _ _ _ hQ)
  · rw [l2]; show kk + k1 ≤ _; omega
  · rw [l3]; show nn + k2 ≤ _; omega
theorem own_callI (C : own_Cx p s m meth c Z own cd maxL ret nm) (S : own_S p l e R s m args below meth c n0 T h cells slots) {y : MethodName} {index : Nat} {cdy : ByteArray} {maxy : Nat} {W k1 k2 : Nat} {as' : Array Value} {Q : Option Value → Heap → List Loc → Prop}
    (hy1 : y.name = "<init>") (w1 : (Jvm.Cond.methodLink own index y).before a0 Z = true) (w2 : (Jvm.Cond.instanceMethod y).before a0 Z = true) (w4 : (Jvm.Cond.code y cdy maxy none).before a0 Z = true) (hy : y.cls ≠ "java/lang/invoke/MethodHandle" ∧ y.cls ≠ "java/lang/invoke/VarHandle")
    (hK : own_Pay l R p e below s args y 3 W as' h k1 k2 Q) (hfr : ∀ v h' L, Q v h' L → Fr n0 L) {a : Addr} (argsL rest : List Value) {ps : List FieldType} {rr : Option FieldType} (has : (.ref a :: argsL).toArray = as') (hpd : parseMethodDescriptor y.desc = some ⟨ps, rr⟩) (hlen : argsL.length = ps.length) (hstk : st = argsL.reverse ++ .ref a :: rest) (hsz : ls.size = maxL) (hW : (rest.map fun v => v.category).sum ≤ W)
    (hc : cells + k1 ≤ R.cells) (hs : slots + k2 ≤ R.slots) (hd : decode cd pc = .ok (.invokespecial index, 3))
    (k : ∀ T' h' v L, own_S p l e R s m args below meth c n0 T' h' (cells + k1) (slots + k2) → Q v h' L → own_Go p e below En T' (mkF m (pc + 3) ls (v.toList ++ rest))) : own_Go p e below En T (mkF m pc ls st) := by
  obtain ⟨locs, kk, nn, X, eT, N, q1, q2⟩ := S
  have hZ := C.2.2.2.2.2.2.2
  obtain ⟨v, vm1, B, -, X', ⟨L, hQ, l1, l2, l3⟩, stp⟩ := X.specialBack C.1 hy1 C.2.2.2.1 (mvT hZ w1) (mvT hZ w2) (mvT hZ w4) hy hK (g := mkF m pc ls st) rfl (own_hsz C hsz) (Steps.refl _) (a := a) (argsL := argsL) (rest := rest) (lenOf hpd hlen) hstk (by show 2 * 0 + _ ≤ W; omega) (own_hd C hd) (fun _ _ => ⟨has, eT, by show kk + k1 ≤ _; omega, by show nn + k2 ≤ _; omega⟩)
  refine own_step (fun t k => stp.trans k) (k B.U _ v L ⟨B.locs, B.cells, B.slots, X', rfl, ?_, ?_, ?_⟩ hQ)
  · rw [l1]; exact Fr.app N (hfr _ _ _ hQ)
  · rw [l2]; show kk + k1 ≤ _; omega
  · rw [l3]; show nn + k2 ≤ _; omega
theorem own_nf {args : Array Value} {s : State} {C : String} {y y' : MethodName} (hyc : y'.cls = y.cls) (hsel : (Jvm.Cond.selects C y' y').before args s = true) : NotFace s y := fun r0 h0 => by
  obtain ⟨c2, r2, m2, q1, q2, q3, q4, kP, hkP, hkPi⟩ := Cond.selects_spec hsel
  have e1 := findClass_of_methodNamed h0
  have e2 := findClass_of_methodNamed q3
  rw [hyc, e1] at e2
  rw [Option.some.inj e2]
  exact ⟨kP, hkP, hkPi⟩
theorem own_callV (C : own_Cx p s m meth c Z own cd maxL ret nm) (S : own_S p l e R s m args below meth c n0 T h cells slots) {y z : MethodName} {Cl : String} {index : Nat} {W k1 k2 : Nat} {as' : Array Value} {Q : Option Value → Heap → List Loc → Prop}
    (w1 : (Jvm.Cond.methodLink own index y).before a0 Z = true) (w2 : (Jvm.Cond.declares y).before a0 Z = true) (w3 : (Jvm.Cond.selects Cl y z).before a0 Z = true) {Cl' : String} {y' : MethodName} (w3' : (Jvm.Cond.selects Cl' y' y').before a0 Z = true) (hyc : y'.cls = y.cls) (w4 : (Jvm.Cond.instanceMethod z).before a0 Z = true) (hy : y.cls ≠ "java/lang/invoke/MethodHandle" ∧ y.cls ≠ "java/lang/invoke/VarHandle")
    (hK : own_Pay l R p e below s args z 3 W as' h k1 k2 Q) (hfr : ∀ v h' L, Q v h' L → Fr n0 L) {a : Addr} (E : Exa Z h a Cl) (argsL rest : List Value) {ps : List FieldType} {rr : Option FieldType} (has : (.ref a :: argsL).toArray = as') (hpd : parseMethodDescriptor y.desc = some ⟨ps, rr⟩) (hlen : argsL.length = ps.length) (hstk : st = argsL.reverse ++ .ref a :: rest) (hsz : ls.size = maxL) (hW : (rest.map fun v => v.category).sum ≤ W)
    (hc : cells + k1 ≤ R.cells) (hs : slots + k2 ≤ R.slots) (hd : decode cd pc = .ok (.invokevirtual index, 3))
    (k : ∀ T' h' v L, own_S p l e R s m args below meth c n0 T' h' (cells + k1) (slots + k2) → Q v h' L → own_Go p e below En T' (mkF m (pc + 3) ls (v.toList ++ rest))) : own_Go p e below En T (mkF m pc ls st) := by
  obtain ⟨locs, kk, nn, X, eT, N, q1, q2⟩ := S
  have hZ := C.2.2.2.2.2.2.2
  obtain ⟨cq, kq, qa, qb, qc⟩ := isOf (T := T) hZ eT E
  obtain ⟨v, vm1, B, -, X', ⟨L, hQ, l1, l2, l3⟩, stp⟩ := X.virtualBack C.1 C.2.2.2.1 (mvT hZ w1) (mvT hZ w2) (own_nf (args := #[]) hyc (mvT hZ w3')) (mvT hZ w3) (mvT hZ w4) hy hK qa qc (g := mkF m pc ls st) rfl (own_hsz C hsz) (Steps.refl _) (argsL := argsL) (rest := rest) (lenOf hpd hlen) hstk (by show 2 * 0 + _ ≤ W; omega) (own_hd C hd) (fun _ _ => ⟨has, eT, by show kk + k1 ≤ _; omega, by show nn + k2 ≤ _; omega⟩)
  refine own_step (fun t k => stp.trans k) (k B.U _ v L ⟨B.locs, B.cells, B.slots, X', rfl, ?_, ?_, ?_⟩ hQ)
  · rw [l1]; exact Fr.app N (hfr _ _ _ hQ)
  · rw [l2]; show kk + k1 ≤ _; omega
  · rw [l3]; show nn + k2 ≤ _; omega
/-- clone() of an array -/
theorem own_clone (C : own_Cx p s m meth c Z own cd maxL ret nm) (S : own_S p l e R s m args below meth c n0 T h cells slots) {index : Nat} {ad : String} (w1 : (Jvm.Cond.methodLink own index ⟨ad, "clone", "()Ljava/lang/Object;"⟩).before a0 Z = true) (w2 : (Jvm.Cond.sameMethod ad "java/lang/Object" "clone" "()Ljava/lang/Object;").before a0 Z = true) (w3 : (Jvm.Cond.native ⟨"java/lang/Object", "clone", "()Ljava/lang/Object;"⟩).before a0 Z = true)
    (w4 : (Jvm.Cond.instanceMethod ⟨"java/lang/Object", "clone", "()Ljava/lang/Object;"⟩).before a0 Z = true) (w5 : (Jvm.Cond.selects ad ⟨ad, "clone", "()Ljava/lang/Object;"⟩ ⟨"java/lang/Object", "clone", "()Ljava/lang/Object;"⟩).before a0 Z = true) (w6 : (Jvm.Cond.castable ad "java/lang/Cloneable").before a0 Z = true)
    {a : Addr} {ka : ClassId} {ty : FieldType} {z : Int32} {vs : List Value} {dv : Value} (A : Arv Z h a ka ty z vs dv) (E : Exa Z h a ad) (hsz : ls.size = maxL) (hd : decode cd pc = .ok (.invokevirtual index, 3)) (hf : 1 ≤ R.frames) (W cap : Nat) (hW : (st.map fun v => v.category).sum ≤ W) (hl : W + 14 ≤ R.locals) (hcap : z.toNatClampNeg ≤ cap) (hc : cells + 1 ≤ R.cells) (hsl : slots + cap ≤ R.slots)
    (k : ∀ T' h' b, own_S p l e R s m args below meth c n0 T' h' (cells + 1) (slots + cap) → b = h.size → Ext h h' → Arv Z h' b ka ty z vs dv → Exa Z h' b ad → own_Go p e below En T' (mkF m (pc + 3) ls (.ref b :: st))) : own_Go p e below En T (mkF m pc ls (.ref a :: st)) := by
  obtain ⟨locs, kk, nn, X, eT, N, q1, q2⟩ := S
  obtain ⟨T', h', X', e', Ex, A', E', stp⟩ := cloneH X C.1 C.2.2.2.2.2.2.2 C.2.2.2.1 w1 w2 w3 w4 w5 w6 eT A.arh E (g := mkF m pc ls (.ref a :: st)) rfl (own_hsz C hsz) rfl (own_hd C hd) hf (W := W) (cap := cap) (by show 2 * 0 + _ ≤ W; omega) hl hcap (by omega) (by omega)
  exact own_step stp (k T' h' _ ⟨_, _, _, X', e', N, by omega, by omega⟩ rfl Ex A' E')
end OwnKit

section OwnKitW
open Jvm.Free.SB Jvm.Free.SBG
variable {p : Program} {l : Launch} {e : Env} {R : Room} {s : State} {m : MethodId} {args : Array Value} {below : List Frame} {meth : Method} {c : Code} {T : State} {locs : List Loc} {cells slots : Nat} {Z : State} {a0 : Array Value} {h : Heap} {own : String} {cd : ByteArray} {maxL : Nat} {ret : Option FieldType} {nm : String} {n0 : Nat} {F : Option Value → Heap → Prop} {kc ks : Nat} {En : Outcome → State → Prop} {pc : Nat} {ls : Array Slot} {st : List Value} {EL : List (String × Nat)} {G : List Addr}
def own_EnW (s : State) (n0 : Nat) (Z : State) (EL : List (String × Nat)) (F : Option Value → Heap → Prop) (kc ks : Nat) (o : Outcome) (s₂ : State) : Prop :=
  ∃ v L, o = .returned v ∧ (F v s₂.heap ∧ Fr n0 L) ∧ CHr Z EL s.vm s.heap s₂.vm s₂.heap ∧ ReturnedEndW s o s₂ L kc ks
def own_CxW (p : Program) (meth : Method) (c : Code) (Z : State) (a0 : Array Value) (EL : List (String × Nat)) (cd : ByteArray) (maxL : Nat) (ret : Option FieldType) (nm : String) : Prop :=
  p.tables.exec = Jvm.exec ∧ c.code = cd ∧ c.maxLocals = maxL ∧ meth.name = nm ∧ meth.sig.returnType = ret ∧ meth.locks = false ∧ EW Z a0 EL ∧ ∀ a ∈ Bundle.stringAtoms, a.before a0 Z = true
def own_SW (p : Program) (l : Launch) (e : Env) (R : Room) (s : State) (m : MethodId) (args : Array Value) (below : List Frame) (meth : Method) (c : Code) (n0 : Nat) (Z : State) (EL : List (String × Nat)) (own : String) (T : State) (h : Heap) (G : List Addr) (cells slots : Nat) : Prop :=
  ∃ vm0 k0, own_S p l e R (s.setVm vm0) m args below meth c n0 T h cells slots ∧ s.Since vm0 k0 ∧ k0 ≤ h.size ∧ Z.Warmed39 vm0 ∧ vm0.findClass own = some m.cls ∧ CHr Z EL s.vm s.heap vm0 h ∧ ∀ x ∈ G, x < h.size ∧ Safe Z EL vm0 h x
/-- between two loads the walk is a narrow one, over the start with the tables at hand; 'rb' leads back -/
theorem own_lift (C : own_CxW p meth c Z a0 EL cd maxL ret nm) (S : own_SW p l e R s m args below meth c n0 Z EL own T h G cells slots) {g : JFrame}
    (k : ∀ vm0, own_Cx p (s.setVm vm0) m meth c Z own cd maxL ret nm → own_S p l e R (s.setVm vm0) m args below meth c n0 T h cells slots →
      (∀ T' h' c' s' ws N, own_S p l e R (s.setVm vm0) m args below meth c n0 T' h' c' s' → Keep h h' ws → (∀ x ∈ ws, x ∈ G) → (∀ x ∈ N, h.size ≤ x ∧ x < h'.size) → own_SW p l e R s m args below meth c n0 Z EL own T' h' (N ++ G) c' s') → own_Go p e below En T g) : own_Go p e below En T g := by
  obtain ⟨vm0, k0, S0, hS, hk, hZ, ho, hC, hG⟩ := S
  refine k vm0 ⟨C.1, C.2.1, C.2.2.1, ho, C.2.2.2.1, C.2.2.2.2.1, C.2.2.2.2.2.1, hZ⟩ S0 fun T' h' c' s' ws N S' K hws hN => ?_
  have hs : ∀ x ∈ ws, Safe Z EL vm0 h x := fun x hx => (hG x (hws x hx)).2
  refine ⟨vm0, k0, S', hS, Nat.le_trans hk K.1, hZ, ho, hC.trans (CHr.keep K hs hC.1), fun x hx => ?_⟩
  rcases List.mem_append.mp hx with hx | hx
  · exact ⟨(hN x hx).2, Safe.keep K hs hC.1 (Safe.new (hN x hx).1)⟩
  · exact ⟨Nat.lt_of_lt_of_le (hG x hx).1 K.1, Safe.keep K hs hC.1 (hG x hx).2⟩
/-- ldc of a String constant of EL, read -/
theorem own_ldcW (C : own_CxW p meth c Z a0 EL cd maxL ret nm) (S : own_SW p l e R s m args below meth c n0 Z EL own T h G cells slots) {index : Nat} {text : String} (w : (Jvm.Cond.stringLink own index text).before a0 Z = true) (hmem : (own, index) ∈ EL) {vs : List Value} {z : Int32} (ht : (∀ c ∈ text.toList, c.toNat < 256) ∧ text.toList.map (fun c => Value.int (Jvm.Lit.byteI c.toNat.toUInt16)) = vs) (hz : ¬ z < 0) (hl : z.toNatClampNeg = vs.length)
    (hd : decode cd pc = .ok (.ldc index, 2)) (n : Nat) (hn : 4 * text.toList.length ≤ n) (hbig : n ≤ 536870912) (hc : cells + 2 ≤ R.cells) (hl' : slots + (n + 4) ≤ R.slots)
    (k : ∀ T' h' a b kb, own_SW p l e R s m args below meth c n0 Z EL own T' h' G (cells + 2) (slots + (n + 4)) → Ext h h' → Exa Z h' a "java/lang/String" → Fld Z h' a "java/lang/String" "coder" "B" (.int 0) → Fld Z h' a "java/lang/String" "value" "[B" (.ref b) → Arv Z h' b kb .byte z vs (.int 0) → (∀ x ∈ G, x ≠ a ∧ x ≠ b) → own_Go p e below En T' (mkF m (pc + 2) ls (.ref a :: st))) : own_Go p e below En T (mkF m pc ls st) := by
  obtain ⟨vm0, k0, ⟨locs, kk, nn, X, eT, N, q1, q2⟩, hS, hk, hZ, ho, hC, hG⟩ := S
  obtain ⟨a, T', h', k1, b, kb, X', e', E, hS', hk', hZ', ho', x1, x2, x3, x4, x5, x6, hC', hL, hne, stp⟩ := ldcCH X C.1 hZ ho w C.2.2.2.2.2.2.2 eT hS hk C.2.2.2.2.2.2.1 hmem hC.1 ht hz hl (g := mkF m pc ls st) rfl (by rw [C.2.1]; exact hd) hn hbig (by omega) (by omega)
  have hG' : ∀ x ∈ G, x < h'.size ∧ Safe Z EL T'.vm h' x := fun x hx => ⟨Nat.lt_of_lt_of_le (hG x hx).1 E.1, hC'.safe (hG x hx).1 (hG x hx).2⟩
  exact own_step stp (k T' h' a b kb ⟨T'.vm, k1, ⟨locs, _, _, X', e', N, by omega, by omega⟩, hS', hk', hZ', ho', hC.trans hC', hG'⟩ E x1 x2 x3 x4 fun x hx => hne x (hG' x hx).2)
theorem own_endW (C : own_CxW p meth c Z a0 EL cd maxL ret nm) (S : own_SW p l e R s m args below meth c n0 Z EL own T h G cells slots) {v : Option Value} (hv : meth.sig.returnType = none → v = none) {g : JFrame}
    (hst : ∀ locs kk nn vm0 fs, Stand p l e R (s.setVm vm0) m args below meth c T locs kk nn → (∀ (f : JFrame) (acts : List Action), f.method = m → f.locked = none → f.entered = [] → (doReturn e (T.setTop f) acts v).1 = T.setFrames fs) → Steps p.tables e below (T.setTop g) (T.setFrames fs)) (hc : cells ≤ kc) (hs : slots ≤ ks) (hF : F v h) : own_Go p e below (own_EnW s n0 Z EL F kc ks) T g := by
  obtain ⟨vm0, k0, ⟨locs, kk, nn, X, eT, N, q1, q2⟩, hS, hk, hZ, ho, hC, hG⟩ := S
  obtain ⟨fs, hr, hrun, hended, hret⟩ := X.leaveW hS (by rw [eT]; exact hk) hv C.2.2.2.2.2.1
  refine ⟨_, _, hst locs kk nn vm0 fs X hr, hrun, hended, v, locs, rfl, ⟨?_, N⟩, ?_, ?_⟩
  · show F v T.heap
    rw [eT]; exact hF
  · show CHr Z EL s.vm s.heap T.vm T.heap
    rw [eT]
    exact hC.trans (CHv.at X hZ C.2.2.2.2.2.2.1 hC.1)
  · exact ⟨hret.1, hret.2.1, hret.2.2.1, hret.2.2.2.mono (Nat.le_trans q1 hc) (Nat.le_trans q2 hs)⟩
theorem own_retW {t : FieldType} (C : own_CxW p meth c Z a0 EL cd maxL (some t) nm) (S : own_SW p l e R s m args below meth c n0 Z EL own T h G cells slots) {i : Instr} {w : Value} (hd : decode cd pc = .ok (i, 1)) (hn : narrow t w = w)
    (hi : (i = .ireturn ∧ (t = .int ∨ t = .boolean ∨ t = .byte ∨ t = .char ∨ t = .short) ∧ ∃ z, w = .int z) ∨ (i = .lreturn ∧ t = .long ∧ ∃ z, w = .long z) ∨ (i = .dreturn ∧ t = .double ∧ ∃ z, w = .double z) ∨ (i = .freturn ∧ t = .float ∧ ∃ z, w = .float z) ∨ (i = .areturn ∧ t.isReference = true ∧ w.isRef = true))
    (hc : cells ≤ kc) (hs : slots ≤ ks) (hF : F (some w) h) : own_Go p e below (own_EnW s n0 Z EL F kc ks) T (mkF m pc ls (w :: st)) :=
  own_endW C S (fun q => by rw [C.2.2.2.2.1] at q; cases q) (fun locs kk nn vm0 fs X hr => retOut X C.1 C.2.2.2.2.1 hn hi (by rw [C.2.1]; exact hd) hr) hc hs hF
theorem own_retZW (C : own_CxW p meth c Z a0 EL cd maxL (some .boolean) nm) (S : own_SW p l e R s m args below meth c n0 Z EL own T h G cells slots) {z : Int32} (hd : decode cd pc = .ok (.ireturn, 1)) (hz : z &&& 1 = z) (hc : cells ≤ kc) (hs : slots ≤ ks) (hF : F (some (.int z)) h) : own_Go p e below (own_EnW s n0 Z EL F kc ks) T (mkF m pc ls (.int z :: st)) :=
  own_retW C S hd (by show Value.int (z &&& 1) = _; rw [hz]) (Or.inl ⟨rfl, Or.inr (Or.inl rfl), z, rfl⟩) hc hs hF
theorem own_retAW {t : FieldType} (C : own_CxW p meth c Z a0 EL cd maxL (some t) nm) (S : own_SW p l e R s m args below meth c n0 Z EL own T h G cells slots) {w : Value} (ht : t.isReference = true) (hr : w.isRef = true) (hd : decode cd pc = .ok (.areturn, 1)) (hc : cells ≤ kc) (hs : slots ≤ ks) (hF : F (some w) h) : own_Go p e below (own_EnW s n0 Z EL F kc ks) T (mkF m pc ls (w :: st)) :=
  own_retW C S hd (by cases w <;> simp [Value.isRef] at hr <;> cases t <;> first | rfl | (simp [FieldType.isReference] at ht)) (by simp [ht, hr]) hc hs hF
theorem own_retVW (C : own_CxW p meth c Z a0 EL cd maxL none nm) (S : own_SW p l e R s m args below meth c n0 Z EL own T h G cells slots) (hd : decode cd pc = .ok (.return_, 1)) (hc : cells ≤ kc) (hs : slots ≤ ks) (hF : F none h) : own_Go p e below (own_EnW s n0 Z EL F kc ks) T (mkF m pc ls []) :=
  own_endW C S (fun _ => rfl) (fun locs kk nn vm0 fs X hr => X.returnOut C.1 C.2.2.2.2.1 (by rw [C.2.1]; exact hd) hr) hc hs hF
def own_MetW (l : Launch) (Z : State) (EL : List (String × Nat)) (y : MethodName) (cd : ByteArray) (maxL : Nat) (ret : Option FieldType) (rm : Room) (n0 : Nat) (as' : Array Value) (h0 : Heap) (G0 : List Addr) (Q : Option Value → Heap → Prop) : Prop :=
  ∀ ws, MetFree l y (head1 (Jvm.Cond.code y cd maxL ret :: ws) rm) (fun a U => a = as' ∧ Z.Warmed39 U.vm ∧ U.heap = h0 ∧ CHv Z EL U.vm h0 ∧ ∀ x ∈ G0, x < h0.size ∧ Safe Z EL U.vm h0 x) (fun _ _ _ _ _ => True)
    (fun _ U o U' => ∃ v L, o = .returned v ∧ (Q v U'.heap ∧ Fr n0 L) ∧ CHr Z EL U.vm U.heap U'.vm U'.heap ∧ ReturnedEndW U o U' L rm.cells rm.slots)
theorem own_metW {y : MethodName} {rm : Room} {as' : Array Value} {h0 : Heap} {G0 : List Addr} {Q : Option Value → Heap → Prop} (hEL : EW Z a0 EL) (wS : ∀ a ∈ Bundle.stringAtoms, a.before a0 Z = true) (hp : plainFor y = true) (ls : Array Slot) (hef : ∀ m, entryFrame m as' maxL = mkF m 0 ls [])
    (H : ∀ (p : Program) (e : Env) (s : State) (m : MethodId) (below : List Frame) (meth : Method) (c : Code) (T : State), own_CxW p meth c Z a0 EL cd maxL ret y.name → own_SW p l e rm s m as' below meth c n0 Z EL y.cls T h0 G0 0 0 → own_Go p e below (own_EnW s n0 Z EL Q rm.cells rm.slots) T (mkF m 0 ls [])) : own_MetW l Z EL y cd maxL ret rm n0 as' h0 G0 Q := by
  intro ws
  refine MetFree.of_bodySF hp hisR ?_
  intro p e s m args below meth c s₁ Bd hml hP hK
  obtain ⟨rfl, hZ, hh, hC, hG⟩ := hP
  have e0 : s₁.heap = h0 := by rw [← hh, Bd.state]; rfl
  have G := H p e s m below meth c s₁ ⟨Bd.exec, Bd.bytes, hml, (name_of_methodNamed Bd.named Bd.method).1, Bd.returns, BodyLoose.notSynchronized Bd, hEL, wS⟩
    ⟨s.vm, h0.size, ⟨_, _, _, Stand.of_body Bd, e0, Fr.nil n0, Nat.le_refl _, Nat.le_refl _⟩, (State.WarmedH.refl s).since _, Nat.le_refl _, hZ, findClass_of_methodNamed Bd.named, by rw [hh]; exact CHr.refl hC, hG⟩
  rw [← hef m] at G
  exact G
theorem own_payW {vm0 : Vm} {y : MethodName} {cdy : ByteArray} {maxy : Nat} {rety : Option FieldType} {rm : Room} {as' : Array Value} {G0 : List Addr} {Q : Option Value → Heap → Prop} (M : own_MetW l Z EL y cdy maxy rety rm n0 as' h G0 Q) (hZ : Z.Warmed39 vm0) {len W : Nat} (wc : (Jvm.Cond.code y cdy maxy rety).before a0 Z = true) (wz : (Jvm.Cond.initialized y.cls).before a0 Z = true) (hf : rm.frames + 1 ≤ R.frames) (hl : W + (maxy + 11) + rm.locals ≤ R.locals) (hEL : EW Z a0 EL) (H : CHv Z EL vm0 h) (hG : ∀ x ∈ G0, x < h.size ∧ Safe Z EL vm0 h x) :
    BackS l R p e below (s.setVm vm0) args y len W (fun A a => a = as' ∧ A.U.heap = h ∧ A.cells + rm.cells ≤ R.cells ∧ A.slots + rm.slots ≤ R.slots)
      (fun A _ v B => ∃ L, (Q v B.U.heap ∧ Fr n0 L) ∧ B.locs = A.locs ++ L ∧ B.cells = A.cells + rm.cells ∧ B.slots = A.slots + rm.slots ∧ CHr Z EL vm0 h B.U.vm B.U.heap) :=
  BackS.of_freeW (bytes := cdy) (maxL := maxy) (ret := rety) (E := fun _ first o t L k n => k = rm.cells ∧ n = rm.slots ∧ (∃ v, o = .returned v ∧ (Q v t.heap ∧ Fr n0 L)) ∧ CHr Z EL first.vm first.heap t.vm t.heap) (M []) hf hl
    (fun m meth c A a Y hp => have hU : Z.Warmed39 A.U.vm := wtrans (s := s.setVm vm0) hZ Y.warmed
      ⟨by show (Cond.and _ .tt).before a A.U = true; rw [Cond.before_and, mv hU wc]; rfl, mv hU wc, mv hU wz, hp.2.2.1, hp.2.2.2⟩)
    (fun m meth c A a g mk Y hp => ⟨hp.1, wtrans (s := s.setVm vm0) hZ Y.warmed, hp.2.1, (CHv.at Y hZ hEL H).1, fun x hx => ⟨(hG x hx).1, (CHv.at Y hZ hEL H).safe (hG x hx).1 (hG x hx).2⟩⟩) (fun _ _ _ _ _ _ _ _ _ => trivial)
    (fun _ _ _ _ ⟨v, L, h1, h2, h3, h4⟩ => ⟨L, _, _, h4, rfl, rfl, ⟨v, h1, h2⟩, h3⟩)
    (fun m meth c A a g mk v t L k n Y hp _ _ ⟨e1, e2, ⟨v', e3, e4⟩, e5⟩ => by
      cases e3; subst e1 e2
      refine ⟨L, e4, rfl, rfl, rfl, (CHv.at Y hZ hEL H).trans ?_⟩
      rw [← hp.2.1]; exact e5)
theorem own_backW {T : State} {vm0 : Vm} {k0 : Nat} {B : Pt} {Q : Option Value → Heap → Prop} {v : Option Value} {L : List Loc} {k1 k2 kk nn : Nat} (hS : s.Since vm0 k0) (hk : k0 ≤ h.size) (hZ : Z.Warmed39 vm0) (ho : vm0.findClass own = some m.cls) (hC : CHr Z EL s.vm s.heap vm0 h) (hG : ∀ x ∈ G, x < h.size ∧ Safe Z EL vm0 h x) (N : Fr n0 locs) (q1 : kk ≤ cells) (q2 : nn ≤ slots)
    (X' : Stand p l e R ((s.setVm vm0).setVm B.U.vm) m args below meth c B.U B.locs B.cells B.slots) (h2 : (s.setVm vm0).Since B.U.vm B.U.heap.size) (hg : h.size ≤ B.U.heap.size) (hQ : Q v B.U.heap ∧ Fr n0 L) (l1 : B.locs = locs ++ L) (l2 : B.cells = kk + k1) (l3 : B.slots = nn + k2) (hC' : CHr Z EL vm0 h B.U.vm B.U.heap) :
    own_SW p l e R s m args below meth c n0 Z EL own B.U B.U.heap G (cells + k1) (slots + k2) := by
  obtain ⟨X1, hS1, hZ1, ho1⟩ := rebS hS hk X' h2 hg hZ ho
  exact ⟨B.U.vm, _, ⟨B.locs, B.cells, B.slots, X1, rfl, by rw [l1]; exact Fr.app N hQ.2, by omega, by omega⟩, hS1, Nat.le_refl _, hZ1, ho1, hC.trans hC', fun x hx => ⟨Nat.lt_of_lt_of_le (hG x hx).1 hg, hC'.safe (hG x hx).1 (hG x hx).2⟩⟩
theorem own_callSW (C : own_CxW p meth c Z a0 EL cd maxL ret nm) (S : own_SW p l e R s m args below meth c n0 Z EL own T h G cells slots) {y : MethodName} {index : Nat} {cdy : ByteArray} {maxy : Nat} {rety : Option FieldType} {rm : Room} {as' : Array Value} {G0 : List Addr} {Q : Option Value → Heap → Prop}
    (w1 : (Jvm.Cond.methodLink own index y).before a0 Z = true) (w2 : (Jvm.Cond.static y).before a0 Z = true) (w3 : (Jvm.Cond.initialized y.cls).before a0 Z = true) (w4 : (Jvm.Cond.code y cdy maxy rety).before a0 Z = true) (hy : y.cls ≠ "java/lang/invoke/MethodHandle" ∧ y.cls ≠ "java/lang/invoke/VarHandle")
    (M : own_MetW l Z EL y cdy maxy rety rm n0 as' h G0 Q) (hG0 : ∀ x ∈ G0, x ∈ G) (W : Nat) (hf : rm.frames + 1 ≤ R.frames) (hlo : W + (maxy + 11) + rm.locals ≤ R.locals) (argsL rest : List Value) {ps : List FieldType} {rr : Option FieldType} (has : argsL.toArray = as') (hpd : parseMethodDescriptor y.desc = some ⟨ps, rr⟩) (hlen : argsL.length = ps.length) (hstk : st = argsL.reverse ++ rest) (hsz : ls.size = maxL) (hW : (rest.map fun v => v.category).sum ≤ W)
    (hc : cells + rm.cells ≤ R.cells) (hs : slots + rm.slots ≤ R.slots) (hd : decode cd pc = .ok (.invokestatic index, 3))
    (k : ∀ T' h' v, own_SW p l e R s m args below meth c n0 Z EL own T' h' G (cells + rm.cells) (slots + rm.slots) → h.size ≤ h'.size → Q v h' → own_Go p e below En T' (mkF m (pc + 3) ls (v.toList ++ rest))) : own_Go p e below En T (mkF m pc ls st) := by
  obtain ⟨vm0, k0, ⟨locs, kk, nn, X, eT, N, q1, q2⟩, hS, hk, hZ, ho, hC, hG⟩ := S
  obtain ⟨v, vm1, B, -, X', h2, hg, ⟨L, hQ, l1, l2, l3, hC'⟩, stp⟩ := callSS X C.1 ho (mvT (s := s.setVm vm0) hZ w1) (mvT (s := s.setVm vm0) hZ w2) (mvT (s := s.setVm vm0) hZ w3) (mvT (s := s.setVm vm0) hZ w4) hy (own_payW M hZ w4 w3 hf hlo C.2.2.2.2.2.2.1 hC.1 fun x hx => hG x (hG0 x hx)) (g := mkF m pc ls st) rfl (by rw [C.2.2.1]; exact hsz) (argsL := argsL) (rest := rest) (lenOf hpd hlen) hstk (by show 2 * 0 + _ ≤ W; omega) (by rw [C.2.1]; exact hd) (fun _ _ => ⟨has, eT, by show kk + _ ≤ _; omega, by show nn + _ ≤ _; omega⟩)
  rw [eT] at hg
  exact own_step (fun t k => stp.trans k) (k B.U _ v (own_backW (T := T) hS hk hZ ho hC hG N q1 q2 X' h2 hg hQ l1 l2 l3 hC') hg hQ.1)
theorem own_callIW (C : own_CxW p meth c Z a0 EL cd maxL ret nm) (S : own_SW p l e R s m args below meth c n0 Z EL own T h G cells slots) {y : MethodName} {index : Nat} {cdy : ByteArray} {maxy : Nat} {rm : Room} {as' : Array Value} {G0 : List Addr} {Q : Option Value → Heap → Prop}
    (hy1 : y.name = "<init>") (w1 : (Jvm.Cond.methodLink own index y).before a0 Z = true) (w2 : (Jvm.Cond.instanceMethod y).before a0 Z = true) (w3 : (Jvm.Cond.initialized y.cls).before a0 Z = true) (w4 : (Jvm.Cond.code y cdy maxy none).before a0 Z = true) (hy : y.cls ≠ "java/lang/invoke/MethodHandle" ∧ y.cls ≠ "java/lang/invoke/VarHandle")
    (M : own_MetW l Z EL y cdy maxy none rm n0 as' h G0 Q) (hG0 : ∀ x ∈ G0, x ∈ G) (W : Nat) (hf : rm.frames + 1 ≤ R.frames) (hlo : W + (maxy + 11) + rm.locals ≤ R.locals) {a : Addr} (argsL rest : List Value) {ps : List FieldType} {rr : Option FieldType} (has : (.ref a :: argsL).toArray = as') (hpd : parseMethodDescriptor y.desc = some ⟨ps, rr⟩) (hlen : argsL.length = ps.length) (hstk : st = argsL.reverse ++ .ref a :: rest) (hsz : ls.size = maxL) (hW : (rest.map fun v => v.category).sum ≤ W)
    (hc : cells + rm.cells ≤ R.cells) (hs : slots + rm.slots ≤ R.slots) (hd : decode cd pc = .ok (.invokespecial index, 3))
    (k : ∀ T' h' v, own_SW p l e R s m args below meth c n0 Z EL own T' h' G (cells + rm.cells) (slots + rm.slots) → h.size ≤ h'.size → Q v h' → own_Go p e below En T' (mkF m (pc + 3) ls (v.toList ++ rest))) : own_Go p e below En T (mkF m pc ls st) := by
  obtain ⟨vm0, k0, ⟨locs, kk, nn, X, eT, N, q1, q2⟩, hS, hk, hZ, ho, hC, hG⟩ := S
  obtain ⟨v, vm1, B, -, X', h2, hg, ⟨L, hQ, l1, l2, l3, hC'⟩, stp⟩ := X.specialBackS C.1 hy1 ho (mvT (s := s.setVm vm0) hZ w1) (mvT (s := s.setVm vm0) hZ w2) (mvT (s := s.setVm vm0) hZ w4) hy (own_payW M hZ w4 w3 hf hlo C.2.2.2.2.2.2.1 hC.1 fun x hx => hG x (hG0 x hx)) (g := mkF m pc ls st) rfl (by rw [C.2.2.1]; exact hsz) (Steps.refl _) (a := a) (argsL := argsL) (rest := rest) (lenOf hpd hlen) hstk (by show 2 * 0 + _ ≤ W; omega) (by rw [C.2.1]; exact hd) (fun _ _ => ⟨has, eT, by show kk + _ ≤ _; omega, by show nn + _ ≤ _; omega⟩)
  rw [eT] at hg
  exact own_step (fun t k => stp.trans k) (k B.U _ v (own_backW (T := T) hS hk hZ ho hC hG N q1 q2 X' h2 hg hQ l1 l2 l3 hC') hg hQ.1)
end OwnKitW

theorem own_and255 (x : Int32) : ¬ (x &&& (255 : Int32)) < 0 ∧ ¬ (255 : Int32) < (x &&& (255 : Int32)) := by
  have h := c_and x (255 : Int32) (by decide)
  rw [Int32.lt_iff_toInt_lt, Int32.lt_iff_toInt_lt]
  have e1 : (255 : Int32).toInt = 255 := rfl
  have e2 : (0 : Int32).toInt = 0 := rfl
  omega
theorem own_up (cs : List Int32) (h : ∀ c ∈ cs, ¬ c < 0 ∧ ¬ (255 : Int32) < c) : ∀ c ∈ cs, ¬ c < 0 ∧ ¬ (65535 : Int32) < c := fun c hc => ⟨(h c hc).1, fun q => (h c hc).2 (by rw [Int32.lt_iff_toInt_lt] at q ⊢; have e1 : (65535 : Int32).toInt = 65535 := rfl; have e2 : (255 : Int32).toInt = 255 := rfl; omega)⟩
theorem own_ofNat_nn {i : Nat} (h : i ≤ 4000) : ¬ Int32.ofNat i < 0 ∧ (Int32.ofNat i).toNatClampNeg = i := by
  have e : (Int32.ofNat i).toInt = i := Int32.toInt_ofNat_of_lt (by omega)
  refine ⟨?_, ?_⟩
  · rw [Int32.lt_iff_toInt_lt, e]
    have e0 : (0 : Int32).toInt = 0 := rfl
    omega
  · simp only [Int32.toNatClampNeg, e]; omega
theorem own_ofNat_lt {i n : Nat} (h : i ≤ 4000) (hn : n ≤ 4000) : Int32.ofNat i < Int32.ofNat n ↔ i < n := by
  have e : (Int32.ofNat i).toInt = i := Int32.toInt_ofNat_of_lt (by omega)
  have e2 : (Int32.ofNat n).toInt = n := Int32.toInt_ofNat_of_lt (by omega)
  rw [Int32.lt_iff_toInt_lt, e, e2]; omega
theorem own_getD_mem {cs : List Int32} {i : Nat} (hi : i < cs.length) : cs.getD i 0 ∈ cs := by
  simp [List.getD, List.getElem?_eq_getElem hi]
def own_sv (cs : List Int32) : List Value := cs.map fun c => Value.int (StrChars.lo8 c)
theorem own_codG {cs : List Int32} (h : ∀ c ∈ cs, ¬ c < 0 ∧ ¬ (255 : Int32) < c) : StrChars.Road.CodA cs 0 (Int32.ofNat cs.length) (own_sv cs) := Or.inl ⟨rfl, rfl, rfl, fun c hc => (h c hc).2⟩
theorem own_oN {n : Nat} (h : n ≤ 4000) : (Int32.ofNat n).toInt = n ∧ (Int32.ofNat n).toNatClampNeg = n := by
  have e : (Int32.ofNat n).toInt = n := Int32.toInt_ofNat_of_lt (by omega)
  exact ⟨e, (own_ofNat_nn h).2⟩
theorem own_and_id {c : Int32} (h1 : 0 ≤ c.toInt) (h2 : c.toInt ≤ 255) : c &&& 255 = c := by
  have e : c = Int32.ofNat c.toInt.toNat := by
    apply Int32.toInt_inj.mp
    rw [Int32.toInt_ofNat_of_lt (by omega)]; omega
  have h3 : c.toInt.toNat < 256 := by omega
  generalize c.toInt.toNat = n at e h3
  subst e
  revert n; decide +kernel
theorem own_c16 {c : Int32} (h : ¬ c < 0 ∧ ¬ (255 : Int32) < c) : c.toUInt32.toUInt16.toUInt32.toInt32 = c := by
  obtain ⟨h1, h2⟩ := h
  rw [Int32.lt_iff_toInt_lt] at h1 h2
  have e0 : (0 : Int32).toInt = 0 := rfl
  have e1 : (255 : Int32).toInt = 255 := rfl
  have e2 : c &&& 255 = c := own_and_id (by omega) (by omega)
  have := i2c_mask c
  rw [e2] at this
  exact this
abbrev own_EL : List (String × Nat) := consts_1
abbrev own_L0 : List Int32 := [116, 101, 120, 116]
theorem own_Lp0 : ∀ c ∈ own_L0, ¬ c < 0 ∧ ¬ (255 : Int32) < c := by decide
abbrev own_L1 : List Int32 := [107, 101, 121, 119, 111, 114, 100]
theorem own_Lp1 : ∀ c ∈ own_L1, ¬ c < 0 ∧ ¬ (255 : Int32) < c := by decide
abbrev own_L2 : List Int32 := [110, 117, 109, 98, 101, 114]
theorem own_Lp2 : ∀ c ∈ own_L2, ¬ c < 0 ∧ ¬ (255 : Int32) < c := by decide
abbrev own_L3 : List Int32 := [100, 97, 116, 101]
theorem own_Lp3 : ∀ c ∈ own_L3, ¬ c < 0 ∧ ¬ (255 : Int32) < c := by decide
abbrev own_L4 : List Int32 := [112, 111, 105, 110, 116]
theorem own_Lp4 : ∀ c ∈ own_L4, ¬ c < 0 ∧ ¬ (255 : Int32) < c := by decide
def own_R (c : Int32) : Prop := ¬ c < 0 ∧ ¬ (255 : Int32) < c
def own_iv (xs : List Int32) : List Value := xs.map Value.int
def own_at (cs : List Int32) (k : Nat) (f : Int32) : Int32 := if k < cs.length then cs.getD k 0 else f
theorem own_at_p {cs : List Int32} {k : Nat} {f : Int32} (h : k < cs.length) : own_at cs k f = cs.getD k 0 := if_pos h
theorem own_at_n {cs : List Int32} {k : Nat} {f : Int32} (h : ¬ k < cs.length) : own_at cs k f = f := if_neg h
theorem own_at_R {cs : List Int32} {k : Nat} {f : Int32} (h : ∀ c ∈ cs, ¬ c < 0 ∧ ¬ (255 : Int32) < c) (hf : own_R f) : own_R (own_at cs k f) := by
  by_cases q : k < cs.length
  · rw [own_at_p q]; exact h _ (own_getD_mem q)
  · rw [own_at_n q]; exact hf
theorem own_ivg {xs : List Int32} {i : Nat} (h : i < xs.length) : (own_iv xs).getD i (.int 0) = .int (xs.getD i 0) := by
  simp [own_iv, List.getD, List.getElem?_map, List.getElem?_eq_getElem h]
theorem own_ivs (xs : List Int32) (i : Nat) (c : Int32) : (own_iv xs).set i (.int c) = own_iv (xs.set i c) := by
  simp [own_iv, List.map_set]
theorem own_hxs {xs : List Int32} {i : Nat} {v : Int32} (h : ∀ c ∈ xs, ¬ c < 0 ∧ ¬ (255 : Int32) < c) (hv : own_R v) : ∀ c ∈ xs.set i v, ¬ c < 0 ∧ ¬ (255 : Int32) < c := by
  intro c hc
  rcases List.mem_or_eq_of_mem_set hc with q | rfl
  · exact h c q
  · exact hv
theorem own_i7 (x : Int32) : (¬ (x &&& (7 : Int32)) < 0 ∧ (x &&& (7 : Int32)) < (8 : Int32)) ∧ (x &&& (7 : Int32)).toNatClampNeg < 8 := by
  have h := c_and x (7 : Int32) (by decide)
  have e7 : (7 : Int32).toInt = 7 := rfl
  have e8 : (8 : Int32).toInt = 8 := rfl
  have e0 : (0 : Int32).toInt = 0 := rfl
  refine ⟨⟨?_, ?_⟩, ?_⟩
  · rw [Int32.lt_iff_toInt_lt]; omega
  · rw [Int32.lt_iff_toInt_lt]; omega
  · rw [Int32.toNatClampNeg]; omega
theorem own_six (cs : List Int32) : cs = own_L0 ∨ cs = own_L1 ∨ cs = own_L2 ∨ cs = own_L3 ∨ cs = own_L4 ∨ (¬ cs = own_L0 ∧ ¬ cs = own_L1 ∧ ¬ cs = own_L2 ∧ ¬ cs = own_L3 ∧ ¬ cs = own_L4) := by
  by_cases h0 : cs = own_L0
  · exact Or.inl h0
  by_cases h1 : cs = own_L1
  · exact Or.inr (Or.inl h1)
  by_cases h2 : cs = own_L2
  · exact Or.inr (Or.inr (Or.inl h2))
  by_cases h3 : cs = own_L3
  · exact Or.inr (Or.inr (Or.inr (Or.inl h3)))
  by_cases h4 : cs = own_L4
  · exact Or.inr (Or.inr (Or.inr (Or.inr (Or.inl h4))))
  · exact Or.inr (Or.inr (Or.inr (Or.inr (Or.inr ⟨h0, h1, h2, h3, h4⟩))))
theorem own_fT {s : State} {a : Array Value} {t : Term} {C n d : String} {x : Addr} {v : Value} (e1 : t.eval a s none [] s = some (.ref x)) (e2 : (Term.field t C n d).eval a s none [] s = some v) : Fld s s.heap x C n d v := by
  simp only [Term.eval, e1, Option.bind_eq_bind, Option.bind_some] at e2
  exact Fld.start e2
theorem own_eqT {s : State} {a : Array Value} {t : Term} {v : Int32} (h : (Jvm.Cond.eq t (.int v)).value a s none s [] = some true) : t.eval a s none [] s = some (.int v) := by
  obtain ⟨y, e1, e2⟩ := Cond.eq_one (beq_iff_eq.mpr h : (Jvm.Cond.eq t (.int v)).holds a s none s [] = true)
  rw [Term.int_eval] at e2; cases e2; exact e1
theorem own_eqR {s : State} {a : Array Value} {t u : Term} {v : Value} (h : (Jvm.Cond.eq t u).value a s none s [] = some true) (e : u.eval a s none [] s = some v) : t.eval a s none [] s = some v := by
  obtain ⟨y, e1, e2⟩ := Cond.eq_one (beq_iff_eq.mpr h : (Jvm.Cond.eq t u).holds a s none s [] = true)
  rw [e] at e2; cases e2; exact e1
theorem own_TA {s : State} {a : Array Value} {t : Term} {ty : FieldType} {dv : Value} {D : Addr} {n : Nat} (vs : List Value) (hn2 : n ≤ 4000) (d1 : t.eval a s none [] s = some (.ref D)) (h1 : (Jvm.Cond.arrayOf t ty).value a s none s [] = some true) (h2 : (Term.length t).eval a s none [] s = some (.int (Int32.ofNat n))) (h3 : ∀ i < n, (Term.elem t (.int (Int32.ofNat i))).eval a s none [] s = some (vs.getD i dv)) (h4 : ∀ i < n, fits ty (vs.getD i dv) = true) :
    ∃ k, Arv s s.heap D k ty (Int32.ofNat n) vs dv := by
  obtain ⟨D', c, d1', d2, e2⟩ := Term.length_spec h2
  cases d1.symm.trans d1'
  obtain ⟨c', A⟩ := Arr.start d1 h1
  have e3 : s.arrayAt? D = some c' := Arr.fin (Vm.Alike.refl _) A
  obtain rfl : c' = c := Option.some.inj (e3.symm.trans d2)
  have hlt : c'.slots.size < 2 ^ 31 := by
    by_cases g : c'.slots.size < 2 ^ 31
    · exact g
    · simp [Term.eval, d1, d2, g] at h2
  have e4 : c'.slots.size.toInt32 = Int32.ofNat n := (Value.int.inj e2).symm
  have e5 : c'.slots.size = n := by
    have := congrArg Int32.toInt e4
    rw [Jvm.RoadKit.len_toInt hlt, (own_oN hn2).1] at this
    omega
  refine ⟨c'.cls, ⟨c', A, rfl, by rw [e5, (own_oN hn2).2], (own_ofNat_nn hn2).1, fun i hi => ?_, fun i hi => h4 i (by omega)⟩⟩
  rw [e5] at hi
  obtain ⟨D', j, cell', g1, g2, g3, -, g4⟩ := Term.elem_spec (h3 i hi)
  rw [d1] at g1; cases g1
  rw [d2] at g3; cases g3
  rw [Term.int_eval] at g2
  cases g2
  rw [(own_oN (n := i) (by omega)).2] at g4
  exact g4

theorem own_fd0 : parseFieldDescriptor "[B" = some (.array .byte) := by decide +kernel
theorem own_fd1 : parseFieldDescriptor "B" = some .byte := by decide +kernel
theorem own_sn0 {Z : State} {a0 : Array Value} (hw : ∀ d ∈ tables_1, d.before a0 Z = true) : Jvm.RoadKit.slotOf Z "java/lang/String" "coder" "B" ≠ Jvm.RoadKit.slotOf Z "java/lang/String" "value" "[B" := slot_ne (Or.inr (own_wd hw 34 rfl)) (Or.inr (own_wd hw 26 rfl)) (by decide) own_fd1 own_fd0
theorem own_sn1 {Z : State} {a0 : Array Value} (hw : ∀ d ∈ tables_1, d.before a0 Z = true) : Jvm.RoadKit.slotOf Z "java/lang/String" "value" "[B" ≠ Jvm.RoadKit.slotOf Z "java/lang/String" "coder" "B" := slot_ne (Or.inr (own_wd hw 26 rfl)) (Or.inr (own_wd hw 34 rfl)) (by decide) own_fd0 own_fd1
theorem own_se4 (l : Launch) (Z : State) (a0 : Array Value) (hw : ∀ d ∈ tables_1, d.before a0 Z = true) (hEL : EW Z a0 own_EL) (wS : ∀ a ∈ Bundle.stringAtoms, a.before a0 Z = true) (x : Addr) (y : Addr) (h0 : Heap) (n0 : Nat) (z0 : n0 ≤ h0.size) (ge_x : n0 ≤ x) (xE : Exa Z h0 x "java/lang/String") (xV : Fld Z h0 x "java/lang/String" "value" "[B" .null) (xC : Fld Z h0 x "java/lang/String" "coder" "B" (.int 0)) :
    own_MetW l Z own_EL (⟨"java/lang/String", "<init>", "([CIILjava/lang/Void;)V"⟩ : MethodName) jdk_42_method_149_code 6 none ({ frames := 1, cells := 4, slots := 8, locals := 12 } : Room) n0 #[(.ref x), (.ref y), (.int 0), (.int 0), .null] h0 [x] (fun v h => ∃ t : Addr, ∃ tk : ClassId, v = none ∧ Keep h0 h [x] ∧ Exa Z h x "java/lang/String" ∧ Fld Z h x "java/lang/String" "coder" "B" (.int 0) ∧ Fld Z h x "java/lang/String" "value" "[B" (.ref t) ∧ Arv Z h t tk .byte (0 : Int32) ([]) (.int 0)) := by
  refine own_metW hEL wS (by decide +kernel) #[.val (.ref x), .val (.ref y), .val (.int 0), .val (.int 0), .val .null, .unset] (fun m => by first | (simp [entryFrame, mkF, argsToLocals, Value.category]; done) | rfl) ?_
  intro p e s m below meth c T0 CW SW0
  refine own_lift CW SW0 ?_
  intro vm1 C S2 rb3
  refine own_seg C S2 [(0, .aload_n 0, 1)] (by decide +kernel) 1 #[.val (.ref x), .val (.ref y), .val (.int 0), .val (.int 0), .val .null, .unset] [(.ref x)] rfl ?_
  refine own_initO C S2 (own_wd hw 69 rfl) (own_wd hw 70 rfl) (own_wd hw 71 rfl) rfl (by decide +kernel) (by decide) 0 (Nat.le_of_ble_eq_true rfl) (by decide) ?_
  intro T4 S5
  refine own_seg C S5 [(4, .iload_n 3, 1)] (by decide +kernel) 5 #[.val (.ref x), .val (.ref y), .val (.int 0), .val (.int 0), .val .null, .unset] [(.int 0)] rfl ?_
  refine own_if C S5 (q := .ne) (o := 22) (by decide +kernel) 27 (by decide) (by decide) (fun (hq : ¬ (0 : Int32) = (0 : Int32)) => False.elim (hq rfl)) (fun (q6 : (0 : Int32) = (0 : Int32)) => ?_)
  refine own_seg C S5 [(8, .aload_n 0, 1)] (by decide +kernel) 9 #[.val (.ref x), .val (.ref y), .val (.int 0), .val (.int 0), .val .null, .unset] [(.ref x)] rfl ?_
  have SW7 := rb3 _ _ _ _ [] [] S5 (Keep.refl _ _) all0 all0
  refine own_ldcW CW SW7 (own_wd hw 128 rfl) (List.mem_of_getElem? (i := 5) rfl) (z := (0 : Int32)) (vs := []) ⟨by decide, by decide⟩ (by decide) rfl (by decide +kernel) 0 (by decide) (by decide) (by decide) (by decide) ?_
  intro T8 h9 a10 b11 k12 SW13 E14 x15 f16 f17 f18 ne19 
  have hp20 : ∀ c ∈ ([] : List Int32), ¬ c < 0 ∧ ¬ (255 : Int32) < c := by decide
  have hcd21 : StrChars.Road.CodA ([] : List Int32) 0 (0 : Int32) [] := StrChars.Road.codOf (cs := ([] : List Int32)) (n := 0) rfl (fun c hc => (hp20 c hc).2)
  refine own_lift CW SW13 ?_
  intro vm22 C S23 rb24
  refine own_getF C S23 (host := "") (Or.inl (own_wd hw 25 rfl)) Via.refl f17 (by decide +kernel) ?_
  intro T25 S26
  have f27 := (Fld.ext E14 xV)
  have f28 := (Exa.ext E14 xE)
  refine own_putF C S26 (ty := (.array .byte)) (host := "") (Or.inl (own_wd hw 25 rfl)) Via.refl f27 f28 (Or.inr ⟨(own_wd hw 26 rfl), rfl, rfl⟩) (own_wd hw 61 rfl) own_fd0 rfl rfl ge_x (by decide +kernel) ?_
  intro T29 h31 S30 W32
  have f33 : Fld Z h31 x "java/lang/String" "value" "[B" (.ref b11) := Fld.same W32 f27
  refine own_seg C S30 [(17, .aload_n 0, 1)] (by decide +kernel) 18 #[.val (.ref x), .val (.ref y), .val (.int 0), .val (.int 0), .val .null, .unset] [(.ref x)] rfl ?_
  have SW34 := rb24 _ _ _ _ [x] [] S30 ((Keep.refl _ _).wr W32 (Or.inl (List.mem_of_getElem? (i := 0) rfl))) (allS (List.mem_of_getElem? (i := 0) rfl) all0) all0
  refine own_ldcW CW SW34 (own_wd hw 128 rfl) (List.mem_of_getElem? (i := 5) rfl) (z := (0 : Int32)) (vs := []) ⟨by decide, by decide⟩ (by decide) rfl (by decide +kernel) 0 (by decide) (by decide) (by decide) (by decide) ?_
  intro T35 h36 a37 b38 k39 SW40 E41 x42 f43 f44 f45 ne46 
  have hp47 : ∀ c ∈ ([] : List Int32), ¬ c < 0 ∧ ¬ (255 : Int32) < c := by decide
  have hcd48 : StrChars.Road.CodA ([] : List Int32) 0 (0 : Int32) [] := StrChars.Road.codOf (cs := ([] : List Int32)) (n := 0) rfl (fun c hc => (hp47 c hc).2)
  refine own_lift CW SW40 ?_
  intro vm49 C S50 rb51
  refine own_getF C S50 (host := "") (Or.inl (own_wd hw 33 rfl)) Via.refl f43 (by decide +kernel) ?_
  intro T52 S53
  have f54 := (Fld.ext E41 (Fld.other W32 (Fld.ext E14 xC) (Or.inr (own_sn0 hw))))
  have f55 := (Exa.ext E41 (Exa.wr W32 f28))
  refine own_putF C S53 (ty := .byte) (host := "") (Or.inl (own_wd hw 33 rfl)) Via.refl f54 f55 (Or.inr ⟨(own_wd hw 34 rfl), rfl, rfl⟩) (own_wd hw 61 rfl) own_fd1 rfl rfl ge_x (by decide +kernel) ?_
  intro T56 h58 S57 W59
  have f60 : Fld Z h58 x "java/lang/String" "coder" "B" (.int 0) := Fld.same W59 f54
  have SW61 := rb51 _ _ _ _ [x] [] S57 ((Keep.refl _ _).wr W59 (Or.inl (List.mem_of_getElem? (i := 0) rfl))) (allS (List.mem_of_getElem? (i := 0) rfl) all0) all0
  refine own_retVW CW SW61 (by decide +kernel) (by decide) (by decide) ?_
  have f62 := (Exa.wr W59 f55)
  have f63 := (Fld.other W59 (Fld.ext E41 f33) (Or.inr (own_sn1 hw)))
  have f64 := (((f18.other W32 (Ne.symm (ne19 x (List.mem_of_getElem? (i := 0) rfl)).2)).ext E41).other W59 (Ne.symm (ne19 x (List.mem_of_getElem? (i := 0) rfl)).2))
  exact ⟨b11, k12, rfl, (((((Keep.refl _ _).ext E14).wr W32 (Or.inl (List.mem_of_getElem? (i := 0) rfl))).ext E41).wr W59 (Or.inl (List.mem_of_getElem? (i := 0) rfl))), f62, f60, f63, f64⟩
theorem own_pd0 : parseMethodDescriptor "([CIILjava/lang/Void;)V" = some ⟨[(.array .char), .int, .int, (.object "java/lang/Void")], none⟩ := by decide +kernel
theorem own_se1 (l : Launch) (Z : State) (a0 : Array Value) (hw : ∀ d ∈ tables_1, d.before a0 Z = true) (hEL : EW Z a0 own_EL) (wS : ∀ a ∈ Bundle.stringAtoms, a.before a0 Z = true) (x : Addr) (y : Addr) (yk : ClassId) (yvs : List Value) (yd : Value) (h0 : Heap) (n0 : Nat) (z0 : n0 ≤ h0.size) (ge_x : n0 ≤ x) (xE : Exa Z h0 x "java/lang/String") (xV : Fld Z h0 x "java/lang/String" "value" "[B" .null) (xC : Fld Z h0 x "java/lang/String" "coder" "B" (.int 0)) (yK : Arv Z h0 y yk .char (0 : Int32) yvs yd) :
    own_MetW l Z own_EL (⟨"java/lang/String", "<init>", "([C)V"⟩ : MethodName) jdk_42_method_3_code 2 none ({ frames := 2, cells := 4, slots := 8, locals := 29 } : Room) n0 #[(.ref x), (.ref y)] h0 [x] (fun v h => ∃ t : Addr, ∃ tk : ClassId, v = none ∧ Keep h0 h [x] ∧ Exa Z h x "java/lang/String" ∧ Fld Z h x "java/lang/String" "coder" "B" (.int 0) ∧ Fld Z h x "java/lang/String" "value" "[B" (.ref t) ∧ Arv Z h t tk .byte (0 : Int32) ([]) (.int 0)) := by
  refine own_metW hEL wS (by decide +kernel) #[.val (.ref x), .val (.ref y)] (fun m => by first | (simp [entryFrame, mkF, argsToLocals, Value.category]; done) | rfl) ?_
  intro p e s m below meth c T0 CW SW0
  refine own_lift CW SW0 ?_
  intro vm65 C S66 rb67
  refine own_seg C S66 [(0, .aload_n 0, 1), (1, .aload_n 1, 1), (2, .iconst 0, 1), (3, .aload_n 1, 1)] (by decide +kernel) 4 #[.val (.ref x), .val (.ref y)] [(.ref y), (.int 0), (.ref y), (.ref x)] rfl ?_
  refine own_alen C S66 yK (by decide +kernel) ?_
  refine own_seg C S66 [(5, .aconst_null, 1)] (by decide +kernel) 6 #[.val (.ref x), .val (.ref y)] [.null, (.int 0), (.int 0), (.ref y), (.ref x)] rfl ?_
  have SW68 := rb67 _ _ _ _ [] [] S66 (Keep.refl _ _) all0 all0
  refine own_callIW CW SW68 rfl (own_wd hw 65 rfl) (own_wd hw 66 rfl) (own_wd hw 23 rfl) (own_wd hw 68 rfl) (by decide) (own_se4 l Z a0 hw hEL wS x y h0 n0 z0 ge_x xE xV xC) (allS (List.mem_of_getElem? (i := 0) rfl) all0) 0 (by decide) (by decide) [(.ref y), (.int 0), (.int 0), .null] [] rfl own_pd0 rfl rfl rfl (Nat.le_of_ble_eq_true rfl) (by decide) (by decide) (by decide +kernel) ?_
  rintro T81 h82 v83 SW84 hg85 ⟨a69, k70, rfl, K71, f72, f73, f74, f75⟩
  show own_Go p e below _ T81 (mkF m 9 #[.val (.ref x), .val (.ref y)] [])
  refine own_retVW CW SW84 (by decide +kernel) (by decide) (by decide) ?_
  exact ⟨a69, k70, rfl, ((Keep.refl _ _).trans K71 (allS (Or.inl (List.mem_of_getElem? (i := 0) rfl)) all0)), f72, f73, f74, f75⟩
theorem own_eqN (l : Launch) (Z : State) (a0 : Array Value) (hw : ∀ d ∈ tables_1, d.before a0 Z = true) (x : Addr) (h0 : Heap) (n0 : Nat) (z0 : n0 ≤ h0.size) (xE : Exa Z h0 x "java/lang/String") :
    own_Met l Z (⟨"java/lang/String", "equals", "(Ljava/lang/Object;)Z"⟩ : MethodName) jdk_42_method_66_code 3 (some .boolean) ({ frames := 0, cells := 0, slots := 0, locals := 0 } : Room) n0 #[(.ref x), .null] h0 (fun v h => v = some (.int 0) ∧ h = h0) := by
  refine own_met (by decide +kernel) #[.val (.ref x), .val .null, .unset] (fun m => by first | (simp [entryFrame, mkF, argsToLocals, Value.category]; done) | rfl) ?_
  intro p e s m below meth c T0 C S0
  refine own_seg C S0 [(0, .aload_n 0, 1), (1, .aload_n 1, 1)] (by decide +kernel) 2 #[.val (.ref x), .val .null, .unset] [.null, (.ref x)] rfl ?_
  refine own_acmp C S0 (q := .ne) (o := 5) rfl rfl (by decide +kernel) 7 (by decide) (by decide) (fun (q86 : ¬ ((.ref x) : Value) = .null) => ?_) (fun (hq : ((.ref x) : Value) = .null) => False.elim (by cases hq))
  refine own_seg C S0 [(7, .aload_n 1, 1)] (by decide +kernel) 8 #[.val (.ref x), .val .null, .unset] [.null] rfl ?_
  refine own_instN C S0 (index := 10) (by decide +kernel) ?_
  refine own_if C S0 (q := .eq) (o := 43) (by decide +kernel) 54 (by decide) (by decide) (fun (q87 : (0 : Int32) = (0 : Int32)) => ?_) (fun (hq : ¬ (0 : Int32) = (0 : Int32)) => False.elim (by revert hq; decide))
  refine own_seg C S0 [(54, .iconst 0, 1)] (by decide +kernel) 55 #[.val (.ref x), .val .null, .unset] [(.int 0)] rfl ?_
  refine own_retZ C S0 (by decide +kernel) (by decide) (by decide) (by decide) ?_
  exact ⟨rfl, rfl⟩
theorem own_kd (l : Launch) (Z : State) (a0 : Array Value) (hw : ∀ d ∈ tables_1, d.before a0 Z = true) (G1 : Int32) (G3 : Value) (kda : Addr) (kdb : Addr) (kdc : Addr) (kdd : Addr) (kde : Addr) (lsa : Addr) (lsat : Addr) (lsak : ClassId) (lsb : Addr) (lsbt : Addr) (lsbk : ClassId) (lsc : Addr) (lsct : Addr) (lsck : ClassId) (lsd : Addr) (lsdt : Addr) (lsdk : ClassId) (lse : Addr) (lset : Addr) (lsek : ClassId) (i : Int32) (h0 : Heap) (n0 : Nat) (z0 : n0 ≤ h0.size) (X00 : Old Z n0 h0) (pa1 : Exa Z h0 kda "com/example/persephone/persephone/lucene/FieldKind") (pa2 : Fld Z h0 kda "com/example/persephone/persephone/lucene/FieldKind" "label" "Ljava/lang/String;" (.ref lsa)) (pa3 : Exa Z h0 lsa "java/lang/String") (pa4 : Fld Z h0 lsa "java/lang/String" "value" "[B" (.ref lsat)) (pa5 : Fld Z h0 lsa "java/lang/String" "coder" "B" (.int 0)) (pa6 : Arv Z h0 lsat lsak .byte (Int32.ofNat (own_L0).length) (own_sv own_L0) (.int 0)) (pb1 : Exa Z h0 kdb "com/example/persephone/persephone/lucene/FieldKind") (pb2 : Fld Z h0 kdb "com/example/persephone/persephone/lucene/FieldKind" "label" "Ljava/lang/String;" (.ref lsb)) (pb3 : Exa Z h0 lsb "java/lang/String") (pb4 : Fld Z h0 lsb "java/lang/String" "value" "[B" (.ref lsbt)) (pb5 : Fld Z h0 lsb "java/lang/String" "coder" "B" (.int 0)) (pb6 : Arv Z h0 lsbt lsbk .byte (Int32.ofNat (own_L1).length) (own_sv own_L1) (.int 0)) (pc1 : Exa Z h0 kdc "com/example/persephone/persephone/lucene/FieldKind") (pc2 : Fld Z h0 kdc "com/example/persephone/persephone/lucene/FieldKind" "label" "Ljava/lang/String;" (.ref lsc)) (pc3 : Exa Z h0 lsc "java/lang/String") (pc4 : Fld Z h0 lsc "java/lang/String" "value" "[B" (.ref lsct)) (pc5 : Fld Z h0 lsc "java/lang/String" "coder" "B" (.int 0)) (pc6 : Arv Z h0 lsct lsck .byte (Int32.ofNat (own_L2).length) (own_sv own_L2) (.int 0)) (pd1 : Exa Z h0 kdd "com/example/persephone/persephone/lucene/FieldKind") (pd2 : Fld Z h0 kdd "com/example/persephone/persephone/lucene/FieldKind" "label" "Ljava/lang/String;" (.ref lsd)) (pd3 : Exa Z h0 lsd "java/lang/String") (pd4 : Fld Z h0 lsd "java/lang/String" "value" "[B" (.ref lsdt)) (pd5 : Fld Z h0 lsd "java/lang/String" "coder" "B" (.int 0)) (pd6 : Arv Z h0 lsdt lsdk .byte (Int32.ofNat (own_L3).length) (own_sv own_L3) (.int 0)) (pe1 : Exa Z h0 kde "com/example/persephone/persephone/lucene/FieldKind") (pe2 : Fld Z h0 kde "com/example/persephone/persephone/lucene/FieldKind" "label" "Ljava/lang/String;" (.ref lse)) (pe3 : Exa Z h0 lse "java/lang/String") (pe4 : Fld Z h0 lse "java/lang/String" "value" "[B" (.ref lset)) (pe5 : Fld Z h0 lse "java/lang/String" "coder" "B" (.int 0)) (pe6 : Arv Z h0 lset lsek .byte (Int32.ofNat (own_L4).length) (own_sv own_L4) (.int 0)) (O2 : Sta Z Z.heap "java/lang/String" "COMPACT_STRINGS" "Z" (.int G1)) (O4 : Sta Z Z.heap "jdk/internal/util/Preconditions" "SIOOBE_FORMATTER" "Ljava/util/function/BiFunction;" G3) (P5 : ¬ G1 = (0 : Int32)) (rG3 : G3.isRef = true) (Oa : Sta Z Z.heap "com/example/persephone/persephone/lucene/FieldKind" "TEXT" "Lcom/example/persephone/persephone/lucene/FieldKind;" (.ref kda)) (Ob : Sta Z Z.heap "com/example/persephone/persephone/lucene/FieldKind" "KEYWORD" "Lcom/example/persephone/persephone/lucene/FieldKind;" (.ref kdb)) (Oc : Sta Z Z.heap "com/example/persephone/persephone/lucene/FieldKind" "NUMBER" "Lcom/example/persephone/persephone/lucene/FieldKind;" (.ref kdc)) (Od : Sta Z Z.heap "com/example/persephone/persephone/lucene/FieldKind" "DATE" "Lcom/example/persephone/persephone/lucene/FieldKind;" (.ref kdd)) (Oe : Sta Z Z.heap "com/example/persephone/persephone/lucene/FieldKind" "POINT" "Lcom/example/persephone/persephone/lucene/FieldKind;" (.ref kde)) :
    own_Met l Z (⟨"com/example/persephone/persephone/lucene/FieldKindLabelledPinLaw", "kind", "(I)Lcom/example/persephone/persephone/lucene/FieldKind;"⟩ : MethodName) method_3_code 1 (some (.object "com/example/persephone/persephone/lucene/FieldKind")) ({ frames := 0, cells := 0, slots := 0, locals := 0 } : Room) n0 #[(.int i)] h0 (fun v h => ∃ ki : Addr, ∃ la : Addr, ∃ lat : Addr, ∃ lak : ClassId, ∃ lcs : List Int32, v = some (.ref ki) ∧ h = h0 ∧ Exa Z h ki "com/example/persephone/persephone/lucene/FieldKind" ∧ Fld Z h ki "com/example/persephone/persephone/lucene/FieldKind" "label" "Ljava/lang/String;" (.ref la) ∧ Exa Z h la "java/lang/String" ∧ Fld Z h la "java/lang/String" "value" "[B" (.ref lat) ∧ Fld Z h la "java/lang/String" "coder" "B" (.int 0) ∧ Arv Z h lat lak .byte (Int32.ofNat (lcs).length) (own_sv lcs) (.int 0) ∧ (∀ c ∈ lcs, ¬ c < 0 ∧ ¬ (255 : Int32) < c) ∧ (lcs.length ≤ 7)) := by
  refine own_met (by decide +kernel) #[.val (.int i)] (fun m => by first | (simp [entryFrame, mkF, argsToLocals, Value.category]; done) | rfl) ?_
  intro p e s m below meth c T0 C S0
  refine own_seg C S0 [(0, .iload_n 0, 1)] (by decide +kernel) 1 #[.val (.int i)] [(.int i)] rfl ?_
  refine own_if C S0 (q := .ne) (o := 7) (by decide +kernel) 8 (by decide) (by decide) (fun (q88 : ¬ i = (0 : Int32)) => ?_) (fun (q89 : i = (0 : Int32)) => ?_)
  · refine own_seg C S0 [(8, .iload_n 0, 1), (9, .iconst 1, 1)] (by decide +kernel) 10 #[.val (.int i)] [(.int 1), (.int i)] rfl ?_
    refine own_icmp C S0 (q := .ne) (o := 7) (by decide +kernel) 17 (by decide) (by decide) (fun (q90 : ¬ i = (1 : Int32)) => ?_) (fun (q91 : i = (1 : Int32)) => ?_)
    · refine own_seg C S0 [(17, .iload_n 0, 1), (18, .iconst 2, 1)] (by decide +kernel) 19 #[.val (.int i)] [(.int 2), (.int i)] rfl ?_
      refine own_icmp C S0 (q := .ne) (o := 7) (by decide +kernel) 26 (by decide) (by decide) (fun (q92 : ¬ i = (2 : Int32)) => ?_) (fun (q93 : i = (2 : Int32)) => ?_)
      · refine own_seg C S0 [(26, .iload_n 0, 1), (27, .iconst 3, 1)] (by decide +kernel) 28 #[.val (.int i)] [(.int 3), (.int i)] rfl ?_
        refine own_icmp C S0 (q := .ne) (o := 7) (by decide +kernel) 35 (by decide) (by decide) (fun (q94 : ¬ i = (3 : Int32)) => ?_) (fun (q95 : i = (3 : Int32)) => ?_)
        · refine own_getS C S0 (own_wd hw 125 rfl) Via.refl (Oe.ext X00.2) (by decide +kernel) ?_
          intro T96 S97
          refine own_retA C S97 rfl rfl (by decide +kernel) (by decide) (by decide) ?_
          exact ⟨kde, lse, lset, lsek, own_L4, rfl, rfl, pe1, pe2, pe3, pe4, pe5, pe6, own_Lp4, (by decide)⟩
        · refine own_getS C S0 (own_wd hw 126 rfl) Via.refl (Od.ext X00.2) (by decide +kernel) ?_
          intro T98 S99
          refine own_retA C S99 rfl rfl (by decide +kernel) (by decide) (by decide) ?_
          exact ⟨kdd, lsd, lsdt, lsdk, own_L3, rfl, rfl, pd1, pd2, pd3, pd4, pd5, pd6, own_Lp3, (by decide)⟩
      · refine own_getS C S0 (own_wd hw 127 rfl) Via.refl (Oc.ext X00.2) (by decide +kernel) ?_
        intro T100 S101
        refine own_retA C S101 rfl rfl (by decide +kernel) (by decide) (by decide) ?_
        exact ⟨kdc, lsc, lsct, lsck, own_L2, rfl, rfl, pc1, pc2, pc3, pc4, pc5, pc6, own_Lp2, (by decide)⟩
    · refine own_getS C S0 (own_wd hw 129 rfl) Via.refl (Ob.ext X00.2) (by decide +kernel) ?_
      intro T102 S103
      refine own_retA C S103 rfl rfl (by decide +kernel) (by decide) (by decide) ?_
      exact ⟨kdb, lsb, lsbt, lsbk, own_L1, rfl, rfl, pb1, pb2, pb3, pb4, pb5, pb6, own_Lp1, (by decide)⟩
  · refine own_getS C S0 (own_wd hw 5 rfl) Via.refl (Oa.ext X00.2) (by decide +kernel) ?_
    intro T104 S105
    refine own_retA C S105 rfl rfl (by decide +kernel) (by decide) (by decide) ?_
    exact ⟨kda, lsa, lsat, lsak, own_L0, rfl, rfl, pa1, pa2, pa3, pa4, pa5, pa6, own_Lp0, (by decide)⟩
theorem own_ks (l : Launch) (Z : State) (a0 : Array Value) (hw : ∀ d ∈ tables_1, d.before a0 Z = true) (a : Addr) (y : Addr) (h0 : Heap) (n0 : Nat) (z0 : n0 ≤ h0.size) (pF : Fld Z h0 a "com/example/persephone/persephone/lucene/FieldKind" "label" "Ljava/lang/String;" (.ref y)) :
    own_Met l Z (⟨"com/example/persephone/persephone/lucene/FieldKind", "toString", "()Ljava/lang/String;"⟩ : MethodName) prog_17_method_5_code 1 (some (.object "java/lang/String")) ({ frames := 0, cells := 0, slots := 0, locals := 0 } : Room) n0 #[(.ref a)] h0 (fun v h => v = some (.ref y) ∧ h = h0) := by
  refine own_met (by decide +kernel) #[.val (.ref a)] (fun m => by first | (simp [entryFrame, mkF, argsToLocals, Value.category]; done) | rfl) ?_
  intro p e s m below meth c T0 C S0
  refine own_seg C S0 [(0, .aload_n 0, 1)] (by decide +kernel) 1 #[.val (.ref a)] [(.ref a)] rfl ?_
  refine own_getF C S0 (host := "") (Or.inl (own_wd hw 13 rfl)) Via.refl pF (by decide +kernel) ?_
  intro T106 S107
  refine own_retA C S107 rfl rfl (by decide +kernel) (by decide) (by decide) ?_
  exact ⟨rfl, rfl⟩
theorem own_hln : ∀ d ∈ StrChars.Road.wordsLen, d ∈ tables_1 := by decide +kernel
theorem own_pd1 : parseMethodDescriptor "()I" = some ⟨[], (some .int)⟩ := by decide +kernel
theorem own_hch : ∀ d ∈ StrChars.Road.wordsChN, d ∈ tables_1 := by decide +kernel
theorem own_pd2 : parseMethodDescriptor "(I)C" = some ⟨[.int], (some .char)⟩ := by decide +kernel
theorem own_atc (l : Launch) (Z : State) (a0 : Array Value) (hw : ∀ d ∈ tables_1, d.before a0 Z = true) (G1 : Int32) (G3 : Value) (x : Addr) (xt : Addr) (xk : ClassId) (xcs : List Int32) (k : Nat) (f : Int32) (h0 : Heap) (n0 : Nat) (z0 : n0 ≤ h0.size) (X00 : Old Z n0 h0) (xE : Exa Z h0 x "java/lang/String") (xV : Fld Z h0 x "java/lang/String" "value" "[B" (.ref xt)) (xC : Fld Z h0 x "java/lang/String" "coder" "B" (.int 0)) (xK : Arv Z h0 xt xk .byte (Int32.ofNat (xcs).length) (own_sv xcs) (.int 0)) (O2 : Sta Z Z.heap "java/lang/String" "COMPACT_STRINGS" "Z" (.int G1)) (O4 : Sta Z Z.heap "jdk/internal/util/Preconditions" "SIOOBE_FORMATTER" "Ljava/util/function/BiFunction;" G3) (P5 : ¬ G1 = (0 : Int32)) (rG3 : G3.isRef = true) (xhp : ∀ c ∈ xcs, ¬ c < 0 ∧ ¬ (255 : Int32) < c) (xhl : xcs.length ≤ 7) (hk : k ≤ 7) (hf : own_R f) :
    own_Met l Z (⟨"com/example/persephone/persephone/lucene/FieldKindLabelledPinLaw", "at", "(Ljava/lang/String;IC)C"⟩ : MethodName) method_4_code 3 (some .char) ({ frames := 4, cells := 0, slots := 0, locals := 53 } : Room) n0 #[(.ref x), (.int (Int32.ofNat k)), (.int f)] h0 (fun v h => v = some (.int (own_at xcs k f)) ∧ h = h0) := by
  refine own_met (by decide +kernel) #[.val (.ref x), .val (.int (Int32.ofNat k)), .val (.int f)] (fun m => by first | (simp [entryFrame, mkF, argsToLocals, Value.category]; done) | rfl) ?_
  intro p e s m below meth c T0 C S0
  refine own_seg C S0 [(0, .iload_n 1, 1), (1, .aload_n 0, 1)] (by decide +kernel) 2 #[.val (.ref x), .val (.int (Int32.ofNat k)), .val (.int f)] [(.ref x), (.int (Int32.ofNat k))] rfl ?_
  refine own_callV C S0 (own_wd hw 19 rfl) (own_wd hw 20 rfl) (own_wd hw 22 rfl) (own_wd hw 22 rfl) rfl (own_wd hw 21 rfl) (by decide) (Q := (fun v h' L => v = some (.int (Int32.ofNat (xcs).length)) ∧ L = [] ∧ h' = h0)) (StrChars.Road.lenW (W := 1) C.2.2.2.2.2.2.2 (fun d hd => hw d (own_hln d hd)) (kI := 4) (own_wd hw 61 rfl) xE xV xC xK (own_codG xhp) (own_up _ xhp) (O2.ext X00.2) P5 (Nat.le_trans xhl (by decide)) (by decide) (by decide)) (fun _ _ L q => by rw [q.2.1]; exact Fr.nil _) xE [] [(.int (Int32.ofNat k))] rfl own_pd1 rfl rfl rfl (Nat.le_of_ble_eq_true rfl) (by decide) (by decide) (by decide +kernel) ?_
  rintro T109 h110 v111 L112 S113 ⟨rfl, -, e108⟩
  rw [e108] at S113; clear e108
  show own_Go p e below _ T109 (mkF m 5 #[.val (.ref x), .val (.int (Int32.ofNat k)), .val (.int f)] [(.int (Int32.ofNat (xcs).length)), (.int (Int32.ofNat k))])
  refine own_icmp C S113 (q := .ge) (o := 9) (by decide +kernel) 14 (by decide) (by decide) (fun (q114 : ¬ (Int32.ofNat k) < (Int32.ofNat (xcs).length)) => ?_) (fun (q115 : (Int32.ofNat k) < (Int32.ofNat (xcs).length)) => ?_)
  · refine own_seg C S113 [(14, .iload_n 2, 1)] (by decide +kernel) 15 #[.val (.ref x), .val (.int (Int32.ofNat k)), .val (.int f)] [(.int f)] rfl ?_
    refine own_retC C S113 (by decide +kernel) (own_c16 hf) (by decide) (by decide) ?_
    exact ⟨(by rw [own_at_n (fun q => q114 ((own_ofNat_lt (by omega) (by omega)).mpr q))]), rfl⟩
  · have hlt : k < (xcs).length := (own_ofNat_lt (by omega) (by omega)).mp q115
    refine own_seg C S113 [(8, .aload_n 0, 1), (9, .iload_n 1, 1)] (by decide +kernel) 10 #[.val (.ref x), .val (.int (Int32.ofNat k)), .val (.int f)] [(.int (Int32.ofNat k)), (.ref x)] rfl ?_
    refine own_callV C S113 (own_wd hw 35 rfl) (own_wd hw 36 rfl) (own_wd hw 38 rfl) (own_wd hw 38 rfl) rfl (own_wd hw 37 rfl) (by decide) (Q := (fun v h' L => v = some (.int ((xcs).getD k 0)) ∧ L = [] ∧ h' = h0)) (StrChars.Road.chN (W := 0) C.2.2.2.2.2.2.2 (fun d hd => hw d (own_hch d hd)) (kI := 4) (own_wd hw 61 rfl) xE xV xC xK (own_codG xhp) (own_up _ xhp) (O2.ext X00.2) P5 (O4.ext X00.2) rG3 (Nat.le_trans xhl (by decide)) (i := k) hlt rfl (by decide) (by decide)) (fun _ _ L q => by rw [q.2.1]; exact Fr.nil _) xE [(.int (Int32.ofNat k))] [] rfl own_pd2 rfl rfl rfl (Nat.le_of_ble_eq_true rfl) (by decide) (by decide) (by decide +kernel) ?_
    rintro T117 h118 v119 L120 S121 ⟨rfl, -, e116⟩
    rw [e116] at S121; clear e116
    show own_Go p e below _ T117 (mkF m 13 #[.val (.ref x), .val (.int (Int32.ofNat k)), .val (.int f)] [(.int ((xcs).getD k 0))])
    refine own_retC C S121 (by decide +kernel) (own_c16 (xhp _ (own_getD_mem hlt))) (by decide) (by decide) ?_
    exact ⟨(by rw [own_at_p hlt]), rfl⟩
theorem own_hws : ∀ d ∈ StrChars.Road.words, d ∈ tables_1 := by decide +kernel
theorem own_pd3 : parseMethodDescriptor "([C)V" = some ⟨[(.array .char)], none⟩ := by decide +kernel
theorem own_str (l : Launch) (Z : State) (a0 : Array Value) (hw : ∀ d ∈ tables_1, d.before a0 Z = true) (hEL : EW Z a0 own_EL) (wS : ∀ a ∈ Bundle.stringAtoms, a.before a0 Z = true) (G1 : Int32) (G3 : Value) (a : Addr) (ak : ClassId) (xs : List Int32) (n : Int32) (h0 : Heap) (n0 : Nat) (z0 : n0 ≤ h0.size) (X00 : Old Z n0 h0) (aK : Arv Z h0 a ak .char (8 : Int32) (own_iv xs) (.int 0)) (O2 : Sta Z Z.heap "java/lang/String" "COMPACT_STRINGS" "Z" (.int G1)) (O4 : Sta Z Z.heap "jdk/internal/util/Preconditions" "SIOOBE_FORMATTER" "Ljava/util/function/BiFunction;" G3) (P5 : ¬ G1 = (0 : Int32)) (rG3 : G3.isRef = true) (hx : ∀ c ∈ xs, ¬ c < 0 ∧ ¬ (255 : Int32) < c) (hx8 : xs.length = 8) :
    own_MetW l Z own_EL (⟨"com/example/persephone/persephone/lucene/FieldKindLabelledPinLaw", "str", "([CI)Ljava/lang/String;"⟩ : MethodName) method_5_code 2 (some (.object "java/lang/String")) ({ frames := 4, cells := 6, slots := 20, locals := 66 } : Room) n0 #[(.ref a), (.int n)] h0 [] (fun v h => ∃ r : Addr, ∃ rt : Addr, ∃ rk : ClassId, ∃ rcs : List Int32, v = some (.ref r) ∧ h0.size ≤ r ∧ Keep h0 h [] ∧ Exa Z h r "java/lang/String" ∧ Fld Z h r "java/lang/String" "value" "[B" (.ref rt) ∧ Fld Z h r "java/lang/String" "coder" "B" (.int 0) ∧ Arv Z h rt rk .byte (Int32.ofNat (rcs).length) (own_sv rcs) (.int 0) ∧ (∀ c ∈ rcs, ¬ c < 0 ∧ ¬ (255 : Int32) < c) ∧ (rcs.length ≤ 8)) := by
  refine own_metW hEL wS (by decide +kernel) #[.val (.ref a), .val (.int n)] (fun m => by first | (simp [entryFrame, mkF, argsToLocals, Value.category]; done) | rfl) ?_
  intro p e s m below meth c T0 CW SW0
  refine own_lift CW SW0 ?_
  intro vm122 C S123 rb124
  refine own_seg C S123 [(0, .iload_n 1, 1)] (by decide +kernel) 1 #[.val (.ref a), .val (.int n)] [(.int n)] rfl ?_
  refine own_if C S123 (q := .ne) (o := 14) (by decide +kernel) 15 (by decide) (by decide) (fun (q125 : ¬ n = (0 : Int32)) => ?_) (fun (q126 : n = (0 : Int32)) => ?_)
  · refine own_seg C S123 [(15, .iload_n 1, 1), (16, .iconst 1, 1)] (by decide +kernel) 17 #[.val (.ref a), .val (.int n)] [(.int 1), (.int n)] rfl ?_
    refine own_icmp C S123 (q := .ne) (o := 20) (by decide +kernel) 37 (by decide) (by decide) (fun (q127 : ¬ n = (1 : Int32)) => ?_) (fun (q128 : n = (1 : Int32)) => ?_)
    · refine own_seg C S123 [(37, .iload_n 1, 1), (38, .iconst 2, 1)] (by decide +kernel) 39 #[.val (.ref a), .val (.int n)] [(.int 2), (.int n)] rfl ?_
      refine own_icmp C S123 (q := .ne) (o := 26) (by decide +kernel) 65 (by decide) (by decide) (fun (q129 : ¬ n = (2 : Int32)) => ?_) (fun (q130 : n = (2 : Int32)) => ?_)
      · refine own_seg C S123 [(65, .iload_n 1, 1), (66, .iconst 3, 1)] (by decide +kernel) 67 #[.val (.ref a), .val (.int n)] [(.int 3), (.int n)] rfl ?_
        refine own_icmp C S123 (q := .ne) (o := 32) (by decide +kernel) 99 (by decide) (by decide) (fun (q131 : ¬ n = (3 : Int32)) => ?_) (fun (q132 : n = (3 : Int32)) => ?_)
        · refine own_seg C S123 [(99, .iload_n 1, 1), (100, .iconst 4, 1)] (by decide +kernel) 101 #[.val (.ref a), .val (.int n)] [(.int 4), (.int n)] rfl ?_
          refine own_icmp C S123 (q := .ne) (o := 38) (by decide +kernel) 139 (by decide) (by decide) (fun (q133 : ¬ n = (4 : Int32)) => ?_) (fun (q134 : n = (4 : Int32)) => ?_)
          · refine own_seg C S123 [(139, .iload_n 1, 1), (140, .iconst 5, 1)] (by decide +kernel) 141 #[.val (.ref a), .val (.int n)] [(.int 5), (.int n)] rfl ?_
            refine own_icmp C S123 (q := .ne) (o := 44) (by decide +kernel) 185 (by decide) (by decide) (fun (q135 : ¬ n = (5 : Int32)) => ?_) (fun (q136 : n = (5 : Int32)) => ?_)
            · refine own_seg C S123 [(185, .iload_n 1, 1), (186, .bipush 6, 2)] (by decide +kernel) 188 #[.val (.ref a), .val (.int n)] [(.int 6), (.int n)] rfl ?_
              refine own_icmp C S123 (q := .ne) (o := 51) (by decide +kernel) 239 (by decide) (by decide) (fun (q137 : ¬ n = (6 : Int32)) => ?_) (fun (q138 : n = (6 : Int32)) => ?_)
              · refine own_seg C S123 [(239, .iload_n 1, 1), (240, .bipush 7, 2)] (by decide +kernel) 242 #[.val (.ref a), .val (.int n)] [(.int 7), (.int n)] rfl ?_
                refine own_icmp C S123 (q := .ne) (o := 59) (by decide +kernel) 301 (by decide) (by decide) (fun (q139 : ¬ n = (7 : Int32)) => ?_) (fun (q140 : n = (7 : Int32)) => ?_)
                · refine own_new C S123 (own_wd hw 60 rfl) (own_wd hw 61 rfl) (own_wd hw 23 rfl) (by decide +kernel) (by decide) (by decide) ?_
                  intro T141 h143 a144 S142 g145 E146 x147 D148
                  have f149 : Fld Z h143 a144 "java/lang/String" "value" "[B" .null := D148 (ty := (.array .byte)) (Or.inr (own_wd hw 26 rfl)) own_fd0
                  have f150 : Fld Z h143 a144 "java/lang/String" "coder" "B" (.int 0) := D148 (ty := .byte) (Or.inr (own_wd hw 34 rfl)) own_fd1
                  refine own_seg C S142 [(304, .dup, 1), (305, .bipush 8, 2)] (by decide +kernel) 307 #[.val (.ref a), .val (.int n)] [(.int 8), (.ref a144), (.ref a144)] rfl ?_
                  refine own_newP C S142 (aty := .char) (own_wd hw 15 rfl) (by decide +kernel) (by decide) 8 (by decide) (by decide) (by decide) (by decide) ?_
                  intro T151 h153 a154 k155 S152 g156 E157 f158 
                  have f159 : Arv Z h153 a154 k155 .char (8 : Int32) ([(.int 0), (.int 0), (.int 0), (.int 0), (.int 0), (.int 0), (.int 0), (.int 0)]) (.int 0) := Arv.pad f158 (pad_rep [] (.int 0) 8)
                  refine own_seg C S152 [(309, .dup, 1), (310, .iconst 0, 1), (311, .aload_n 0, 1), (312, .iconst 0, 1)] (by decide +kernel) 313 #[.val (.ref a), .val (.int n)] [(.int 0), (.ref a), (.int 0), (.ref a154), (.ref a154), (.ref a144), (.ref a144)] rfl ?_
                  have f160 := ((aK.ext E146).ext E157)
                  refine own_caload C S152 f160 ⟨(by decide), (by decide)⟩ (.int (xs.getD 0 0)) (own_ivg (i := 0) (by omega)) (by decide +kernel) ?_
                  have f161 : n0 ≤ h143.size := (Nat.le_trans z0 E146.1)
                  have g162 : n0 ≤ a154 := by rw [g156]; exact f161
                  refine own_castore C S152 f159 ⟨(by decide), (by decide)⟩ 0 rfl (Nat.le_of_ble_eq_true rfl) (xs.getD 0 0) (own_c16 (hx _ (own_getD_mem (by omega)))) g162 (by decide +kernel) ?_
                  intro T163 h165 S164 W166 f167
                  have f168 : Arv Z h165 a154 k155 .char (8 : Int32) ([(.int (xs.getD 0 0)), (.int 0), (.int 0), (.int 0), (.int 0), (.int 0), (.int 0), (.int 0)]) (.int 0) := f167
                  refine own_seg C S164 [(315, .dup, 1), (316, .iconst 1, 1), (317, .aload_n 0, 1), (318, .iconst 1, 1)] (by decide +kernel) 319 #[.val (.ref a), .val (.int n)] [(.int 1), (.ref a), (.int 1), (.ref a154), (.ref a154), (.ref a144), (.ref a144)] rfl ?_
                  have f169 : a < h143.size := (Nat.lt_of_lt_of_le aK.lt E146.1)
                  have n170 : a ≠ a154 := by rw [g156]; exact Nat.ne_of_lt f169
                  have f171 := (f160.other W166 n170)
                  refine own_caload C S164 f171 ⟨(by decide), (by decide)⟩ (.int (xs.getD 1 0)) (own_ivg (i := 1) (by omega)) (by decide +kernel) ?_
                  refine own_castore C S164 f168 ⟨(by decide), (by decide)⟩ 1 rfl (Nat.le_of_ble_eq_true rfl) (xs.getD 1 0) (own_c16 (hx _ (own_getD_mem (by omega)))) g162 (by decide +kernel) ?_
                  intro T172 h174 S173 W175 f176
                  have f177 : Arv Z h174 a154 k155 .char (8 : Int32) ([(.int (xs.getD 0 0)), (.int (xs.getD 1 0)), (.int 0), (.int 0), (.int 0), (.int 0), (.int 0), (.int 0)]) (.int 0) := f176
                  refine own_seg C S173 [(321, .dup, 1), (322, .iconst 2, 1), (323, .aload_n 0, 1), (324, .iconst 2, 1)] (by decide +kernel) 325 #[.val (.ref a), .val (.int n)] [(.int 2), (.ref a), (.int 2), (.ref a154), (.ref a154), (.ref a144), (.ref a144)] rfl ?_
                  have f178 := (f171.other W175 n170)
                  refine own_caload C S173 f178 ⟨(by decide), (by decide)⟩ (.int (xs.getD 2 0)) (own_ivg (i := 2) (by omega)) (by decide +kernel) ?_
                  refine own_castore C S173 f177 ⟨(by decide), (by decide)⟩ 2 rfl (Nat.le_of_ble_eq_true rfl) (xs.getD 2 0) (own_c16 (hx _ (own_getD_mem (by omega)))) g162 (by decide +kernel) ?_
                  intro T179 h181 S180 W182 f183
                  have f184 : Arv Z h181 a154 k155 .char (8 : Int32) ([(.int (xs.getD 0 0)), (.int (xs.getD 1 0)), (.int (xs.getD 2 0)), (.int 0), (.int 0), (.int 0), (.int 0), (.int 0)]) (.int 0) := f183
                  refine own_seg C S180 [(327, .dup, 1), (328, .iconst 3, 1), (329, .aload_n 0, 1), (330, .iconst 3, 1)] (by decide +kernel) 331 #[.val (.ref a), .val (.int n)] [(.int 3), (.ref a), (.int 3), (.ref a154), (.ref a154), (.ref a144), (.ref a144)] rfl ?_
                  have f185 := (f178.other W182 n170)
                  refine own_caload C S180 f185 ⟨(by decide), (by decide)⟩ (.int (xs.getD 3 0)) (own_ivg (i := 3) (by omega)) (by decide +kernel) ?_
                  refine own_castore C S180 f184 ⟨(by decide), (by decide)⟩ 3 rfl (Nat.le_of_ble_eq_true rfl) (xs.getD 3 0) (own_c16 (hx _ (own_getD_mem (by omega)))) g162 (by decide +kernel) ?_
                  intro T186 h188 S187 W189 f190
                  have f191 : Arv Z h188 a154 k155 .char (8 : Int32) ([(.int (xs.getD 0 0)), (.int (xs.getD 1 0)), (.int (xs.getD 2 0)), (.int (xs.getD 3 0)), (.int 0), (.int 0), (.int 0), (.int 0)]) (.int 0) := f190
                  refine own_seg C S187 [(333, .dup, 1), (334, .iconst 4, 1), (335, .aload_n 0, 1), (336, .iconst 4, 1)] (by decide +kernel) 337 #[.val (.ref a), .val (.int n)] [(.int 4), (.ref a), (.int 4), (.ref a154), (.ref a154), (.ref a144), (.ref a144)] rfl ?_
                  have f192 := (f185.other W189 n170)
                  refine own_caload C S187 f192 ⟨(by decide), (by decide)⟩ (.int (xs.getD 4 0)) (own_ivg (i := 4) (by omega)) (by decide +kernel) ?_
                  refine own_castore C S187 f191 ⟨(by decide), (by decide)⟩ 4 rfl (Nat.le_of_ble_eq_true rfl) (xs.getD 4 0) (own_c16 (hx _ (own_getD_mem (by omega)))) g162 (by decide +kernel) ?_
                  intro T193 h195 S194 W196 f197
                  have f198 : Arv Z h195 a154 k155 .char (8 : Int32) ([(.int (xs.getD 0 0)), (.int (xs.getD 1 0)), (.int (xs.getD 2 0)), (.int (xs.getD 3 0)), (.int (xs.getD 4 0)), (.int 0), (.int 0), (.int 0)]) (.int 0) := f197
                  refine own_seg C S194 [(339, .dup, 1), (340, .iconst 5, 1), (341, .aload_n 0, 1), (342, .iconst 5, 1)] (by decide +kernel) 343 #[.val (.ref a), .val (.int n)] [(.int 5), (.ref a), (.int 5), (.ref a154), (.ref a154), (.ref a144), (.ref a144)] rfl ?_
                  have f199 := (f192.other W196 n170)
                  refine own_caload C S194 f199 ⟨(by decide), (by decide)⟩ (.int (xs.getD 5 0)) (own_ivg (i := 5) (by omega)) (by decide +kernel) ?_
                  refine own_castore C S194 f198 ⟨(by decide), (by decide)⟩ 5 rfl (Nat.le_of_ble_eq_true rfl) (xs.getD 5 0) (own_c16 (hx _ (own_getD_mem (by omega)))) g162 (by decide +kernel) ?_
                  intro T200 h202 S201 W203 f204
                  have f205 : Arv Z h202 a154 k155 .char (8 : Int32) ([(.int (xs.getD 0 0)), (.int (xs.getD 1 0)), (.int (xs.getD 2 0)), (.int (xs.getD 3 0)), (.int (xs.getD 4 0)), (.int (xs.getD 5 0)), (.int 0), (.int 0)]) (.int 0) := f204
                  refine own_seg C S201 [(345, .dup, 1), (346, .bipush 6, 2), (348, .aload_n 0, 1), (349, .bipush 6, 2)] (by decide +kernel) 351 #[.val (.ref a), .val (.int n)] [(.int 6), (.ref a), (.int 6), (.ref a154), (.ref a154), (.ref a144), (.ref a144)] rfl ?_
                  have f206 := (f199.other W203 n170)
                  refine own_caload C S201 f206 ⟨(by decide), (by decide)⟩ (.int (xs.getD 6 0)) (own_ivg (i := 6) (by omega)) (by decide +kernel) ?_
                  refine own_castore C S201 f205 ⟨(by decide), (by decide)⟩ 6 rfl (Nat.le_of_ble_eq_true rfl) (xs.getD 6 0) (own_c16 (hx _ (own_getD_mem (by omega)))) g162 (by decide +kernel) ?_
                  intro T207 h209 S208 W210 f211
                  have f212 : Arv Z h209 a154 k155 .char (8 : Int32) ([(.int (xs.getD 0 0)), (.int (xs.getD 1 0)), (.int (xs.getD 2 0)), (.int (xs.getD 3 0)), (.int (xs.getD 4 0)), (.int (xs.getD 5 0)), (.int (xs.getD 6 0)), (.int 0)]) (.int 0) := f211
                  refine own_seg C S208 [(353, .dup, 1), (354, .bipush 7, 2), (356, .aload_n 0, 1), (357, .bipush 7, 2)] (by decide +kernel) 359 #[.val (.ref a), .val (.int n)] [(.int 7), (.ref a), (.int 7), (.ref a154), (.ref a154), (.ref a144), (.ref a144)] rfl ?_
                  have f213 := (f206.other W210 n170)
                  refine own_caload C S208 f213 ⟨(by decide), (by decide)⟩ (.int (xs.getD 7 0)) (own_ivg (i := 7) (by omega)) (by decide +kernel) ?_
                  refine own_castore C S208 f212 ⟨(by decide), (by decide)⟩ 7 rfl (Nat.le_of_ble_eq_true rfl) (xs.getD 7 0) (own_c16 (hx _ (own_getD_mem (by omega)))) g162 (by decide +kernel) ?_
                  intro T214 h216 S215 W217 f218
                  have f219 : Arv Z h216 a154 k155 .char (8 : Int32) ([(.int (xs.getD 0 0)), (.int (xs.getD 1 0)), (.int (xs.getD 2 0)), (.int (xs.getD 3 0)), (.int (xs.getD 4 0)), (.int (xs.getD 5 0)), (.int (xs.getD 6 0)), (.int (xs.getD 7 0))]) (.int 0) := f218
                  have hp220 : ∀ c ∈ ([(xs.getD 0 0), (xs.getD 1 0), (xs.getD 2 0), (xs.getD 3 0), (xs.getD 4 0), (xs.getD 5 0), (xs.getD 6 0), (xs.getD 7 0)] : List Int32), ¬ c < 0 ∧ ¬ (255 : Int32) < c := by
                    intro c hc; simp only [List.mem_cons, List.not_mem_nil, or_false] at hc
                    rcases hc with rfl | rfl | rfl | rfl | rfl | rfl | rfl | rfl
                    · exact (hx _ (own_getD_mem (by omega)))
                    · exact (hx _ (own_getD_mem (by omega)))
                    · exact (hx _ (own_getD_mem (by omega)))
                    · exact (hx _ (own_getD_mem (by omega)))
                    · exact (hx _ (own_getD_mem (by omega)))
                    · exact (hx _ (own_getD_mem (by omega)))
                    · exact (hx _ (own_getD_mem (by omega)))
                    · exact (hx _ (own_getD_mem (by omega)))
                  have f221 : n0 ≤ h216.size := (by rw [W217.size]; exact (by rw [W210.size]; exact (by rw [W203.size]; exact (by rw [W196.size]; exact (by rw [W189.size]; exact (by rw [W182.size]; exact (by rw [W175.size]; exact (by rw [W166.size]; exact (Nat.le_trans f161 E157.1)))))))))
                  have g222 : n0 ≤ a144 := by rw [g145]; exact z0
                  have f223 := (Exa.wr W217 (Exa.wr W210 (Exa.wr W203 (Exa.wr W196 (Exa.wr W189 (Exa.wr W182 (Exa.wr W175 (Exa.wr W166 (Exa.ext E157 x147)))))))))
                  have n224 : a144 ≠ a154 := by rw [g156]; exact Nat.ne_of_lt x147.lt
                  have f225 := (Fld.other W217 (Fld.other W210 (Fld.other W203 (Fld.other W196 (Fld.other W189 (Fld.other W182 (Fld.other W175 (Fld.other W166 (Fld.ext E157 f149) (Or.inl n224)) (Or.inl n224)) (Or.inl n224)) (Or.inl n224)) (Or.inl n224)) (Or.inl n224)) (Or.inl n224)) (Or.inl n224))
                  have f226 := (Fld.other W217 (Fld.other W210 (Fld.other W203 (Fld.other W196 (Fld.other W189 (Fld.other W182 (Fld.other W175 (Fld.other W166 (Fld.ext E157 f150) (Or.inl n224)) (Or.inl n224)) (Or.inl n224)) (Or.inl n224)) (Or.inl n224)) (Or.inl n224)) (Or.inl n224)) (Or.inl n224))
                  have f227 := ((((((((((X00.ext E146).ext E157).wr W166 g162).wr W175 g162).wr W182 g162).wr W189 g162).wr W196 g162).wr W203 g162).wr W210 g162).wr W217 g162)
                  refine own_callI C S215 rfl (own_wd hw 62 rfl) (own_wd hw 63 rfl) (own_wd hw 64 rfl) (by decide) (StrChars.Road.backV (W := 1) C.2.2.2.2.2.2.2 (fun d hd => hw d (own_hws d hd)) (kI := 4) (own_wd hw 61 rfl) (cs := ([(xs.getD 0 0), (xs.getD 1 0), (xs.getD 2 0), (xs.getD 3 0), (xs.getD 4 0), (xs.getD 5 0), (xs.getD 6 0), (xs.getD 7 0)] : List Int32)) (bs := (([(xs.getD 0 0), (xs.getD 1 0), (xs.getD 2 0), (xs.getD 3 0), (xs.getD 4 0), (xs.getD 5 0), (xs.getD 6 0), (xs.getD 7 0)] : List Int32)).map (fun c => c.toInt8.toInt32)) (n := 8) g222 f221 f223 f225 f226 f219 (O2.ext f227.2) P5 rfl rfl (by decide) (by decide) hp220 rfl (by decide) (by decide)) (fun _ _ _ q => q.2.1) [(.ref a154)] [(.ref a144)] rfl own_pd3 rfl rfl rfl (Nat.le_of_ble_eq_true rfl) (by decide) (by decide) (by decide +kernel) ?_
                  rintro T238 h239 v240 L241 S242 ⟨rfl, -, K228, x229, f230, t231, k232, g233, g234, g235, f236, f237⟩
                  have f243 : Arv Z h239 t231 k232 .byte (8 : Int32) ([(.int ((xs.getD 0 0).toInt8.toInt32)), (.int ((xs.getD 1 0).toInt8.toInt32)), (.int ((xs.getD 2 0).toInt8.toInt32)), (.int ((xs.getD 3 0).toInt8.toInt32)), (.int ((xs.getD 4 0).toInt8.toInt32)), (.int ((xs.getD 5 0).toInt8.toInt32)), (.int ((xs.getD 6 0).toInt8.toInt32)), (.int ((xs.getD 7 0).toInt8.toInt32))]) (.int 0) := f237
                  have hcd244 : StrChars.Road.CodA ([(xs.getD 0 0), (xs.getD 1 0), (xs.getD 2 0), (xs.getD 3 0), (xs.getD 4 0), (xs.getD 5 0), (xs.getD 6 0), (xs.getD 7 0)] : List Int32) 0 (8 : Int32) [(.int ((xs.getD 0 0).toInt8.toInt32)), (.int ((xs.getD 1 0).toInt8.toInt32)), (.int ((xs.getD 2 0).toInt8.toInt32)), (.int ((xs.getD 3 0).toInt8.toInt32)), (.int ((xs.getD 4 0).toInt8.toInt32)), (.int ((xs.getD 5 0).toInt8.toInt32)), (.int ((xs.getD 6 0).toInt8.toInt32)), (.int ((xs.getD 7 0).toInt8.toInt32))] := StrChars.Road.codOf (cs := ([(xs.getD 0 0), (xs.getD 1 0), (xs.getD 2 0), (xs.getD 3 0), (xs.getD 4 0), (xs.getD 5 0), (xs.getD 6 0), (xs.getD 7 0)] : List Int32)) (n := 8) rfl (fun c hc => (hp220 c hc).2)
                  show own_Go p e below _ T238 (mkF m 364 #[.val (.ref a), .val (.int n)] [(.ref a144)])
                  have o246 : h0.size ≤ h143.size := (Nat.le_trans (Nat.le_refl _) E146.1)
                  have o245 : h0.size ≤ a154 := by rw [g156]; exact o246
                  have o247 : h0.size ≤ a144 := by rw [g145]; exact (Nat.le_refl _)
                  have o249 : h0.size ≤ h216.size := (by rw [W217.size]; exact (by rw [W210.size]; exact (by rw [W203.size]; exact (by rw [W196.size]; exact (by rw [W189.size]; exact (by rw [W182.size]; exact (by rw [W175.size]; exact (by rw [W166.size]; exact (Nat.le_trans o246 E157.1)))))))))
                  have o248 : h0.size ≤ t231 := Nat.le_trans o249 g234
                  have f250 : a154 < h239.size := (Nat.lt_of_lt_of_le (by rw [W217.size]; exact (by rw [W210.size]; exact (by rw [W203.size]; exact (by rw [W196.size]; exact (by rw [W189.size]; exact (by rw [W182.size]; exact (by rw [W175.size]; exact (by rw [W166.size]; exact f159.lt)))))))) K228.1)
                  have f251 : a144 < h239.size := (Nat.lt_of_lt_of_le (by rw [W217.size]; exact (by rw [W210.size]; exact (by rw [W203.size]; exact (by rw [W196.size]; exact (by rw [W189.size]; exact (by rw [W182.size]; exact (by rw [W175.size]; exact (by rw [W166.size]; exact (Nat.lt_of_lt_of_le x147.lt E157.1))))))))) K228.1)
                  have SW252 := rb124 _ _ _ _ [] [a144, a154, t231] S242 ((((((((((((Keep.refl _ _).ext E146).ext E157).wr W166 (Or.inr o245)).wr W175 (Or.inr o245)).wr W182 (Or.inr o245)).wr W189 (Or.inr o245)).wr W196 (Or.inr o245)).wr W203 (Or.inr o245)).wr W210 (Or.inr o245)).wr W217 (Or.inr o245)).trans K228 (allS (Or.inr o247) all0)) all0 (allS ⟨o247, f251⟩ (allS ⟨o245, f250⟩ (allS ⟨o248, f243.lt⟩ all0)))
                  refine own_retAW CW SW252 rfl rfl (by decide +kernel) (by decide) (by decide) ?_
                  exact ⟨a144, t231, k232, ([(xs.getD 0 0), (xs.getD 1 0), (xs.getD 2 0), (xs.getD 3 0), (xs.getD 4 0), (xs.getD 5 0), (xs.getD 6 0), (xs.getD 7 0)] : List Int32), rfl, o247, ((((((((((((Keep.refl _ _).ext E146).ext E157).wr W166 (Or.inr o245)).wr W175 (Or.inr o245)).wr W182 (Or.inr o245)).wr W189 (Or.inr o245)).wr W196 (Or.inr o245)).wr W203 (Or.inr o245)).wr W210 (Or.inr o245)).wr W217 (Or.inr o245)).trans K228 (allS (Or.inr o247) all0)), x229, f236, f230, f243, hp220, (Nat.le_of_ble_eq_true rfl)⟩
                · refine own_new C S123 (own_wd hw 60 rfl) (own_wd hw 61 rfl) (own_wd hw 23 rfl) (by decide +kernel) (by decide) (by decide) ?_
                  intro T253 h255 a256 S254 g257 E258 x259 D260
                  have f261 : Fld Z h255 a256 "java/lang/String" "value" "[B" .null := D260 (ty := (.array .byte)) (Or.inr (own_wd hw 26 rfl)) own_fd0
                  have f262 : Fld Z h255 a256 "java/lang/String" "coder" "B" (.int 0) := D260 (ty := .byte) (Or.inr (own_wd hw 34 rfl)) own_fd1
                  refine own_seg C S254 [(248, .dup, 1), (249, .bipush 7, 2)] (by decide +kernel) 251 #[.val (.ref a), .val (.int n)] [(.int 7), (.ref a256), (.ref a256)] rfl ?_
                  refine own_newP C S254 (aty := .char) (own_wd hw 15 rfl) (by decide +kernel) (by decide) 7 (by decide) (by decide) (by decide) (by decide) ?_
                  intro T263 h265 a266 k267 S264 g268 E269 f270 
                  have f271 : Arv Z h265 a266 k267 .char (7 : Int32) ([(.int 0), (.int 0), (.int 0), (.int 0), (.int 0), (.int 0), (.int 0)]) (.int 0) := Arv.pad f270 (pad_rep [] (.int 0) 7)
                  refine own_seg C S264 [(253, .dup, 1), (254, .iconst 0, 1), (255, .aload_n 0, 1), (256, .iconst 0, 1)] (by decide +kernel) 257 #[.val (.ref a), .val (.int n)] [(.int 0), (.ref a), (.int 0), (.ref a266), (.ref a266), (.ref a256), (.ref a256)] rfl ?_
                  have f272 := ((aK.ext E258).ext E269)
                  refine own_caload C S264 f272 ⟨(by decide), (by decide)⟩ (.int (xs.getD 0 0)) (own_ivg (i := 0) (by omega)) (by decide +kernel) ?_
                  have f273 : n0 ≤ h255.size := (Nat.le_trans z0 E258.1)
                  have g274 : n0 ≤ a266 := by rw [g268]; exact f273
                  refine own_castore C S264 f271 ⟨(by decide), (by decide)⟩ 0 rfl (Nat.le_of_ble_eq_true rfl) (xs.getD 0 0) (own_c16 (hx _ (own_getD_mem (by omega)))) g274 (by decide +kernel) ?_
                  intro T275 h277 S276 W278 f279
                  have f280 : Arv Z h277 a266 k267 .char (7 : Int32) ([(.int (xs.getD 0 0)), (.int 0), (.int 0), (.int 0), (.int 0), (.int 0), (.int 0)]) (.int 0) := f279
                  refine own_seg C S276 [(259, .dup, 1), (260, .iconst 1, 1), (261, .aload_n 0, 1), (262, .iconst 1, 1)] (by decide +kernel) 263 #[.val (.ref a), .val (.int n)] [(.int 1), (.ref a), (.int 1), (.ref a266), (.ref a266), (.ref a256), (.ref a256)] rfl ?_
                  have f281 : a < h255.size := (Nat.lt_of_lt_of_le aK.lt E258.1)
                  have n282 : a ≠ a266 := by rw [g268]; exact Nat.ne_of_lt f281
                  have f283 := (f272.other W278 n282)
                  refine own_caload C S276 f283 ⟨(by decide), (by decide)⟩ (.int (xs.getD 1 0)) (own_ivg (i := 1) (by omega)) (by decide +kernel) ?_
                  refine own_castore C S276 f280 ⟨(by decide), (by decide)⟩ 1 rfl (Nat.le_of_ble_eq_true rfl) (xs.getD 1 0) (own_c16 (hx _ (own_getD_mem (by omega)))) g274 (by decide +kernel) ?_
                  intro T284 h286 S285 W287 f288
                  have f289 : Arv Z h286 a266 k267 .char (7 : Int32) ([(.int (xs.getD 0 0)), (.int (xs.getD 1 0)), (.int 0), (.int 0), (.int 0), (.int 0), (.int 0)]) (.int 0) := f288
                  refine own_seg C S285 [(265, .dup, 1), (266, .iconst 2, 1), (267, .aload_n 0, 1), (268, .iconst 2, 1)] (by decide +kernel) 269 #[.val (.ref a), .val (.int n)] [(.int 2), (.ref a), (.int 2), (.ref a266), (.ref a266), (.ref a256), (.ref a256)] rfl ?_
                  have f290 := (f283.other W287 n282)
                  refine own_caload C S285 f290 ⟨(by decide), (by decide)⟩ (.int (xs.getD 2 0)) (own_ivg (i := 2) (by omega)) (by decide +kernel) ?_
                  refine own_castore C S285 f289 ⟨(by decide), (by decide)⟩ 2 rfl (Nat.le_of_ble_eq_true rfl) (xs.getD 2 0) (own_c16 (hx _ (own_getD_mem (by omega)))) g274 (by decide +kernel) ?_
                  intro T291 h293 S292 W294 f295
                  have f296 : Arv Z h293 a266 k267 .char (7 : Int32) ([(.int (xs.getD 0 0)), (.int (xs.getD 1 0)), (.int (xs.getD 2 0)), (.int 0), (.int 0), (.int 0), (.int 0)]) (.int 0) := f295
                  refine own_seg C S292 [(271, .dup, 1), (272, .iconst 3, 1), (273, .aload_n 0, 1), (274, .iconst 3, 1)] (by decide +kernel) 275 #[.val (.ref a), .val (.int n)] [(.int 3), (.ref a), (.int 3), (.ref a266), (.ref a266), (.ref a256), (.ref a256)] rfl ?_
                  have f297 := (f290.other W294 n282)
                  refine own_caload C S292 f297 ⟨(by decide), (by decide)⟩ (.int (xs.getD 3 0)) (own_ivg (i := 3) (by omega)) (by decide +kernel) ?_
                  refine own_castore C S292 f296 ⟨(by decide), (by decide)⟩ 3 rfl (Nat.le_of_ble_eq_true rfl) (xs.getD 3 0) (own_c16 (hx _ (own_getD_mem (by omega)))) g274 (by decide +kernel) ?_
                  intro T298 h300 S299 W301 f302
                  have f303 : Arv Z h300 a266 k267 .char (7 : Int32) ([(.int (xs.getD 0 0)), (.int (xs.getD 1 0)), (.int (xs.getD 2 0)), (.int (xs.getD 3 0)), (.int 0), (.int 0), (.int 0)]) (.int 0) := f302
                  refine own_seg C S299 [(277, .dup, 1), (278, .iconst 4, 1), (279, .aload_n 0, 1), (280, .iconst 4, 1)] (by decide +kernel) 281 #[.val (.ref a), .val (.int n)] [(.int 4), (.ref a), (.int 4), (.ref a266), (.ref a266), (.ref a256), (.ref a256)] rfl ?_
                  have f304 := (f297.other W301 n282)
                  refine own_caload C S299 f304 ⟨(by decide), (by decide)⟩ (.int (xs.getD 4 0)) (own_ivg (i := 4) (by omega)) (by decide +kernel) ?_
                  refine own_castore C S299 f303 ⟨(by decide), (by decide)⟩ 4 rfl (Nat.le_of_ble_eq_true rfl) (xs.getD 4 0) (own_c16 (hx _ (own_getD_mem (by omega)))) g274 (by decide +kernel) ?_
                  intro T305 h307 S306 W308 f309
                  have f310 : Arv Z h307 a266 k267 .char (7 : Int32) ([(.int (xs.getD 0 0)), (.int (xs.getD 1 0)), (.int (xs.getD 2 0)), (.int (xs.getD 3 0)), (.int (xs.getD 4 0)), (.int 0), (.int 0)]) (.int 0) := f309
                  refine own_seg C S306 [(283, .dup, 1), (284, .iconst 5, 1), (285, .aload_n 0, 1), (286, .iconst 5, 1)] (by decide +kernel) 287 #[.val (.ref a), .val (.int n)] [(.int 5), (.ref a), (.int 5), (.ref a266), (.ref a266), (.ref a256), (.ref a256)] rfl ?_
                  have f311 := (f304.other W308 n282)
                  refine own_caload C S306 f311 ⟨(by decide), (by decide)⟩ (.int (xs.getD 5 0)) (own_ivg (i := 5) (by omega)) (by decide +kernel) ?_
                  refine own_castore C S306 f310 ⟨(by decide), (by decide)⟩ 5 rfl (Nat.le_of_ble_eq_true rfl) (xs.getD 5 0) (own_c16 (hx _ (own_getD_mem (by omega)))) g274 (by decide +kernel) ?_
                  intro T312 h314 S313 W315 f316
                  have f317 : Arv Z h314 a266 k267 .char (7 : Int32) ([(.int (xs.getD 0 0)), (.int (xs.getD 1 0)), (.int (xs.getD 2 0)), (.int (xs.getD 3 0)), (.int (xs.getD 4 0)), (.int (xs.getD 5 0)), (.int 0)]) (.int 0) := f316
                  refine own_seg C S313 [(289, .dup, 1), (290, .bipush 6, 2), (292, .aload_n 0, 1), (293, .bipush 6, 2)] (by decide +kernel) 295 #[.val (.ref a), .val (.int n)] [(.int 6), (.ref a), (.int 6), (.ref a266), (.ref a266), (.ref a256), (.ref a256)] rfl ?_
                  have f318 := (f311.other W315 n282)
                  refine own_caload C S313 f318 ⟨(by decide), (by decide)⟩ (.int (xs.getD 6 0)) (own_ivg (i := 6) (by omega)) (by decide +kernel) ?_
                  refine own_castore C S313 f317 ⟨(by decide), (by decide)⟩ 6 rfl (Nat.le_of_ble_eq_true rfl) (xs.getD 6 0) (own_c16 (hx _ (own_getD_mem (by omega)))) g274 (by decide +kernel) ?_
                  intro T319 h321 S320 W322 f323
                  have f324 : Arv Z h321 a266 k267 .char (7 : Int32) ([(.int (xs.getD 0 0)), (.int (xs.getD 1 0)), (.int (xs.getD 2 0)), (.int (xs.getD 3 0)), (.int (xs.getD 4 0)), (.int (xs.getD 5 0)), (.int (xs.getD 6 0))]) (.int 0) := f323
                  have hp325 : ∀ c ∈ ([(xs.getD 0 0), (xs.getD 1 0), (xs.getD 2 0), (xs.getD 3 0), (xs.getD 4 0), (xs.getD 5 0), (xs.getD 6 0)] : List Int32), ¬ c < 0 ∧ ¬ (255 : Int32) < c := by
                    intro c hc; simp only [List.mem_cons, List.not_mem_nil, or_false] at hc
                    rcases hc with rfl | rfl | rfl | rfl | rfl | rfl | rfl
                    · exact (hx _ (own_getD_mem (by omega)))
                    · exact (hx _ (own_getD_mem (by omega)))
                    · exact (hx _ (own_getD_mem (by omega)))
                    · exact (hx _ (own_getD_mem (by omega)))
                    · exact (hx _ (own_getD_mem (by omega)))
                    · exact (hx _ (own_getD_mem (by omega)))
                    · exact (hx _ (own_getD_mem (by omega)))
                  have f326 : n0 ≤ h321.size := (by rw [W322.size]; exact (by rw [W315.size]; exact (by rw [W308.size]; exact (by rw [W301.size]; exact (by rw [W294.size]; exact (by rw [W287.size]; exact (by rw [W278.size]; exact (Nat.le_trans f273 E269.1))))))))
                  have g327 : n0 ≤ a256 := by rw [g257]; exact z0
                  have f328 := (Exa.wr W322 (Exa.wr W315 (Exa.wr W308 (Exa.wr W301 (Exa.wr W294 (Exa.wr W287 (Exa.wr W278 (Exa.ext E269 x259))))))))
                  have n329 : a256 ≠ a266 := by rw [g268]; exact Nat.ne_of_lt x259.lt
                  have f330 := (Fld.other W322 (Fld.other W315 (Fld.other W308 (Fld.other W301 (Fld.other W294 (Fld.other W287 (Fld.other W278 (Fld.ext E269 f261) (Or.inl n329)) (Or.inl n329)) (Or.inl n329)) (Or.inl n329)) (Or.inl n329)) (Or.inl n329)) (Or.inl n329))
                  have f331 := (Fld.other W322 (Fld.other W315 (Fld.other W308 (Fld.other W301 (Fld.other W294 (Fld.other W287 (Fld.other W278 (Fld.ext E269 f262) (Or.inl n329)) (Or.inl n329)) (Or.inl n329)) (Or.inl n329)) (Or.inl n329)) (Or.inl n329)) (Or.inl n329))
                  have f332 := (((((((((X00.ext E258).ext E269).wr W278 g274).wr W287 g274).wr W294 g274).wr W301 g274).wr W308 g274).wr W315 g274).wr W322 g274)
                  refine own_callI C S320 rfl (own_wd hw 62 rfl) (own_wd hw 63 rfl) (own_wd hw 64 rfl) (by decide) (StrChars.Road.backV (W := 1) C.2.2.2.2.2.2.2 (fun d hd => hw d (own_hws d hd)) (kI := 4) (own_wd hw 61 rfl) (cs := ([(xs.getD 0 0), (xs.getD 1 0), (xs.getD 2 0), (xs.getD 3 0), (xs.getD 4 0), (xs.getD 5 0), (xs.getD 6 0)] : List Int32)) (bs := (([(xs.getD 0 0), (xs.getD 1 0), (xs.getD 2 0), (xs.getD 3 0), (xs.getD 4 0), (xs.getD 5 0), (xs.getD 6 0)] : List Int32)).map (fun c => c.toInt8.toInt32)) (n := 7) g327 f326 f328 f330 f331 f324 (O2.ext f332.2) P5 rfl rfl (by decide) (by decide) hp325 rfl (by decide) (by decide)) (fun _ _ _ q => q.2.1) [(.ref a266)] [(.ref a256)] rfl own_pd3 rfl rfl rfl (Nat.le_of_ble_eq_true rfl) (by decide) (by decide) (by decide +kernel) ?_
                  rintro T343 h344 v345 L346 S347 ⟨rfl, -, K333, x334, f335, t336, k337, g338, g339, g340, f341, f342⟩
                  have f348 : Arv Z h344 t336 k337 .byte (7 : Int32) ([(.int ((xs.getD 0 0).toInt8.toInt32)), (.int ((xs.getD 1 0).toInt8.toInt32)), (.int ((xs.getD 2 0).toInt8.toInt32)), (.int ((xs.getD 3 0).toInt8.toInt32)), (.int ((xs.getD 4 0).toInt8.toInt32)), (.int ((xs.getD 5 0).toInt8.toInt32)), (.int ((xs.getD 6 0).toInt8.toInt32))]) (.int 0) := f342
                  have hcd349 : StrChars.Road.CodA ([(xs.getD 0 0), (xs.getD 1 0), (xs.getD 2 0), (xs.getD 3 0), (xs.getD 4 0), (xs.getD 5 0), (xs.getD 6 0)] : List Int32) 0 (7 : Int32) [(.int ((xs.getD 0 0).toInt8.toInt32)), (.int ((xs.getD 1 0).toInt8.toInt32)), (.int ((xs.getD 2 0).toInt8.toInt32)), (.int ((xs.getD 3 0).toInt8.toInt32)), (.int ((xs.getD 4 0).toInt8.toInt32)), (.int ((xs.getD 5 0).toInt8.toInt32)), (.int ((xs.getD 6 0).toInt8.toInt32))] := StrChars.Road.codOf (cs := ([(xs.getD 0 0), (xs.getD 1 0), (xs.getD 2 0), (xs.getD 3 0), (xs.getD 4 0), (xs.getD 5 0), (xs.getD 6 0)] : List Int32)) (n := 7) rfl (fun c hc => (hp325 c hc).2)
                  show own_Go p e below _ T343 (mkF m 300 #[.val (.ref a), .val (.int n)] [(.ref a256)])
                  have o351 : h0.size ≤ h255.size := (Nat.le_trans (Nat.le_refl _) E258.1)
                  have o350 : h0.size ≤ a266 := by rw [g268]; exact o351
                  have o352 : h0.size ≤ a256 := by rw [g257]; exact (Nat.le_refl _)
                  have o354 : h0.size ≤ h321.size := (by rw [W322.size]; exact (by rw [W315.size]; exact (by rw [W308.size]; exact (by rw [W301.size]; exact (by rw [W294.size]; exact (by rw [W287.size]; exact (by rw [W278.size]; exact (Nat.le_trans o351 E269.1))))))))
                  have o353 : h0.size ≤ t336 := Nat.le_trans o354 g339
                  have f355 : a266 < h344.size := (Nat.lt_of_lt_of_le (by rw [W322.size]; exact (by rw [W315.size]; exact (by rw [W308.size]; exact (by rw [W301.size]; exact (by rw [W294.size]; exact (by rw [W287.size]; exact (by rw [W278.size]; exact f271.lt))))))) K333.1)
                  have f356 : a256 < h344.size := (Nat.lt_of_lt_of_le (by rw [W322.size]; exact (by rw [W315.size]; exact (by rw [W308.size]; exact (by rw [W301.size]; exact (by rw [W294.size]; exact (by rw [W287.size]; exact (by rw [W278.size]; exact (Nat.lt_of_lt_of_le x259.lt E269.1)))))))) K333.1)
                  have SW357 := rb124 _ _ _ _ [] [a256, a266, t336] S347 (((((((((((Keep.refl _ _).ext E258).ext E269).wr W278 (Or.inr o350)).wr W287 (Or.inr o350)).wr W294 (Or.inr o350)).wr W301 (Or.inr o350)).wr W308 (Or.inr o350)).wr W315 (Or.inr o350)).wr W322 (Or.inr o350)).trans K333 (allS (Or.inr o352) all0)) all0 (allS ⟨o352, f356⟩ (allS ⟨o350, f355⟩ (allS ⟨o353, f348.lt⟩ all0)))
                  refine own_retAW CW SW357 rfl rfl (by decide +kernel) (by decide) (by decide) ?_
                  exact ⟨a256, t336, k337, ([(xs.getD 0 0), (xs.getD 1 0), (xs.getD 2 0), (xs.getD 3 0), (xs.getD 4 0), (xs.getD 5 0), (xs.getD 6 0)] : List Int32), rfl, o352, (((((((((((Keep.refl _ _).ext E258).ext E269).wr W278 (Or.inr o350)).wr W287 (Or.inr o350)).wr W294 (Or.inr o350)).wr W301 (Or.inr o350)).wr W308 (Or.inr o350)).wr W315 (Or.inr o350)).wr W322 (Or.inr o350)).trans K333 (allS (Or.inr o352) all0)), x334, f341, f335, f348, hp325, (Nat.le_of_ble_eq_true rfl)⟩
              · refine own_new C S123 (own_wd hw 60 rfl) (own_wd hw 61 rfl) (own_wd hw 23 rfl) (by decide +kernel) (by decide) (by decide) ?_
                intro T358 h360 a361 S359 g362 E363 x364 D365
                have f366 : Fld Z h360 a361 "java/lang/String" "value" "[B" .null := D365 (ty := (.array .byte)) (Or.inr (own_wd hw 26 rfl)) own_fd0
                have f367 : Fld Z h360 a361 "java/lang/String" "coder" "B" (.int 0) := D365 (ty := .byte) (Or.inr (own_wd hw 34 rfl)) own_fd1
                refine own_seg C S359 [(194, .dup, 1), (195, .bipush 6, 2)] (by decide +kernel) 197 #[.val (.ref a), .val (.int n)] [(.int 6), (.ref a361), (.ref a361)] rfl ?_
                refine own_newP C S359 (aty := .char) (own_wd hw 15 rfl) (by decide +kernel) (by decide) 6 (by decide) (by decide) (by decide) (by decide) ?_
                intro T368 h370 a371 k372 S369 g373 E374 f375 
                have f376 : Arv Z h370 a371 k372 .char (6 : Int32) ([(.int 0), (.int 0), (.int 0), (.int 0), (.int 0), (.int 0)]) (.int 0) := Arv.pad f375 (pad_rep [] (.int 0) 6)
                refine own_seg C S369 [(199, .dup, 1), (200, .iconst 0, 1), (201, .aload_n 0, 1), (202, .iconst 0, 1)] (by decide +kernel) 203 #[.val (.ref a), .val (.int n)] [(.int 0), (.ref a), (.int 0), (.ref a371), (.ref a371), (.ref a361), (.ref a361)] rfl ?_
                have f377 := ((aK.ext E363).ext E374)
                refine own_caload C S369 f377 ⟨(by decide), (by decide)⟩ (.int (xs.getD 0 0)) (own_ivg (i := 0) (by omega)) (by decide +kernel) ?_
                have f378 : n0 ≤ h360.size := (Nat.le_trans z0 E363.1)
                have g379 : n0 ≤ a371 := by rw [g373]; exact f378
                refine own_castore C S369 f376 ⟨(by decide), (by decide)⟩ 0 rfl (Nat.le_of_ble_eq_true rfl) (xs.getD 0 0) (own_c16 (hx _ (own_getD_mem (by omega)))) g379 (by decide +kernel) ?_
                intro T380 h382 S381 W383 f384
                have f385 : Arv Z h382 a371 k372 .char (6 : Int32) ([(.int (xs.getD 0 0)), (.int 0), (.int 0), (.int 0), (.int 0), (.int 0)]) (.int 0) := f384
                refine own_seg C S381 [(205, .dup, 1), (206, .iconst 1, 1), (207, .aload_n 0, 1), (208, .iconst 1, 1)] (by decide +kernel) 209 #[.val (.ref a), .val (.int n)] [(.int 1), (.ref a), (.int 1), (.ref a371), (.ref a371), (.ref a361), (.ref a361)] rfl ?_
                have f386 : a < h360.size := (Nat.lt_of_lt_of_le aK.lt E363.1)
                have n387 : a ≠ a371 := by rw [g373]; exact Nat.ne_of_lt f386
                have f388 := (f377.other W383 n387)
                refine own_caload C S381 f388 ⟨(by decide), (by decide)⟩ (.int (xs.getD 1 0)) (own_ivg (i := 1) (by omega)) (by decide +kernel) ?_
                refine own_castore C S381 f385 ⟨(by decide), (by decide)⟩ 1 rfl (Nat.le_of_ble_eq_true rfl) (xs.getD 1 0) (own_c16 (hx _ (own_getD_mem (by omega)))) g379 (by decide +kernel) ?_
                intro T389 h391 S390 W392 f393
                have f394 : Arv Z h391 a371 k372 .char (6 : Int32) ([(.int (xs.getD 0 0)), (.int (xs.getD 1 0)), (.int 0), (.int 0), (.int 0), (.int 0)]) (.int 0) := f393
                refine own_seg C S390 [(211, .dup, 1), (212, .iconst 2, 1), (213, .aload_n 0, 1), (214, .iconst 2, 1)] (by decide +kernel) 215 #[.val (.ref a), .val (.int n)] [(.int 2), (.ref a), (.int 2), (.ref a371), (.ref a371), (.ref a361), (.ref a361)] rfl ?_
                have f395 := (f388.other W392 n387)
                refine own_caload C S390 f395 ⟨(by decide), (by decide)⟩ (.int (xs.getD 2 0)) (own_ivg (i := 2) (by omega)) (by decide +kernel) ?_
                refine own_castore C S390 f394 ⟨(by decide), (by decide)⟩ 2 rfl (Nat.le_of_ble_eq_true rfl) (xs.getD 2 0) (own_c16 (hx _ (own_getD_mem (by omega)))) g379 (by decide +kernel) ?_
                intro T396 h398 S397 W399 f400
                have f401 : Arv Z h398 a371 k372 .char (6 : Int32) ([(.int (xs.getD 0 0)), (.int (xs.getD 1 0)), (.int (xs.getD 2 0)), (.int 0), (.int 0), (.int 0)]) (.int 0) := f400
                refine own_seg C S397 [(217, .dup, 1), (218, .iconst 3, 1), (219, .aload_n 0, 1), (220, .iconst 3, 1)] (by decide +kernel) 221 #[.val (.ref a), .val (.int n)] [(.int 3), (.ref a), (.int 3), (.ref a371), (.ref a371), (.ref a361), (.ref a361)] rfl ?_
                have f402 := (f395.other W399 n387)
                refine own_caload C S397 f402 ⟨(by decide), (by decide)⟩ (.int (xs.getD 3 0)) (own_ivg (i := 3) (by omega)) (by decide +kernel) ?_
                refine own_castore C S397 f401 ⟨(by decide), (by decide)⟩ 3 rfl (Nat.le_of_ble_eq_true rfl) (xs.getD 3 0) (own_c16 (hx _ (own_getD_mem (by omega)))) g379 (by decide +kernel) ?_
                intro T403 h405 S404 W406 f407
                have f408 : Arv Z h405 a371 k372 .char (6 : Int32) ([(.int (xs.getD 0 0)), (.int (xs.getD 1 0)), (.int (xs.getD 2 0)), (.int (xs.getD 3 0)), (.int 0), (.int 0)]) (.int 0) := f407
                refine own_seg C S404 [(223, .dup, 1), (224, .iconst 4, 1), (225, .aload_n 0, 1), (226, .iconst 4, 1)] (by decide +kernel) 227 #[.val (.ref a), .val (.int n)] [(.int 4), (.ref a), (.int 4), (.ref a371), (.ref a371), (.ref a361), (.ref a361)] rfl ?_
                have f409 := (f402.other W406 n387)
                refine own_caload C S404 f409 ⟨(by decide), (by decide)⟩ (.int (xs.getD 4 0)) (own_ivg (i := 4) (by omega)) (by decide +kernel) ?_
                refine own_castore C S404 f408 ⟨(by decide), (by decide)⟩ 4 rfl (Nat.le_of_ble_eq_true rfl) (xs.getD 4 0) (own_c16 (hx _ (own_getD_mem (by omega)))) g379 (by decide +kernel) ?_
                intro T410 h412 S411 W413 f414
                have f415 : Arv Z h412 a371 k372 .char (6 : Int32) ([(.int (xs.getD 0 0)), (.int (xs.getD 1 0)), (.int (xs.getD 2 0)), (.int (xs.getD 3 0)), (.int (xs.getD 4 0)), (.int 0)]) (.int 0) := f414
                refine own_seg C S411 [(229, .dup, 1), (230, .iconst 5, 1), (231, .aload_n 0, 1), (232, .iconst 5, 1)] (by decide +kernel) 233 #[.val (.ref a), .val (.int n)] [(.int 5), (.ref a), (.int 5), (.ref a371), (.ref a371), (.ref a361), (.ref a361)] rfl ?_
                have f416 := (f409.other W413 n387)
                refine own_caload C S411 f416 ⟨(by decide), (by decide)⟩ (.int (xs.getD 5 0)) (own_ivg (i := 5) (by omega)) (by decide +kernel) ?_
                refine own_castore C S411 f415 ⟨(by decide), (by decide)⟩ 5 rfl (Nat.le_of_ble_eq_true rfl) (xs.getD 5 0) (own_c16 (hx _ (own_getD_mem (by omega)))) g379 (by decide +kernel) ?_
                intro T417 h419 S418 W420 f421
                have f422 : Arv Z h419 a371 k372 .char (6 : Int32) ([(.int (xs.getD 0 0)), (.int (xs.getD 1 0)), (.int (xs.getD 2 0)), (.int (xs.getD 3 0)), (.int (xs.getD 4 0)), (.int (xs.getD 5 0))]) (.int 0) := f421
                have hp423 : ∀ c ∈ ([(xs.getD 0 0), (xs.getD 1 0), (xs.getD 2 0), (xs.getD 3 0), (xs.getD 4 0), (xs.getD 5 0)] : List Int32), ¬ c < 0 ∧ ¬ (255 : Int32) < c := by
                  intro c hc; simp only [List.mem_cons, List.not_mem_nil, or_false] at hc
                  rcases hc with rfl | rfl | rfl | rfl | rfl | rfl
                  · exact (hx _ (own_getD_mem (by omega)))
                  · exact (hx _ (own_getD_mem (by omega)))
                  · exact (hx _ (own_getD_mem (by omega)))
                  · exact (hx _ (own_getD_mem (by omega)))
                  · exact (hx _ (own_getD_mem (by omega)))
                  · exact (hx _ (own_getD_mem (by omega)))
                have f424 : n0 ≤ h419.size := (by rw [W420.size]; exact (by rw [W413.size]; exact (by rw [W406.size]; exact (by rw [W399.size]; exact (by rw [W392.size]; exact (by rw [W383.size]; exact (Nat.le_trans f378 E374.1)))))))
                have g425 : n0 ≤ a361 := by rw [g362]; exact z0
                have f426 := (Exa.wr W420 (Exa.wr W413 (Exa.wr W406 (Exa.wr W399 (Exa.wr W392 (Exa.wr W383 (Exa.ext E374 x364)))))))
                have n427 : a361 ≠ a371 := by rw [g373]; exact Nat.ne_of_lt x364.lt
                have f428 := (Fld.other W420 (Fld.other W413 (Fld.other W406 (Fld.other W399 (Fld.other W392 (Fld.other W383 (Fld.ext E374 f366) (Or.inl n427)) (Or.inl n427)) (Or.inl n427)) (Or.inl n427)) (Or.inl n427)) (Or.inl n427))
                have f429 := (Fld.other W420 (Fld.other W413 (Fld.other W406 (Fld.other W399 (Fld.other W392 (Fld.other W383 (Fld.ext E374 f367) (Or.inl n427)) (Or.inl n427)) (Or.inl n427)) (Or.inl n427)) (Or.inl n427)) (Or.inl n427))
                have f430 := ((((((((X00.ext E363).ext E374).wr W383 g379).wr W392 g379).wr W399 g379).wr W406 g379).wr W413 g379).wr W420 g379)
                refine own_callI C S418 rfl (own_wd hw 62 rfl) (own_wd hw 63 rfl) (own_wd hw 64 rfl) (by decide) (StrChars.Road.backV (W := 1) C.2.2.2.2.2.2.2 (fun d hd => hw d (own_hws d hd)) (kI := 4) (own_wd hw 61 rfl) (cs := ([(xs.getD 0 0), (xs.getD 1 0), (xs.getD 2 0), (xs.getD 3 0), (xs.getD 4 0), (xs.getD 5 0)] : List Int32)) (bs := (([(xs.getD 0 0), (xs.getD 1 0), (xs.getD 2 0), (xs.getD 3 0), (xs.getD 4 0), (xs.getD 5 0)] : List Int32)).map (fun c => c.toInt8.toInt32)) (n := 6) g425 f424 f426 f428 f429 f422 (O2.ext f430.2) P5 rfl rfl (by decide) (by decide) hp423 rfl (by decide) (by decide)) (fun _ _ _ q => q.2.1) [(.ref a371)] [(.ref a361)] rfl own_pd3 rfl rfl rfl (Nat.le_of_ble_eq_true rfl) (by decide) (by decide) (by decide +kernel) ?_
                rintro T441 h442 v443 L444 S445 ⟨rfl, -, K431, x432, f433, t434, k435, g436, g437, g438, f439, f440⟩
                have f446 : Arv Z h442 t434 k435 .byte (6 : Int32) ([(.int ((xs.getD 0 0).toInt8.toInt32)), (.int ((xs.getD 1 0).toInt8.toInt32)), (.int ((xs.getD 2 0).toInt8.toInt32)), (.int ((xs.getD 3 0).toInt8.toInt32)), (.int ((xs.getD 4 0).toInt8.toInt32)), (.int ((xs.getD 5 0).toInt8.toInt32))]) (.int 0) := f440
                have hcd447 : StrChars.Road.CodA ([(xs.getD 0 0), (xs.getD 1 0), (xs.getD 2 0), (xs.getD 3 0), (xs.getD 4 0), (xs.getD 5 0)] : List Int32) 0 (6 : Int32) [(.int ((xs.getD 0 0).toInt8.toInt32)), (.int ((xs.getD 1 0).toInt8.toInt32)), (.int ((xs.getD 2 0).toInt8.toInt32)), (.int ((xs.getD 3 0).toInt8.toInt32)), (.int ((xs.getD 4 0).toInt8.toInt32)), (.int ((xs.getD 5 0).toInt8.toInt32))] := StrChars.Road.codOf (cs := ([(xs.getD 0 0), (xs.getD 1 0), (xs.getD 2 0), (xs.getD 3 0), (xs.getD 4 0), (xs.getD 5 0)] : List Int32)) (n := 6) rfl (fun c hc => (hp423 c hc).2)
                show own_Go p e below _ T441 (mkF m 238 #[.val (.ref a), .val (.int n)] [(.ref a361)])
                have o449 : h0.size ≤ h360.size := (Nat.le_trans (Nat.le_refl _) E363.1)
                have o448 : h0.size ≤ a371 := by rw [g373]; exact o449
                have o450 : h0.size ≤ a361 := by rw [g362]; exact (Nat.le_refl _)
                have o452 : h0.size ≤ h419.size := (by rw [W420.size]; exact (by rw [W413.size]; exact (by rw [W406.size]; exact (by rw [W399.size]; exact (by rw [W392.size]; exact (by rw [W383.size]; exact (Nat.le_trans o449 E374.1)))))))
                have o451 : h0.size ≤ t434 := Nat.le_trans o452 g437
                have f453 : a371 < h442.size := (Nat.lt_of_lt_of_le (by rw [W420.size]; exact (by rw [W413.size]; exact (by rw [W406.size]; exact (by rw [W399.size]; exact (by rw [W392.size]; exact (by rw [W383.size]; exact f376.lt)))))) K431.1)
                have f454 : a361 < h442.size := (Nat.lt_of_lt_of_le (by rw [W420.size]; exact (by rw [W413.size]; exact (by rw [W406.size]; exact (by rw [W399.size]; exact (by rw [W392.size]; exact (by rw [W383.size]; exact (Nat.lt_of_lt_of_le x364.lt E374.1))))))) K431.1)
                have SW455 := rb124 _ _ _ _ [] [a361, a371, t434] S445 ((((((((((Keep.refl _ _).ext E363).ext E374).wr W383 (Or.inr o448)).wr W392 (Or.inr o448)).wr W399 (Or.inr o448)).wr W406 (Or.inr o448)).wr W413 (Or.inr o448)).wr W420 (Or.inr o448)).trans K431 (allS (Or.inr o450) all0)) all0 (allS ⟨o450, f454⟩ (allS ⟨o448, f453⟩ (allS ⟨o451, f446.lt⟩ all0)))
                refine own_retAW CW SW455 rfl rfl (by decide +kernel) (by decide) (by decide) ?_
                exact ⟨a361, t434, k435, ([(xs.getD 0 0), (xs.getD 1 0), (xs.getD 2 0), (xs.getD 3 0), (xs.getD 4 0), (xs.getD 5 0)] : List Int32), rfl, o450, ((((((((((Keep.refl _ _).ext E363).ext E374).wr W383 (Or.inr o448)).wr W392 (Or.inr o448)).wr W399 (Or.inr o448)).wr W406 (Or.inr o448)).wr W413 (Or.inr o448)).wr W420 (Or.inr o448)).trans K431 (allS (Or.inr o450) all0)), x432, f439, f433, f446, hp423, (Nat.le_of_ble_eq_true rfl)⟩
            · refine own_new C S123 (own_wd hw 60 rfl) (own_wd hw 61 rfl) (own_wd hw 23 rfl) (by decide +kernel) (by decide) (by decide) ?_
              intro T456 h458 a459 S457 g460 E461 x462 D463
              have f464 : Fld Z h458 a459 "java/lang/String" "value" "[B" .null := D463 (ty := (.array .byte)) (Or.inr (own_wd hw 26 rfl)) own_fd0
              have f465 : Fld Z h458 a459 "java/lang/String" "coder" "B" (.int 0) := D463 (ty := .byte) (Or.inr (own_wd hw 34 rfl)) own_fd1
              refine own_seg C S457 [(147, .dup, 1), (148, .iconst 5, 1)] (by decide +kernel) 149 #[.val (.ref a), .val (.int n)] [(.int 5), (.ref a459), (.ref a459)] rfl ?_
              refine own_newP C S457 (aty := .char) (own_wd hw 15 rfl) (by decide +kernel) (by decide) 5 (by decide) (by decide) (by decide) (by decide) ?_
              intro T466 h468 a469 k470 S467 g471 E472 f473 
              have f474 : Arv Z h468 a469 k470 .char (5 : Int32) ([(.int 0), (.int 0), (.int 0), (.int 0), (.int 0)]) (.int 0) := Arv.pad f473 (pad_rep [] (.int 0) 5)
              refine own_seg C S467 [(151, .dup, 1), (152, .iconst 0, 1), (153, .aload_n 0, 1), (154, .iconst 0, 1)] (by decide +kernel) 155 #[.val (.ref a), .val (.int n)] [(.int 0), (.ref a), (.int 0), (.ref a469), (.ref a469), (.ref a459), (.ref a459)] rfl ?_
              have f475 := ((aK.ext E461).ext E472)
              refine own_caload C S467 f475 ⟨(by decide), (by decide)⟩ (.int (xs.getD 0 0)) (own_ivg (i := 0) (by omega)) (by decide +kernel) ?_
              have f476 : n0 ≤ h458.size := (Nat.le_trans z0 E461.1)
              have g477 : n0 ≤ a469 := by rw [g471]; exact f476
              refine own_castore C S467 f474 ⟨(by decide), (by decide)⟩ 0 rfl (Nat.le_of_ble_eq_true rfl) (xs.getD 0 0) (own_c16 (hx _ (own_getD_mem (by omega)))) g477 (by decide +kernel) ?_
              intro T478 h480 S479 W481 f482
              have f483 : Arv Z h480 a469 k470 .char (5 : Int32) ([(.int (xs.getD 0 0)), (.int 0), (.int 0), (.int 0), (.int 0)]) (.int 0) := f482
              refine own_seg C S479 [(157, .dup, 1), (158, .iconst 1, 1), (159, .aload_n 0, 1), (160, .iconst 1, 1)] (by decide +kernel) 161 #[.val (.ref a), .val (.int n)] [(.int 1), (.ref a), (.int 1), (.ref a469), (.ref a469), (.ref a459), (.ref a459)] rfl ?_
              have f484 : a < h458.size := (Nat.lt_of_lt_of_le aK.lt E461.1)
              have n485 : a ≠ a469 := by rw [g471]; exact Nat.ne_of_lt f484
              have f486 := (f475.other W481 n485)
              refine own_caload C S479 f486 ⟨(by decide), (by decide)⟩ (.int (xs.getD 1 0)) (own_ivg (i := 1) (by omega)) (by decide +kernel) ?_
              refine own_castore C S479 f483 ⟨(by decide), (by decide)⟩ 1 rfl (Nat.le_of_ble_eq_true rfl) (xs.getD 1 0) (own_c16 (hx _ (own_getD_mem (by omega)))) g477 (by decide +kernel) ?_
              intro T487 h489 S488 W490 f491
              have f492 : Arv Z h489 a469 k470 .char (5 : Int32) ([(.int (xs.getD 0 0)), (.int (xs.getD 1 0)), (.int 0), (.int 0), (.int 0)]) (.int 0) := f491
              refine own_seg C S488 [(163, .dup, 1), (164, .iconst 2, 1), (165, .aload_n 0, 1), (166, .iconst 2, 1)] (by decide +kernel) 167 #[.val (.ref a), .val (.int n)] [(.int 2), (.ref a), (.int 2), (.ref a469), (.ref a469), (.ref a459), (.ref a459)] rfl ?_
              have f493 := (f486.other W490 n485)
              refine own_caload C S488 f493 ⟨(by decide), (by decide)⟩ (.int (xs.getD 2 0)) (own_ivg (i := 2) (by omega)) (by decide +kernel) ?_
              refine own_castore C S488 f492 ⟨(by decide), (by decide)⟩ 2 rfl (Nat.le_of_ble_eq_true rfl) (xs.getD 2 0) (own_c16 (hx _ (own_getD_mem (by omega)))) g477 (by decide +kernel) ?_
              intro T494 h496 S495 W497 f498
              have f499 : Arv Z h496 a469 k470 .char (5 : Int32) ([(.int (xs.getD 0 0)), (.int (xs.getD 1 0)), (.int (xs.getD 2 0)), (.int 0), (.int 0)]) (.int 0) := f498
              refine own_seg C S495 [(169, .dup, 1), (170, .iconst 3, 1), (171, .aload_n 0, 1), (172, .iconst 3, 1)] (by decide +kernel) 173 #[.val (.ref a), .val (.int n)] [(.int 3), (.ref a), (.int 3), (.ref a469), (.ref a469), (.ref a459), (.ref a459)] rfl ?_
              have f500 := (f493.other W497 n485)
              refine own_caload C S495 f500 ⟨(by decide), (by decide)⟩ (.int (xs.getD 3 0)) (own_ivg (i := 3) (by omega)) (by decide +kernel) ?_
              refine own_castore C S495 f499 ⟨(by decide), (by decide)⟩ 3 rfl (Nat.le_of_ble_eq_true rfl) (xs.getD 3 0) (own_c16 (hx _ (own_getD_mem (by omega)))) g477 (by decide +kernel) ?_
              intro T501 h503 S502 W504 f505
              have f506 : Arv Z h503 a469 k470 .char (5 : Int32) ([(.int (xs.getD 0 0)), (.int (xs.getD 1 0)), (.int (xs.getD 2 0)), (.int (xs.getD 3 0)), (.int 0)]) (.int 0) := f505
              refine own_seg C S502 [(175, .dup, 1), (176, .iconst 4, 1), (177, .aload_n 0, 1), (178, .iconst 4, 1)] (by decide +kernel) 179 #[.val (.ref a), .val (.int n)] [(.int 4), (.ref a), (.int 4), (.ref a469), (.ref a469), (.ref a459), (.ref a459)] rfl ?_
              have f507 := (f500.other W504 n485)
              refine own_caload C S502 f507 ⟨(by decide), (by decide)⟩ (.int (xs.getD 4 0)) (own_ivg (i := 4) (by omega)) (by decide +kernel) ?_
              refine own_castore C S502 f506 ⟨(by decide), (by decide)⟩ 4 rfl (Nat.le_of_ble_eq_true rfl) (xs.getD 4 0) (own_c16 (hx _ (own_getD_mem (by omega)))) g477 (by decide +kernel) ?_
              intro T508 h510 S509 W511 f512
              have f513 : Arv Z h510 a469 k470 .char (5 : Int32) ([(.int (xs.getD 0 0)), (.int (xs.getD 1 0)), (.int (xs.getD 2 0)), (.int (xs.getD 3 0)), (.int (xs.getD 4 0))]) (.int 0) := f512
              have hp514 : ∀ c ∈ ([(xs.getD 0 0), (xs.getD 1 0), (xs.getD 2 0), (xs.getD 3 0), (xs.getD 4 0)] : List Int32), ¬ c < 0 ∧ ¬ (255 : Int32) < c := by
                intro c hc; simp only [List.mem_cons, List.not_mem_nil, or_false] at hc
                rcases hc with rfl | rfl | rfl | rfl | rfl
                · exact (hx _ (own_getD_mem (by omega)))
                · exact (hx _ (own_getD_mem (by omega)))
                · exact (hx _ (own_getD_mem (by omega)))
                · exact (hx _ (own_getD_mem (by omega)))
                · exact (hx _ (own_getD_mem (by omega)))
              have f515 : n0 ≤ h510.size := (by rw [W511.size]; exact (by rw [W504.size]; exact (by rw [W497.size]; exact (by rw [W490.size]; exact (by rw [W481.size]; exact (Nat.le_trans f476 E472.1))))))
              have g516 : n0 ≤ a459 := by rw [g460]; exact z0
              have f517 := (Exa.wr W511 (Exa.wr W504 (Exa.wr W497 (Exa.wr W490 (Exa.wr W481 (Exa.ext E472 x462))))))
              have n518 : a459 ≠ a469 := by rw [g471]; exact Nat.ne_of_lt x462.lt
              have f519 := (Fld.other W511 (Fld.other W504 (Fld.other W497 (Fld.other W490 (Fld.other W481 (Fld.ext E472 f464) (Or.inl n518)) (Or.inl n518)) (Or.inl n518)) (Or.inl n518)) (Or.inl n518))
              have f520 := (Fld.other W511 (Fld.other W504 (Fld.other W497 (Fld.other W490 (Fld.other W481 (Fld.ext E472 f465) (Or.inl n518)) (Or.inl n518)) (Or.inl n518)) (Or.inl n518)) (Or.inl n518))
              have f521 := (((((((X00.ext E461).ext E472).wr W481 g477).wr W490 g477).wr W497 g477).wr W504 g477).wr W511 g477)
              refine own_callI C S509 rfl (own_wd hw 62 rfl) (own_wd hw 63 rfl) (own_wd hw 64 rfl) (by decide) (StrChars.Road.backV (W := 1) C.2.2.2.2.2.2.2 (fun d hd => hw d (own_hws d hd)) (kI := 4) (own_wd hw 61 rfl) (cs := ([(xs.getD 0 0), (xs.getD 1 0), (xs.getD 2 0), (xs.getD 3 0), (xs.getD 4 0)] : List Int32)) (bs := (([(xs.getD 0 0), (xs.getD 1 0), (xs.getD 2 0), (xs.getD 3 0), (xs.getD 4 0)] : List Int32)).map (fun c => c.toInt8.toInt32)) (n := 5) g516 f515 f517 f519 f520 f513 (O2.ext f521.2) P5 rfl rfl (by decide) (by decide) hp514 rfl (by decide) (by decide)) (fun _ _ _ q => q.2.1) [(.ref a469)] [(.ref a459)] rfl own_pd3 rfl rfl rfl (Nat.le_of_ble_eq_true rfl) (by decide) (by decide) (by decide +kernel) ?_
              rintro T532 h533 v534 L535 S536 ⟨rfl, -, K522, x523, f524, t525, k526, g527, g528, g529, f530, f531⟩
              have f537 : Arv Z h533 t525 k526 .byte (5 : Int32) ([(.int ((xs.getD 0 0).toInt8.toInt32)), (.int ((xs.getD 1 0).toInt8.toInt32)), (.int ((xs.getD 2 0).toInt8.toInt32)), (.int ((xs.getD 3 0).toInt8.toInt32)), (.int ((xs.getD 4 0).toInt8.toInt32))]) (.int 0) := f531
              have hcd538 : StrChars.Road.CodA ([(xs.getD 0 0), (xs.getD 1 0), (xs.getD 2 0), (xs.getD 3 0), (xs.getD 4 0)] : List Int32) 0 (5 : Int32) [(.int ((xs.getD 0 0).toInt8.toInt32)), (.int ((xs.getD 1 0).toInt8.toInt32)), (.int ((xs.getD 2 0).toInt8.toInt32)), (.int ((xs.getD 3 0).toInt8.toInt32)), (.int ((xs.getD 4 0).toInt8.toInt32))] := StrChars.Road.codOf (cs := ([(xs.getD 0 0), (xs.getD 1 0), (xs.getD 2 0), (xs.getD 3 0), (xs.getD 4 0)] : List Int32)) (n := 5) rfl (fun c hc => (hp514 c hc).2)
              show own_Go p e below _ T532 (mkF m 184 #[.val (.ref a), .val (.int n)] [(.ref a459)])
              have o540 : h0.size ≤ h458.size := (Nat.le_trans (Nat.le_refl _) E461.1)
              have o539 : h0.size ≤ a469 := by rw [g471]; exact o540
              have o541 : h0.size ≤ a459 := by rw [g460]; exact (Nat.le_refl _)
              have o543 : h0.size ≤ h510.size := (by rw [W511.size]; exact (by rw [W504.size]; exact (by rw [W497.size]; exact (by rw [W490.size]; exact (by rw [W481.size]; exact (Nat.le_trans o540 E472.1))))))
              have o542 : h0.size ≤ t525 := Nat.le_trans o543 g528
              have f544 : a469 < h533.size := (Nat.lt_of_lt_of_le (by rw [W511.size]; exact (by rw [W504.size]; exact (by rw [W497.size]; exact (by rw [W490.size]; exact (by rw [W481.size]; exact f474.lt))))) K522.1)
              have f545 : a459 < h533.size := (Nat.lt_of_lt_of_le (by rw [W511.size]; exact (by rw [W504.size]; exact (by rw [W497.size]; exact (by rw [W490.size]; exact (by rw [W481.size]; exact (Nat.lt_of_lt_of_le x462.lt E472.1)))))) K522.1)
              have SW546 := rb124 _ _ _ _ [] [a459, a469, t525] S536 (((((((((Keep.refl _ _).ext E461).ext E472).wr W481 (Or.inr o539)).wr W490 (Or.inr o539)).wr W497 (Or.inr o539)).wr W504 (Or.inr o539)).wr W511 (Or.inr o539)).trans K522 (allS (Or.inr o541) all0)) all0 (allS ⟨o541, f545⟩ (allS ⟨o539, f544⟩ (allS ⟨o542, f537.lt⟩ all0)))
              refine own_retAW CW SW546 rfl rfl (by decide +kernel) (by decide) (by decide) ?_
              exact ⟨a459, t525, k526, ([(xs.getD 0 0), (xs.getD 1 0), (xs.getD 2 0), (xs.getD 3 0), (xs.getD 4 0)] : List Int32), rfl, o541, (((((((((Keep.refl _ _).ext E461).ext E472).wr W481 (Or.inr o539)).wr W490 (Or.inr o539)).wr W497 (Or.inr o539)).wr W504 (Or.inr o539)).wr W511 (Or.inr o539)).trans K522 (allS (Or.inr o541) all0)), x523, f530, f524, f537, hp514, (Nat.le_of_ble_eq_true rfl)⟩
          · refine own_new C S123 (own_wd hw 60 rfl) (own_wd hw 61 rfl) (own_wd hw 23 rfl) (by decide +kernel) (by decide) (by decide) ?_
            intro T547 h549 a550 S548 g551 E552 x553 D554
            have f555 : Fld Z h549 a550 "java/lang/String" "value" "[B" .null := D554 (ty := (.array .byte)) (Or.inr (own_wd hw 26 rfl)) own_fd0
            have f556 : Fld Z h549 a550 "java/lang/String" "coder" "B" (.int 0) := D554 (ty := .byte) (Or.inr (own_wd hw 34 rfl)) own_fd1
            refine own_seg C S548 [(107, .dup, 1), (108, .iconst 4, 1)] (by decide +kernel) 109 #[.val (.ref a), .val (.int n)] [(.int 4), (.ref a550), (.ref a550)] rfl ?_
            refine own_newP C S548 (aty := .char) (own_wd hw 15 rfl) (by decide +kernel) (by decide) 4 (by decide) (by decide) (by decide) (by decide) ?_
            intro T557 h559 a560 k561 S558 g562 E563 f564 
            have f565 : Arv Z h559 a560 k561 .char (4 : Int32) ([(.int 0), (.int 0), (.int 0), (.int 0)]) (.int 0) := Arv.pad f564 (pad_rep [] (.int 0) 4)
            refine own_seg C S558 [(111, .dup, 1), (112, .iconst 0, 1), (113, .aload_n 0, 1), (114, .iconst 0, 1)] (by decide +kernel) 115 #[.val (.ref a), .val (.int n)] [(.int 0), (.ref a), (.int 0), (.ref a560), (.ref a560), (.ref a550), (.ref a550)] rfl ?_
            have f566 := ((aK.ext E552).ext E563)
            refine own_caload C S558 f566 ⟨(by decide), (by decide)⟩ (.int (xs.getD 0 0)) (own_ivg (i := 0) (by omega)) (by decide +kernel) ?_
            have f567 : n0 ≤ h549.size := (Nat.le_trans z0 E552.1)
            have g568 : n0 ≤ a560 := by rw [g562]; exact f567
            refine own_castore C S558 f565 ⟨(by decide), (by decide)⟩ 0 rfl (Nat.le_of_ble_eq_true rfl) (xs.getD 0 0) (own_c16 (hx _ (own_getD_mem (by omega)))) g568 (by decide +kernel) ?_
            intro T569 h571 S570 W572 f573
            have f574 : Arv Z h571 a560 k561 .char (4 : Int32) ([(.int (xs.getD 0 0)), (.int 0), (.int 0), (.int 0)]) (.int 0) := f573
            refine own_seg C S570 [(117, .dup, 1), (118, .iconst 1, 1), (119, .aload_n 0, 1), (120, .iconst 1, 1)] (by decide +kernel) 121 #[.val (.ref a), .val (.int n)] [(.int 1), (.ref a), (.int 1), (.ref a560), (.ref a560), (.ref a550), (.ref a550)] rfl ?_
            have f575 : a < h549.size := (Nat.lt_of_lt_of_le aK.lt E552.1)
            have n576 : a ≠ a560 := by rw [g562]; exact Nat.ne_of_lt f575
            have f577 := (f566.other W572 n576)
            refine own_caload C S570 f577 ⟨(by decide), (by decide)⟩ (.int (xs.getD 1 0)) (own_ivg (i := 1) (by omega)) (by decide +kernel) ?_
            refine own_castore C S570 f574 ⟨(by decide), (by decide)⟩ 1 rfl (Nat.le_of_ble_eq_true rfl) (xs.getD 1 0) (own_c16 (hx _ (own_getD_mem (by omega)))) g568 (by decide +kernel) ?_
            intro T578 h580 S579 W581 f582
            have f583 : Arv Z h580 a560 k561 .char (4 : Int32) ([(.int (xs.getD 0 0)), (.int (xs.getD 1 0)), (.int 0), (.int 0)]) (.int 0) := f582
            refine own_seg C S579 [(123, .dup, 1), (124, .iconst 2, 1), (125, .aload_n 0, 1), (126, .iconst 2, 1)] (by decide +kernel) 127 #[.val (.ref a), .val (.int n)] [(.int 2), (.ref a), (.int 2), (.ref a560), (.ref a560), (.ref a550), (.ref a550)] rfl ?_
            have f584 := (f577.other W581 n576)
            refine own_caload C S579 f584 ⟨(by decide), (by decide)⟩ (.int (xs.getD 2 0)) (own_ivg (i := 2) (by omega)) (by decide +kernel) ?_
            refine own_castore C S579 f583 ⟨(by decide), (by decide)⟩ 2 rfl (Nat.le_of_ble_eq_true rfl) (xs.getD 2 0) (own_c16 (hx _ (own_getD_mem (by omega)))) g568 (by decide +kernel) ?_
            intro T585 h587 S586 W588 f589
            have f590 : Arv Z h587 a560 k561 .char (4 : Int32) ([(.int (xs.getD 0 0)), (.int (xs.getD 1 0)), (.int (xs.getD 2 0)), (.int 0)]) (.int 0) := f589
            refine own_seg C S586 [(129, .dup, 1), (130, .iconst 3, 1), (131, .aload_n 0, 1), (132, .iconst 3, 1)] (by decide +kernel) 133 #[.val (.ref a), .val (.int n)] [(.int 3), (.ref a), (.int 3), (.ref a560), (.ref a560), (.ref a550), (.ref a550)] rfl ?_
            have f591 := (f584.other W588 n576)
            refine own_caload C S586 f591 ⟨(by decide), (by decide)⟩ (.int (xs.getD 3 0)) (own_ivg (i := 3) (by omega)) (by decide +kernel) ?_
            refine own_castore C S586 f590 ⟨(by decide), (by decide)⟩ 3 rfl (Nat.le_of_ble_eq_true rfl) (xs.getD 3 0) (own_c16 (hx _ (own_getD_mem (by omega)))) g568 (by decide +kernel) ?_
            intro T592 h594 S593 W595 f596
            have f597 : Arv Z h594 a560 k561 .char (4 : Int32) ([(.int (xs.getD 0 0)), (.int (xs.getD 1 0)), (.int (xs.getD 2 0)), (.int (xs.getD 3 0))]) (.int 0) := f596
            have hp598 : ∀ c ∈ ([(xs.getD 0 0), (xs.getD 1 0), (xs.getD 2 0), (xs.getD 3 0)] : List Int32), ¬ c < 0 ∧ ¬ (255 : Int32) < c := by
              intro c hc; simp only [List.mem_cons, List.not_mem_nil, or_false] at hc
              rcases hc with rfl | rfl | rfl | rfl
              · exact (hx _ (own_getD_mem (by omega)))
              · exact (hx _ (own_getD_mem (by omega)))
              · exact (hx _ (own_getD_mem (by omega)))
              · exact (hx _ (own_getD_mem (by omega)))
            have f599 : n0 ≤ h594.size := (by rw [W595.size]; exact (by rw [W588.size]; exact (by rw [W581.size]; exact (by rw [W572.size]; exact (Nat.le_trans f567 E563.1)))))
            have g600 : n0 ≤ a550 := by rw [g551]; exact z0
            have f601 := (Exa.wr W595 (Exa.wr W588 (Exa.wr W581 (Exa.wr W572 (Exa.ext E563 x553)))))
            have n602 : a550 ≠ a560 := by rw [g562]; exact Nat.ne_of_lt x553.lt
            have f603 := (Fld.other W595 (Fld.other W588 (Fld.other W581 (Fld.other W572 (Fld.ext E563 f555) (Or.inl n602)) (Or.inl n602)) (Or.inl n602)) (Or.inl n602))
            have f604 := (Fld.other W595 (Fld.other W588 (Fld.other W581 (Fld.other W572 (Fld.ext E563 f556) (Or.inl n602)) (Or.inl n602)) (Or.inl n602)) (Or.inl n602))
            have f605 := ((((((X00.ext E552).ext E563).wr W572 g568).wr W581 g568).wr W588 g568).wr W595 g568)
            refine own_callI C S593 rfl (own_wd hw 62 rfl) (own_wd hw 63 rfl) (own_wd hw 64 rfl) (by decide) (StrChars.Road.backV (W := 1) C.2.2.2.2.2.2.2 (fun d hd => hw d (own_hws d hd)) (kI := 4) (own_wd hw 61 rfl) (cs := ([(xs.getD 0 0), (xs.getD 1 0), (xs.getD 2 0), (xs.getD 3 0)] : List Int32)) (bs := (([(xs.getD 0 0), (xs.getD 1 0), (xs.getD 2 0), (xs.getD 3 0)] : List Int32)).map (fun c => c.toInt8.toInt32)) (n := 4) g600 f599 f601 f603 f604 f597 (O2.ext f605.2) P5 rfl rfl (by decide) (by decide) hp598 rfl (by decide) (by decide)) (fun _ _ _ q => q.2.1) [(.ref a560)] [(.ref a550)] rfl own_pd3 rfl rfl rfl (Nat.le_of_ble_eq_true rfl) (by decide) (by decide) (by decide +kernel) ?_
            rintro T616 h617 v618 L619 S620 ⟨rfl, -, K606, x607, f608, t609, k610, g611, g612, g613, f614, f615⟩
            have f621 : Arv Z h617 t609 k610 .byte (4 : Int32) ([(.int ((xs.getD 0 0).toInt8.toInt32)), (.int ((xs.getD 1 0).toInt8.toInt32)), (.int ((xs.getD 2 0).toInt8.toInt32)), (.int ((xs.getD 3 0).toInt8.toInt32))]) (.int 0) := f615
            have hcd622 : StrChars.Road.CodA ([(xs.getD 0 0), (xs.getD 1 0), (xs.getD 2 0), (xs.getD 3 0)] : List Int32) 0 (4 : Int32) [(.int ((xs.getD 0 0).toInt8.toInt32)), (.int ((xs.getD 1 0).toInt8.toInt32)), (.int ((xs.getD 2 0).toInt8.toInt32)), (.int ((xs.getD 3 0).toInt8.toInt32))] := StrChars.Road.codOf (cs := ([(xs.getD 0 0), (xs.getD 1 0), (xs.getD 2 0), (xs.getD 3 0)] : List Int32)) (n := 4) rfl (fun c hc => (hp598 c hc).2)
            show own_Go p e below _ T616 (mkF m 138 #[.val (.ref a), .val (.int n)] [(.ref a550)])
            have o624 : h0.size ≤ h549.size := (Nat.le_trans (Nat.le_refl _) E552.1)
            have o623 : h0.size ≤ a560 := by rw [g562]; exact o624
            have o625 : h0.size ≤ a550 := by rw [g551]; exact (Nat.le_refl _)
            have o627 : h0.size ≤ h594.size := (by rw [W595.size]; exact (by rw [W588.size]; exact (by rw [W581.size]; exact (by rw [W572.size]; exact (Nat.le_trans o624 E563.1)))))
            have o626 : h0.size ≤ t609 := Nat.le_trans o627 g612
            have f628 : a560 < h617.size := (Nat.lt_of_lt_of_le (by rw [W595.size]; exact (by rw [W588.size]; exact (by rw [W581.size]; exact (by rw [W572.size]; exact f565.lt)))) K606.1)
            have f629 : a550 < h617.size := (Nat.lt_of_lt_of_le (by rw [W595.size]; exact (by rw [W588.size]; exact (by rw [W581.size]; exact (by rw [W572.size]; exact (Nat.lt_of_lt_of_le x553.lt E563.1))))) K606.1)
            have SW630 := rb124 _ _ _ _ [] [a550, a560, t609] S620 ((((((((Keep.refl _ _).ext E552).ext E563).wr W572 (Or.inr o623)).wr W581 (Or.inr o623)).wr W588 (Or.inr o623)).wr W595 (Or.inr o623)).trans K606 (allS (Or.inr o625) all0)) all0 (allS ⟨o625, f629⟩ (allS ⟨o623, f628⟩ (allS ⟨o626, f621.lt⟩ all0)))
            refine own_retAW CW SW630 rfl rfl (by decide +kernel) (by decide) (by decide) ?_
            exact ⟨a550, t609, k610, ([(xs.getD 0 0), (xs.getD 1 0), (xs.getD 2 0), (xs.getD 3 0)] : List Int32), rfl, o625, ((((((((Keep.refl _ _).ext E552).ext E563).wr W572 (Or.inr o623)).wr W581 (Or.inr o623)).wr W588 (Or.inr o623)).wr W595 (Or.inr o623)).trans K606 (allS (Or.inr o625) all0)), x607, f614, f608, f621, hp598, (Nat.le_of_ble_eq_true rfl)⟩
        · refine own_new C S123 (own_wd hw 60 rfl) (own_wd hw 61 rfl) (own_wd hw 23 rfl) (by decide +kernel) (by decide) (by decide) ?_
          intro T631 h633 a634 S632 g635 E636 x637 D638
          have f639 : Fld Z h633 a634 "java/lang/String" "value" "[B" .null := D638 (ty := (.array .byte)) (Or.inr (own_wd hw 26 rfl)) own_fd0
          have f640 : Fld Z h633 a634 "java/lang/String" "coder" "B" (.int 0) := D638 (ty := .byte) (Or.inr (own_wd hw 34 rfl)) own_fd1
          refine own_seg C S632 [(73, .dup, 1), (74, .iconst 3, 1)] (by decide +kernel) 75 #[.val (.ref a), .val (.int n)] [(.int 3), (.ref a634), (.ref a634)] rfl ?_
          refine own_newP C S632 (aty := .char) (own_wd hw 15 rfl) (by decide +kernel) (by decide) 3 (by decide) (by decide) (by decide) (by decide) ?_
          intro T641 h643 a644 k645 S642 g646 E647 f648 
          have f649 : Arv Z h643 a644 k645 .char (3 : Int32) ([(.int 0), (.int 0), (.int 0)]) (.int 0) := Arv.pad f648 (pad_rep [] (.int 0) 3)
          refine own_seg C S642 [(77, .dup, 1), (78, .iconst 0, 1), (79, .aload_n 0, 1), (80, .iconst 0, 1)] (by decide +kernel) 81 #[.val (.ref a), .val (.int n)] [(.int 0), (.ref a), (.int 0), (.ref a644), (.ref a644), (.ref a634), (.ref a634)] rfl ?_
          have f650 := ((aK.ext E636).ext E647)
          refine own_caload C S642 f650 ⟨(by decide), (by decide)⟩ (.int (xs.getD 0 0)) (own_ivg (i := 0) (by omega)) (by decide +kernel) ?_
          have f651 : n0 ≤ h633.size := (Nat.le_trans z0 E636.1)
          have g652 : n0 ≤ a644 := by rw [g646]; exact f651
          refine own_castore C S642 f649 ⟨(by decide), (by decide)⟩ 0 rfl (Nat.le_of_ble_eq_true rfl) (xs.getD 0 0) (own_c16 (hx _ (own_getD_mem (by omega)))) g652 (by decide +kernel) ?_
          intro T653 h655 S654 W656 f657
          have f658 : Arv Z h655 a644 k645 .char (3 : Int32) ([(.int (xs.getD 0 0)), (.int 0), (.int 0)]) (.int 0) := f657
          refine own_seg C S654 [(83, .dup, 1), (84, .iconst 1, 1), (85, .aload_n 0, 1), (86, .iconst 1, 1)] (by decide +kernel) 87 #[.val (.ref a), .val (.int n)] [(.int 1), (.ref a), (.int 1), (.ref a644), (.ref a644), (.ref a634), (.ref a634)] rfl ?_
          have f659 : a < h633.size := (Nat.lt_of_lt_of_le aK.lt E636.1)
          have n660 : a ≠ a644 := by rw [g646]; exact Nat.ne_of_lt f659
          have f661 := (f650.other W656 n660)
          refine own_caload C S654 f661 ⟨(by decide), (by decide)⟩ (.int (xs.getD 1 0)) (own_ivg (i := 1) (by omega)) (by decide +kernel) ?_
          refine own_castore C S654 f658 ⟨(by decide), (by decide)⟩ 1 rfl (Nat.le_of_ble_eq_true rfl) (xs.getD 1 0) (own_c16 (hx _ (own_getD_mem (by omega)))) g652 (by decide +kernel) ?_
          intro T662 h664 S663 W665 f666
          have f667 : Arv Z h664 a644 k645 .char (3 : Int32) ([(.int (xs.getD 0 0)), (.int (xs.getD 1 0)), (.int 0)]) (.int 0) := f666
          refine own_seg C S663 [(89, .dup, 1), (90, .iconst 2, 1), (91, .aload_n 0, 1), (92, .iconst 2, 1)] (by decide +kernel) 93 #[.val (.ref a), .val (.int n)] [(.int 2), (.ref a), (.int 2), (.ref a644), (.ref a644), (.ref a634), (.ref a634)] rfl ?_
          have f668 := (f661.other W665 n660)
          refine own_caload C S663 f668 ⟨(by decide), (by decide)⟩ (.int (xs.getD 2 0)) (own_ivg (i := 2) (by omega)) (by decide +kernel) ?_
          refine own_castore C S663 f667 ⟨(by decide), (by decide)⟩ 2 rfl (Nat.le_of_ble_eq_true rfl) (xs.getD 2 0) (own_c16 (hx _ (own_getD_mem (by omega)))) g652 (by decide +kernel) ?_
          intro T669 h671 S670 W672 f673
          have f674 : Arv Z h671 a644 k645 .char (3 : Int32) ([(.int (xs.getD 0 0)), (.int (xs.getD 1 0)), (.int (xs.getD 2 0))]) (.int 0) := f673
          have hp675 : ∀ c ∈ ([(xs.getD 0 0), (xs.getD 1 0), (xs.getD 2 0)] : List Int32), ¬ c < 0 ∧ ¬ (255 : Int32) < c := by
            intro c hc; simp only [List.mem_cons, List.not_mem_nil, or_false] at hc
            rcases hc with rfl | rfl | rfl
            · exact (hx _ (own_getD_mem (by omega)))
            · exact (hx _ (own_getD_mem (by omega)))
            · exact (hx _ (own_getD_mem (by omega)))
          have f676 : n0 ≤ h671.size := (by rw [W672.size]; exact (by rw [W665.size]; exact (by rw [W656.size]; exact (Nat.le_trans f651 E647.1))))
          have g677 : n0 ≤ a634 := by rw [g635]; exact z0
          have f678 := (Exa.wr W672 (Exa.wr W665 (Exa.wr W656 (Exa.ext E647 x637))))
          have n679 : a634 ≠ a644 := by rw [g646]; exact Nat.ne_of_lt x637.lt
          have f680 := (Fld.other W672 (Fld.other W665 (Fld.other W656 (Fld.ext E647 f639) (Or.inl n679)) (Or.inl n679)) (Or.inl n679))
          have f681 := (Fld.other W672 (Fld.other W665 (Fld.other W656 (Fld.ext E647 f640) (Or.inl n679)) (Or.inl n679)) (Or.inl n679))
          have f682 := (((((X00.ext E636).ext E647).wr W656 g652).wr W665 g652).wr W672 g652)
          refine own_callI C S670 rfl (own_wd hw 62 rfl) (own_wd hw 63 rfl) (own_wd hw 64 rfl) (by decide) (StrChars.Road.backV (W := 1) C.2.2.2.2.2.2.2 (fun d hd => hw d (own_hws d hd)) (kI := 4) (own_wd hw 61 rfl) (cs := ([(xs.getD 0 0), (xs.getD 1 0), (xs.getD 2 0)] : List Int32)) (bs := (([(xs.getD 0 0), (xs.getD 1 0), (xs.getD 2 0)] : List Int32)).map (fun c => c.toInt8.toInt32)) (n := 3) g677 f676 f678 f680 f681 f674 (O2.ext f682.2) P5 rfl rfl (by decide) (by decide) hp675 rfl (by decide) (by decide)) (fun _ _ _ q => q.2.1) [(.ref a644)] [(.ref a634)] rfl own_pd3 rfl rfl rfl (Nat.le_of_ble_eq_true rfl) (by decide) (by decide) (by decide +kernel) ?_
          rintro T693 h694 v695 L696 S697 ⟨rfl, -, K683, x684, f685, t686, k687, g688, g689, g690, f691, f692⟩
          have f698 : Arv Z h694 t686 k687 .byte (3 : Int32) ([(.int ((xs.getD 0 0).toInt8.toInt32)), (.int ((xs.getD 1 0).toInt8.toInt32)), (.int ((xs.getD 2 0).toInt8.toInt32))]) (.int 0) := f692
          have hcd699 : StrChars.Road.CodA ([(xs.getD 0 0), (xs.getD 1 0), (xs.getD 2 0)] : List Int32) 0 (3 : Int32) [(.int ((xs.getD 0 0).toInt8.toInt32)), (.int ((xs.getD 1 0).toInt8.toInt32)), (.int ((xs.getD 2 0).toInt8.toInt32))] := StrChars.Road.codOf (cs := ([(xs.getD 0 0), (xs.getD 1 0), (xs.getD 2 0)] : List Int32)) (n := 3) rfl (fun c hc => (hp675 c hc).2)
          show own_Go p e below _ T693 (mkF m 98 #[.val (.ref a), .val (.int n)] [(.ref a634)])
          have o701 : h0.size ≤ h633.size := (Nat.le_trans (Nat.le_refl _) E636.1)
          have o700 : h0.size ≤ a644 := by rw [g646]; exact o701
          have o702 : h0.size ≤ a634 := by rw [g635]; exact (Nat.le_refl _)
          have o704 : h0.size ≤ h671.size := (by rw [W672.size]; exact (by rw [W665.size]; exact (by rw [W656.size]; exact (Nat.le_trans o701 E647.1))))
          have o703 : h0.size ≤ t686 := Nat.le_trans o704 g689
          have f705 : a644 < h694.size := (Nat.lt_of_lt_of_le (by rw [W672.size]; exact (by rw [W665.size]; exact (by rw [W656.size]; exact f649.lt))) K683.1)
          have f706 : a634 < h694.size := (Nat.lt_of_lt_of_le (by rw [W672.size]; exact (by rw [W665.size]; exact (by rw [W656.size]; exact (Nat.lt_of_lt_of_le x637.lt E647.1)))) K683.1)
          have SW707 := rb124 _ _ _ _ [] [a634, a644, t686] S697 (((((((Keep.refl _ _).ext E636).ext E647).wr W656 (Or.inr o700)).wr W665 (Or.inr o700)).wr W672 (Or.inr o700)).trans K683 (allS (Or.inr o702) all0)) all0 (allS ⟨o702, f706⟩ (allS ⟨o700, f705⟩ (allS ⟨o703, f698.lt⟩ all0)))
          refine own_retAW CW SW707 rfl rfl (by decide +kernel) (by decide) (by decide) ?_
          exact ⟨a634, t686, k687, ([(xs.getD 0 0), (xs.getD 1 0), (xs.getD 2 0)] : List Int32), rfl, o702, (((((((Keep.refl _ _).ext E636).ext E647).wr W656 (Or.inr o700)).wr W665 (Or.inr o700)).wr W672 (Or.inr o700)).trans K683 (allS (Or.inr o702) all0)), x684, f691, f685, f698, hp675, (Nat.le_of_ble_eq_true rfl)⟩
      · refine own_new C S123 (own_wd hw 60 rfl) (own_wd hw 61 rfl) (own_wd hw 23 rfl) (by decide +kernel) (by decide) (by decide) ?_
        intro T708 h710 a711 S709 g712 E713 x714 D715
        have f716 : Fld Z h710 a711 "java/lang/String" "value" "[B" .null := D715 (ty := (.array .byte)) (Or.inr (own_wd hw 26 rfl)) own_fd0
        have f717 : Fld Z h710 a711 "java/lang/String" "coder" "B" (.int 0) := D715 (ty := .byte) (Or.inr (own_wd hw 34 rfl)) own_fd1
        refine own_seg C S709 [(45, .dup, 1), (46, .iconst 2, 1)] (by decide +kernel) 47 #[.val (.ref a), .val (.int n)] [(.int 2), (.ref a711), (.ref a711)] rfl ?_
        refine own_newP C S709 (aty := .char) (own_wd hw 15 rfl) (by decide +kernel) (by decide) 2 (by decide) (by decide) (by decide) (by decide) ?_
        intro T718 h720 a721 k722 S719 g723 E724 f725 
        have f726 : Arv Z h720 a721 k722 .char (2 : Int32) ([(.int 0), (.int 0)]) (.int 0) := Arv.pad f725 (pad_rep [] (.int 0) 2)
        refine own_seg C S719 [(49, .dup, 1), (50, .iconst 0, 1), (51, .aload_n 0, 1), (52, .iconst 0, 1)] (by decide +kernel) 53 #[.val (.ref a), .val (.int n)] [(.int 0), (.ref a), (.int 0), (.ref a721), (.ref a721), (.ref a711), (.ref a711)] rfl ?_
        have f727 := ((aK.ext E713).ext E724)
        refine own_caload C S719 f727 ⟨(by decide), (by decide)⟩ (.int (xs.getD 0 0)) (own_ivg (i := 0) (by omega)) (by decide +kernel) ?_
        have f728 : n0 ≤ h710.size := (Nat.le_trans z0 E713.1)
        have g729 : n0 ≤ a721 := by rw [g723]; exact f728
        refine own_castore C S719 f726 ⟨(by decide), (by decide)⟩ 0 rfl (Nat.le_of_ble_eq_true rfl) (xs.getD 0 0) (own_c16 (hx _ (own_getD_mem (by omega)))) g729 (by decide +kernel) ?_
        intro T730 h732 S731 W733 f734
        have f735 : Arv Z h732 a721 k722 .char (2 : Int32) ([(.int (xs.getD 0 0)), (.int 0)]) (.int 0) := f734
        refine own_seg C S731 [(55, .dup, 1), (56, .iconst 1, 1), (57, .aload_n 0, 1), (58, .iconst 1, 1)] (by decide +kernel) 59 #[.val (.ref a), .val (.int n)] [(.int 1), (.ref a), (.int 1), (.ref a721), (.ref a721), (.ref a711), (.ref a711)] rfl ?_
        have f736 : a < h710.size := (Nat.lt_of_lt_of_le aK.lt E713.1)
        have n737 : a ≠ a721 := by rw [g723]; exact Nat.ne_of_lt f736
        have f738 := (f727.other W733 n737)
        refine own_caload C S731 f738 ⟨(by decide), (by decide)⟩ (.int (xs.getD 1 0)) (own_ivg (i := 1) (by omega)) (by decide +kernel) ?_
        refine own_castore C S731 f735 ⟨(by decide), (by decide)⟩ 1 rfl (Nat.le_of_ble_eq_true rfl) (xs.getD 1 0) (own_c16 (hx _ (own_getD_mem (by omega)))) g729 (by decide +kernel) ?_
        intro T739 h741 S740 W742 f743
        have f744 : Arv Z h741 a721 k722 .char (2 : Int32) ([(.int (xs.getD 0 0)), (.int (xs.getD 1 0))]) (.int 0) := f743
        have hp745 : ∀ c ∈ ([(xs.getD 0 0), (xs.getD 1 0)] : List Int32), ¬ c < 0 ∧ ¬ (255 : Int32) < c := by
          intro c hc; simp only [List.mem_cons, List.not_mem_nil, or_false] at hc
          rcases hc with rfl | rfl
          · exact (hx _ (own_getD_mem (by omega)))
          · exact (hx _ (own_getD_mem (by omega)))
        have f746 : n0 ≤ h741.size := (by rw [W742.size]; exact (by rw [W733.size]; exact (Nat.le_trans f728 E724.1)))
        have g747 : n0 ≤ a711 := by rw [g712]; exact z0
        have f748 := (Exa.wr W742 (Exa.wr W733 (Exa.ext E724 x714)))
        have n749 : a711 ≠ a721 := by rw [g723]; exact Nat.ne_of_lt x714.lt
        have f750 := (Fld.other W742 (Fld.other W733 (Fld.ext E724 f716) (Or.inl n749)) (Or.inl n749))
        have f751 := (Fld.other W742 (Fld.other W733 (Fld.ext E724 f717) (Or.inl n749)) (Or.inl n749))
        have f752 := ((((X00.ext E713).ext E724).wr W733 g729).wr W742 g729)
        refine own_callI C S740 rfl (own_wd hw 62 rfl) (own_wd hw 63 rfl) (own_wd hw 64 rfl) (by decide) (StrChars.Road.backV (W := 1) C.2.2.2.2.2.2.2 (fun d hd => hw d (own_hws d hd)) (kI := 4) (own_wd hw 61 rfl) (cs := ([(xs.getD 0 0), (xs.getD 1 0)] : List Int32)) (bs := (([(xs.getD 0 0), (xs.getD 1 0)] : List Int32)).map (fun c => c.toInt8.toInt32)) (n := 2) g747 f746 f748 f750 f751 f744 (O2.ext f752.2) P5 rfl rfl (by decide) (by decide) hp745 rfl (by decide) (by decide)) (fun _ _ _ q => q.2.1) [(.ref a721)] [(.ref a711)] rfl own_pd3 rfl rfl rfl (Nat.le_of_ble_eq_true rfl) (by decide) (by decide) (by decide +kernel) ?_
        rintro T763 h764 v765 L766 S767 ⟨rfl, -, K753, x754, f755, t756, k757, g758, g759, g760, f761, f762⟩
        have f768 : Arv Z h764 t756 k757 .byte (2 : Int32) ([(.int ((xs.getD 0 0).toInt8.toInt32)), (.int ((xs.getD 1 0).toInt8.toInt32))]) (.int 0) := f762
        have hcd769 : StrChars.Road.CodA ([(xs.getD 0 0), (xs.getD 1 0)] : List Int32) 0 (2 : Int32) [(.int ((xs.getD 0 0).toInt8.toInt32)), (.int ((xs.getD 1 0).toInt8.toInt32))] := StrChars.Road.codOf (cs := ([(xs.getD 0 0), (xs.getD 1 0)] : List Int32)) (n := 2) rfl (fun c hc => (hp745 c hc).2)
        show own_Go p e below _ T763 (mkF m 64 #[.val (.ref a), .val (.int n)] [(.ref a711)])
        have o771 : h0.size ≤ h710.size := (Nat.le_trans (Nat.le_refl _) E713.1)
        have o770 : h0.size ≤ a721 := by rw [g723]; exact o771
        have o772 : h0.size ≤ a711 := by rw [g712]; exact (Nat.le_refl _)
        have o774 : h0.size ≤ h741.size := (by rw [W742.size]; exact (by rw [W733.size]; exact (Nat.le_trans o771 E724.1)))
        have o773 : h0.size ≤ t756 := Nat.le_trans o774 g759
        have f775 : a721 < h764.size := (Nat.lt_of_lt_of_le (by rw [W742.size]; exact (by rw [W733.size]; exact f726.lt)) K753.1)
        have f776 : a711 < h764.size := (Nat.lt_of_lt_of_le (by rw [W742.size]; exact (by rw [W733.size]; exact (Nat.lt_of_lt_of_le x714.lt E724.1))) K753.1)
        have SW777 := rb124 _ _ _ _ [] [a711, a721, t756] S767 ((((((Keep.refl _ _).ext E713).ext E724).wr W733 (Or.inr o770)).wr W742 (Or.inr o770)).trans K753 (allS (Or.inr o772) all0)) all0 (allS ⟨o772, f776⟩ (allS ⟨o770, f775⟩ (allS ⟨o773, f768.lt⟩ all0)))
        refine own_retAW CW SW777 rfl rfl (by decide +kernel) (by decide) (by decide) ?_
        exact ⟨a711, t756, k757, ([(xs.getD 0 0), (xs.getD 1 0)] : List Int32), rfl, o772, ((((((Keep.refl _ _).ext E713).ext E724).wr W733 (Or.inr o770)).wr W742 (Or.inr o770)).trans K753 (allS (Or.inr o772) all0)), x754, f761, f755, f768, hp745, (Nat.le_of_ble_eq_true rfl)⟩
    · refine own_new C S123 (own_wd hw 60 rfl) (own_wd hw 61 rfl) (own_wd hw 23 rfl) (by decide +kernel) (by decide) (by decide) ?_
      intro T778 h780 a781 S779 g782 E783 x784 D785
      have f786 : Fld Z h780 a781 "java/lang/String" "value" "[B" .null := D785 (ty := (.array .byte)) (Or.inr (own_wd hw 26 rfl)) own_fd0
      have f787 : Fld Z h780 a781 "java/lang/String" "coder" "B" (.int 0) := D785 (ty := .byte) (Or.inr (own_wd hw 34 rfl)) own_fd1
      refine own_seg C S779 [(23, .dup, 1), (24, .iconst 1, 1)] (by decide +kernel) 25 #[.val (.ref a), .val (.int n)] [(.int 1), (.ref a781), (.ref a781)] rfl ?_
      refine own_newP C S779 (aty := .char) (own_wd hw 15 rfl) (by decide +kernel) (by decide) 1 (by decide) (by decide) (by decide) (by decide) ?_
      intro T788 h790 a791 k792 S789 g793 E794 f795 
      have f796 : Arv Z h790 a791 k792 .char (1 : Int32) ([(.int 0)]) (.int 0) := Arv.pad f795 (pad_rep [] (.int 0) 1)
      refine own_seg C S789 [(27, .dup, 1), (28, .iconst 0, 1), (29, .aload_n 0, 1), (30, .iconst 0, 1)] (by decide +kernel) 31 #[.val (.ref a), .val (.int n)] [(.int 0), (.ref a), (.int 0), (.ref a791), (.ref a791), (.ref a781), (.ref a781)] rfl ?_
      have f797 := ((aK.ext E783).ext E794)
      refine own_caload C S789 f797 ⟨(by decide), (by decide)⟩ (.int (xs.getD 0 0)) (own_ivg (i := 0) (by omega)) (by decide +kernel) ?_
      have f798 : n0 ≤ h780.size := (Nat.le_trans z0 E783.1)
      have g799 : n0 ≤ a791 := by rw [g793]; exact f798
      refine own_castore C S789 f796 ⟨(by decide), (by decide)⟩ 0 rfl (Nat.le_of_ble_eq_true rfl) (xs.getD 0 0) (own_c16 (hx _ (own_getD_mem (by omega)))) g799 (by decide +kernel) ?_
      intro T800 h802 S801 W803 f804
      have f805 : Arv Z h802 a791 k792 .char (1 : Int32) ([(.int (xs.getD 0 0))]) (.int 0) := f804
      have hp806 : ∀ c ∈ ([(xs.getD 0 0)] : List Int32), ¬ c < 0 ∧ ¬ (255 : Int32) < c := by
        intro c hc; simp only [List.mem_cons, List.not_mem_nil, or_false] at hc
        rcases hc with rfl
        · exact (hx _ (own_getD_mem (by omega)))
      have f807 : n0 ≤ h802.size := (by rw [W803.size]; exact (Nat.le_trans f798 E794.1))
      have g808 : n0 ≤ a781 := by rw [g782]; exact z0
      have f809 := (Exa.wr W803 (Exa.ext E794 x784))
      have n810 : a781 ≠ a791 := by rw [g793]; exact Nat.ne_of_lt x784.lt
      have f811 := (Fld.other W803 (Fld.ext E794 f786) (Or.inl n810))
      have f812 := (Fld.other W803 (Fld.ext E794 f787) (Or.inl n810))
      have f813 := (((X00.ext E783).ext E794).wr W803 g799)
      refine own_callI C S801 rfl (own_wd hw 62 rfl) (own_wd hw 63 rfl) (own_wd hw 64 rfl) (by decide) (StrChars.Road.backV (W := 1) C.2.2.2.2.2.2.2 (fun d hd => hw d (own_hws d hd)) (kI := 4) (own_wd hw 61 rfl) (cs := ([(xs.getD 0 0)] : List Int32)) (bs := (([(xs.getD 0 0)] : List Int32)).map (fun c => c.toInt8.toInt32)) (n := 1) g808 f807 f809 f811 f812 f805 (O2.ext f813.2) P5 rfl rfl (by decide) (by decide) hp806 rfl (by decide) (by decide)) (fun _ _ _ q => q.2.1) [(.ref a791)] [(.ref a781)] rfl own_pd3 rfl rfl rfl (Nat.le_of_ble_eq_true rfl) (by decide) (by decide) (by decide +kernel) ?_
      rintro T824 h825 v826 L827 S828 ⟨rfl, -, K814, x815, f816, t817, k818, g819, g820, g821, f822, f823⟩
      have f829 : Arv Z h825 t817 k818 .byte (1 : Int32) ([(.int ((xs.getD 0 0).toInt8.toInt32))]) (.int 0) := f823
      have hcd830 : StrChars.Road.CodA ([(xs.getD 0 0)] : List Int32) 0 (1 : Int32) [(.int ((xs.getD 0 0).toInt8.toInt32))] := StrChars.Road.codOf (cs := ([(xs.getD 0 0)] : List Int32)) (n := 1) rfl (fun c hc => (hp806 c hc).2)
      show own_Go p e below _ T824 (mkF m 36 #[.val (.ref a), .val (.int n)] [(.ref a781)])
      have o832 : h0.size ≤ h780.size := (Nat.le_trans (Nat.le_refl _) E783.1)
      have o831 : h0.size ≤ a791 := by rw [g793]; exact o832
      have o833 : h0.size ≤ a781 := by rw [g782]; exact (Nat.le_refl _)
      have o835 : h0.size ≤ h802.size := (by rw [W803.size]; exact (Nat.le_trans o832 E794.1))
      have o834 : h0.size ≤ t817 := Nat.le_trans o835 g820
      have f836 : a791 < h825.size := (Nat.lt_of_lt_of_le (by rw [W803.size]; exact f796.lt) K814.1)
      have f837 : a781 < h825.size := (Nat.lt_of_lt_of_le (by rw [W803.size]; exact (Nat.lt_of_lt_of_le x784.lt E794.1)) K814.1)
      have SW838 := rb124 _ _ _ _ [] [a781, a791, t817] S828 (((((Keep.refl _ _).ext E783).ext E794).wr W803 (Or.inr o831)).trans K814 (allS (Or.inr o833) all0)) all0 (allS ⟨o833, f837⟩ (allS ⟨o831, f836⟩ (allS ⟨o834, f829.lt⟩ all0)))
      refine own_retAW CW SW838 rfl rfl (by decide +kernel) (by decide) (by decide) ?_
      exact ⟨a781, t817, k818, ([(xs.getD 0 0)] : List Int32), rfl, o833, (((((Keep.refl _ _).ext E783).ext E794).wr W803 (Or.inr o831)).trans K814 (allS (Or.inr o833) all0)), x815, f822, f816, f829, hp806, (Nat.le_of_ble_eq_true rfl)⟩
  · refine own_new C S123 (own_wd hw 60 rfl) (own_wd hw 61 rfl) (own_wd hw 23 rfl) (by decide +kernel) (by decide) (by decide) ?_
    intro T839 h841 a842 S840 g843 E844 x845 D846
    have f847 : Fld Z h841 a842 "java/lang/String" "value" "[B" .null := D846 (ty := (.array .byte)) (Or.inr (own_wd hw 26 rfl)) own_fd0
    have f848 : Fld Z h841 a842 "java/lang/String" "coder" "B" (.int 0) := D846 (ty := .byte) (Or.inr (own_wd hw 34 rfl)) own_fd1
    refine own_seg C S840 [(7, .dup, 1), (8, .iconst 0, 1)] (by decide +kernel) 9 #[.val (.ref a), .val (.int n)] [(.int 0), (.ref a842), (.ref a842)] rfl ?_
    refine own_newP C S840 (aty := .char) (own_wd hw 15 rfl) (by decide +kernel) (by decide) 0 (by decide) (by decide) (by decide) (by decide) ?_
    intro T849 h851 a852 k853 S850 g854 E855 f856 
    have f857 : Arv Z h851 a852 k853 .char (0 : Int32) ([]) (.int 0) := Arv.pad f856 (pad_rep [] (.int 0) 0)
    have o859 : h0.size ≤ h841.size := (Nat.le_trans (Nat.le_refl _) E844.1)
    have o858 : h0.size ≤ a852 := by rw [g854]; exact o859
    have o860 : h0.size ≤ a842 := by rw [g843]; exact (Nat.le_refl _)
    have f861 : a842 < h851.size := (Nat.lt_of_lt_of_le x845.lt E855.1)
    have SW862 := rb124 _ _ _ _ [] [a842, a852] S850 (((Keep.refl _ _).ext E844).ext E855) all0 (allS ⟨o860, f861⟩ (allS ⟨o858, f857.lt⟩ all0))
    have f863 := (Exa.ext E855 x845)
    have f864 := (Fld.ext E855 f847)
    have f865 := (Fld.ext E855 f848)
    have f866 : n0 ≤ h851.size := (Nat.le_trans (Nat.le_trans z0 E844.1) E855.1)
    have g867 : n0 ≤ a842 := by rw [g843]; exact z0
    refine own_callIW CW SW862 rfl (own_wd hw 62 rfl) (own_wd hw 63 rfl) (own_wd hw 23 rfl) (own_wd hw 64 rfl) (by decide) (own_se1 l Z a0 hw hEL wS a842 a852 _ _ (.int 0) h851 n0 f866 g867 f863 f864 f865 f857) (allS (List.mem_of_getElem? (i := 0) rfl) all0) 1 (by decide) (by decide) [(.ref a852)] [(.ref a842)] rfl own_pd3 rfl rfl rfl (Nat.le_of_ble_eq_true rfl) (by decide) (by decide) (by decide +kernel) ?_
    rintro T880 h881 v882 SW883 hg884 ⟨a868, k869, rfl, K870, f871, f872, f873, f874⟩
    show own_Go p e below _ T880 (mkF m 14 #[.val (.ref a), .val (.int n)] [(.ref a842)])
    have hp885 : ∀ c ∈ ([] : List Int32), ¬ c < 0 ∧ ¬ (255 : Int32) < c := by
      intro c hc; cases hc
    have hcd886 : StrChars.Road.CodA ([] : List Int32) 0 (0 : Int32) [] := StrChars.Road.codOf (cs := ([] : List Int32)) (n := 0) rfl (fun c hc => (hp885 c hc).2)
    refine own_retAW CW SW883 rfl rfl (by decide +kernel) (by decide) (by decide) ?_
    exact ⟨a842, a868, k869, ([] : List Int32), rfl, o860, ((((Keep.refl _ _).ext E844).ext E855).trans K870 (allS (Or.inr o860) all0)), f871, f873, f872, f874, hp885, (Nat.le_of_ble_eq_true rfl)⟩
theorem own_vs (l : Launch) (Z : State) (a0 : Array Value) (hw : ∀ d ∈ tables_1, d.before a0 Z = true) (G1 : Int32) (G3 : Value) (kda : Addr) (kdb : Addr) (kdc : Addr) (kdd : Addr) (kde : Addr) (VA : Addr) (VAk : ClassId) (h0 : Heap) (n0 : Nat) (z0 : n0 ≤ h0.size) (X00 : Old Z n0 h0) (pV1 : Exa Z h0 VA "[Lcom/example/persephone/persephone/lucene/FieldKind;") (pV2 : Arv Z h0 VA VAk (.object "com/example/persephone/persephone/lucene/FieldKind") (5 : Int32) ([(.ref kda), (.ref kdb), (.ref kdc), (.ref kdd), (.ref kde)]) .null) (O2 : Sta Z Z.heap "java/lang/String" "COMPACT_STRINGS" "Z" (.int G1)) (O4 : Sta Z Z.heap "jdk/internal/util/Preconditions" "SIOOBE_FORMATTER" "Ljava/util/function/BiFunction;" G3) (P5 : ¬ G1 = (0 : Int32)) (rG3 : G3.isRef = true) (OV : Sta Z Z.heap "com/example/persephone/persephone/lucene/FieldKind" "$VALUES" "[Lcom/example/persephone/persephone/lucene/FieldKind;" (.ref VA)) :
    own_Met l Z (⟨"com/example/persephone/persephone/lucene/FieldKind", "values", "()[Lcom/example/persephone/persephone/lucene/FieldKind;"⟩ : MethodName) prog_17_method_1_code 0 (some (.array (.object "com/example/persephone/persephone/lucene/FieldKind"))) ({ frames := 1, cells := 1, slots := 5, locals := 14 } : Room) n0 #[] h0 (fun v h => ∃ r : Addr, v = some (.ref r) ∧ h0.size ≤ r ∧ Keep h0 h [] ∧ Arv Z h r VAk (.object "com/example/persephone/persephone/lucene/FieldKind") (5 : Int32) ([(.ref kda), (.ref kdb), (.ref kdc), (.ref kdd), (.ref kde)]) .null) := by
  refine own_met (by decide +kernel) #[] (fun m => by first | (simp [entryFrame, mkF, argsToLocals, Value.category]; done) | rfl) ?_
  intro p e s m below meth c T0 C S0
  refine own_getS C S0 (own_wd hw 89 rfl) Via.refl (OV.ext X00.2) (by decide +kernel) ?_
  intro T887 S888
  refine own_clone C S888 (own_wd hw 91 rfl) (own_wd hw 92 rfl) (own_wd hw 96 rfl) (own_wd hw 94 rfl) (own_wd hw 95 rfl) (own_wd hw 97 rfl) pV2 pV1 rfl (by decide +kernel) (by decide) 0 5 (Nat.le_of_ble_eq_true rfl) (by decide) (by decide) (by decide) (by decide) ?_
  intro T889 h891 a892 S890 g893 E894 f895 x896
  refine own_cast C S890 (own_wd hw 103 rfl) (Ins.self x896) (by decide +kernel) ?_
  intro T897 S898
  refine own_retA C S898 rfl rfl (by decide +kernel) (by decide) (by decide) ?_
  have o899 : h0.size ≤ a892 := by rw [g893]; exact (Nat.le_refl _)
  exact ⟨a892, rfl, o899, ((Keep.refl _ _).ext E894), f895⟩
theorem own_pd4 : parseMethodDescriptor "()[Lcom/example/persephone/persephone/lucene/FieldKind;" = some ⟨[], (some (.array (.object "com/example/persephone/persephone/lucene/FieldKind")))⟩ := by decide +kernel
theorem own_heq : ∀ d ∈ StrChars.Road.wordsEq, d ∈ tables_1 := by decide +kernel
theorem own_pd5 : parseMethodDescriptor "(Ljava/lang/Object;)Z" = some ⟨[(.object "java/lang/Object")], (some .boolean)⟩ := by decide +kernel
theorem own_lb0 (l : Launch) (Z : State) (a0 : Array Value) (hw : ∀ d ∈ tables_1, d.before a0 Z = true) (G1 : Int32) (G3 : Value) (kda : Addr) (kdb : Addr) (kdc : Addr) (kdd : Addr) (kde : Addr) (lsa : Addr) (lsat : Addr) (lsak : ClassId) (lsb : Addr) (lsbt : Addr) (lsbk : ClassId) (lsc : Addr) (lsct : Addr) (lsck : ClassId) (lsd : Addr) (lsdt : Addr) (lsdk : ClassId) (lse : Addr) (lset : Addr) (lsek : ClassId) (VA : Addr) (VAk : ClassId) (x : Addr) (xt : Addr) (xk : ClassId) (xcs : List Int32) (h0 : Heap) (n0 : Nat) (z0 : n0 ≤ h0.size) (X00 : Old Z n0 h0) (xE : Exa Z h0 x "java/lang/String") (xV : Fld Z h0 x "java/lang/String" "value" "[B" (.ref xt)) (xC : Fld Z h0 x "java/lang/String" "coder" "B" (.int 0)) (xK : Arv Z h0 xt xk .byte (Int32.ofNat (xcs).length) (own_sv xcs) (.int 0)) (pa1 : Exa Z h0 kda "com/example/persephone/persephone/lucene/FieldKind") (pa2 : Fld Z h0 kda "com/example/persephone/persephone/lucene/FieldKind" "label" "Ljava/lang/String;" (.ref lsa)) (pa3 : Exa Z h0 lsa "java/lang/String") (pa4 : Fld Z h0 lsa "java/lang/String" "value" "[B" (.ref lsat)) (pa5 : Fld Z h0 lsa "java/lang/String" "coder" "B" (.int 0)) (pa6 : Arv Z h0 lsat lsak .byte (Int32.ofNat (own_L0).length) (own_sv own_L0) (.int 0)) (pb1 : Exa Z h0 kdb "com/example/persephone/persephone/lucene/FieldKind") (pb2 : Fld Z h0 kdb "com/example/persephone/persephone/lucene/FieldKind" "label" "Ljava/lang/String;" (.ref lsb)) (pb3 : Exa Z h0 lsb "java/lang/String") (pb4 : Fld Z h0 lsb "java/lang/String" "value" "[B" (.ref lsbt)) (pb5 : Fld Z h0 lsb "java/lang/String" "coder" "B" (.int 0)) (pb6 : Arv Z h0 lsbt lsbk .byte (Int32.ofNat (own_L1).length) (own_sv own_L1) (.int 0)) (pc1 : Exa Z h0 kdc "com/example/persephone/persephone/lucene/FieldKind") (pc2 : Fld Z h0 kdc "com/example/persephone/persephone/lucene/FieldKind" "label" "Ljava/lang/String;" (.ref lsc)) (pc3 : Exa Z h0 lsc "java/lang/String") (pc4 : Fld Z h0 lsc "java/lang/String" "value" "[B" (.ref lsct)) (pc5 : Fld Z h0 lsc "java/lang/String" "coder" "B" (.int 0)) (pc6 : Arv Z h0 lsct lsck .byte (Int32.ofNat (own_L2).length) (own_sv own_L2) (.int 0)) (pd1 : Exa Z h0 kdd "com/example/persephone/persephone/lucene/FieldKind") (pd2 : Fld Z h0 kdd "com/example/persephone/persephone/lucene/FieldKind" "label" "Ljava/lang/String;" (.ref lsd)) (pd3 : Exa Z h0 lsd "java/lang/String") (pd4 : Fld Z h0 lsd "java/lang/String" "value" "[B" (.ref lsdt)) (pd5 : Fld Z h0 lsd "java/lang/String" "coder" "B" (.int 0)) (pd6 : Arv Z h0 lsdt lsdk .byte (Int32.ofNat (own_L3).length) (own_sv own_L3) (.int 0)) (pe1 : Exa Z h0 kde "com/example/persephone/persephone/lucene/FieldKind") (pe2 : Fld Z h0 kde "com/example/persephone/persephone/lucene/FieldKind" "label" "Ljava/lang/String;" (.ref lse)) (pe3 : Exa Z h0 lse "java/lang/String") (pe4 : Fld Z h0 lse "java/lang/String" "value" "[B" (.ref lset)) (pe5 : Fld Z h0 lse "java/lang/String" "coder" "B" (.int 0)) (pe6 : Arv Z h0 lset lsek .byte (Int32.ofNat (own_L4).length) (own_sv own_L4) (.int 0)) (pV1 : Exa Z h0 VA "[Lcom/example/persephone/persephone/lucene/FieldKind;") (pV2 : Arv Z h0 VA VAk (.object "com/example/persephone/persephone/lucene/FieldKind") (5 : Int32) ([(.ref kda), (.ref kdb), (.ref kdc), (.ref kdd), (.ref kde)]) .null) (O2 : Sta Z Z.heap "java/lang/String" "COMPACT_STRINGS" "Z" (.int G1)) (O4 : Sta Z Z.heap "jdk/internal/util/Preconditions" "SIOOBE_FORMATTER" "Ljava/util/function/BiFunction;" G3) (P5 : ¬ G1 = (0 : Int32)) (rG3 : G3.isRef = true) (xhp : ∀ c ∈ xcs, ¬ c < 0 ∧ ¬ (255 : Int32) < c) (xhl : xcs.length ≤ 8) (OV : Sta Z Z.heap "com/example/persephone/persephone/lucene/FieldKind" "$VALUES" "[Lcom/example/persephone/persephone/lucene/FieldKind;" (.ref VA)) (hv : xcs = own_L0) :
    own_Met l Z (⟨"com/example/persephone/persephone/lucene/FieldKind", "labelled", "(Ljava/lang/String;)Lcom/example/persephone/persephone/lucene/FieldKind;"⟩ : MethodName) prog_17_method_4_code 6 (some (.object "com/example/persephone/persephone/lucene/FieldKind")) ({ frames := 2, cells := 1, slots := 5, locals := 28 } : Room) n0 #[(.ref x)] h0 (fun v h => v = some (.ref kda) ∧ Keep h0 h []) := by
  refine own_met (by decide +kernel) #[.val (.ref x), .unset, .unset, .unset, .unset, .unset] (fun m => by first | (simp [entryFrame, mkF, argsToLocals, Value.category]; done) | rfl) ?_
  intro p e s m below meth c T0 C S0
  refine own_seg C S0 [(0, .aconst_null, 1), (1, .astore_n 1, 1)] (by decide +kernel) 2 #[.val (.ref x), .val .null, .unset, .unset, .unset, .unset] [] rfl ?_
  refine own_callS C S0 (own_wd hw 86 rfl) (own_wd hw 87 rfl) (own_wd hw 6 rfl) (own_wd hw 88 rfl) (by decide) (own_Met.pay (own_vs l Z a0 hw G1 G3 kda kdb kdc kdd kde VA VAk h0 n0 z0 X00 pV1 pV2 O2 O4 P5 rG3 OV) C 0 (own_wd hw 88 rfl) (own_wd hw 6 rfl) (by decide) (by decide)) (fun _ _ _ q => q.2) [] [] rfl own_pd4 rfl rfl rfl (Nat.le_of_ble_eq_true rfl) (by decide) (by decide) (by decide +kernel) ?_
  rintro T904 h905 v906 L907 S908 ⟨⟨a900, rfl, g901, K902, f903⟩, -⟩
  show own_Go p e below _ T904 (mkF m 5 #[.val (.ref x), .val .null, .unset, .unset, .unset, .unset] [(.ref a900)])
  refine own_seg C S908 [(5, .astore_n 2, 1), (6, .aload_n 2, 1)] (by decide +kernel) 7 #[.val (.ref x), .val .null, .val (.ref a900), .unset, .unset, .unset] [(.ref a900)] rfl ?_
  refine own_alen C S908 f903 (by decide +kernel) ?_
  refine own_seg C S908 [(8, .istore_n 3, 1), (9, .iconst 0, 1), (10, .istore 4, 2), (12, .iload 4, 2), (14, .iload_n 3, 1)] (by decide +kernel) 15 #[.val (.ref x), .val .null, .val (.ref a900), .val (.int 5), .val (.int 0), .unset] [(.int 5), (.int 0)] rfl ?_
  refine own_icmp C S908 (q := .ge) (o := 30) (by decide +kernel) 45 (by decide) (by decide) (fun (hq : ¬ (0 : Int32) < (5 : Int32)) => False.elim (by revert hq; decide)) (fun (q909 : (0 : Int32) < (5 : Int32)) => ?_)
  refine own_seg C S908 [(18, .aload_n 2, 1), (19, .iload 4, 2)] (by decide +kernel) 21 #[.val (.ref x), .val .null, .val (.ref a900), .val (.int 5), .val (.int 0), .unset] [(.int 0), (.ref a900)] rfl ?_
  refine own_aaload C S908 f903 rfl ⟨(by decide), (by decide)⟩ (.ref kda) rfl (by decide +kernel) ?_
  refine own_seg C S908 [(22, .astore 5, 2), (24, .aload 5, 2)] (by decide +kernel) 26 #[.val (.ref x), .val .null, .val (.ref a900), .val (.int 5), .val (.int 0), .val (.ref kda)] [(.ref kda)] rfl ?_
  have f910 := (pa2.keep K902 nin0)
  refine own_getF C S908 (host := "") (Or.inl (own_wd hw 13 rfl)) Via.refl f910 (by decide +kernel) ?_
  intro T911 S912
  refine own_seg C S912 [(29, .aload_n 0, 1)] (by decide +kernel) 30 #[.val (.ref x), .val .null, .val (.ref a900), .val (.int 5), .val (.int 0), .val (.ref kda)] [(.ref x), (.ref lsa)] rfl ?_
  have f913 := (pa3.keep K902)
  have f914 := (pa4.keep K902 nin0)
  have f915 := (pa5.keep K902 nin0)
  have f916 := (pa6.keep K902 nin0)
  have f917 := (xE.keep K902)
  have f918 := (xV.keep K902 nin0)
  have f919 := (xC.keep K902 nin0)
  have f920 := (xK.keep K902 nin0)
  have f921 := (X00.keep K902 all0)
  refine own_callV C S912 (own_wd hw 105 rfl) (own_wd hw 106 rfl) (own_wd hw 108 rfl) (own_wd hw 108 rfl) rfl (own_wd hw 107 rfl) (by decide) (Q := (fun v h' L => ((v = some (.int 1) ∧ own_L0 = xcs) ∨ (v = some (.int 0) ∧ ¬ own_L0 = xcs)) ∧ L = [] ∧ h' = h905)) (StrChars.Road.eqW (W := 0) C.2.2.2.2.2.2.2 (fun d hd => hw d (own_heq d hd)) (kI := 4) (own_wd hw 61 rfl) f913 f914 f915 f916 (own_codG own_Lp0) (own_up _ own_Lp0) (by decide) f917 f918 f919 f920 (own_codG xhp) (own_up _ xhp) (Nat.le_trans xhl (by decide)) (O2.ext f921.2) P5 (by decide) (by decide)) (fun _ _ L q => by rw [q.2.1]; exact Fr.nil _) f913 [(.ref x)] [] rfl own_pd5 rfl rfl rfl (Nat.le_of_ble_eq_true rfl) (by decide) (by decide) (by decide +kernel) ?_
  rintro T926 h927 v928 L929 S930 ⟨d925, -, e922⟩
  rw [e922] at S930; clear e922
  obtain rfl : v928 = some (.int 1) := d925.elim (fun q => q.1) (fun q => absurd hv.symm q.2)
  show own_Go p e below _ T926 (mkF m 33 #[.val (.ref x), .val .null, .val (.ref a900), .val (.int 5), .val (.int 0), .val (.ref kda)] [(.int 1)])
  refine own_if C S930 (q := .eq) (o := 6) (by decide +kernel) 39 (by decide) (by decide) (fun (hq : (1 : Int32) = (0 : Int32)) => False.elim (by revert hq; decide)) (fun (q931 : ¬ (1 : Int32) = (0 : Int32)) => ?_)
  refine own_seg C S930 [(36, .aload 5, 2), (38, .astore_n 1, 1), (39, .iinc 4 1, 3), (42, .goto (-30), 3), (12, .iload 4, 2), (14, .iload_n 3, 1)] (by decide +kernel) 15 #[.val (.ref x), .val (.ref kda), .val (.ref a900), .val (.int 5), .val (.int ((0 : Int32) + (1 : Int32))), .val (.ref kda)] [(.int 5), (.int ((0 : Int32) + (1 : Int32)))] rfl ?_
  show own_Go p e below _ T926 (mkF m 15 #[.val (.ref x), .val (.ref kda), .val (.ref a900), .val (.int 5), .val (.int 1), .val (.ref kda)] [(.int 5), (.int 1)])
  refine own_icmp C S930 (q := .ge) (o := 30) (by decide +kernel) 45 (by decide) (by decide) (fun (hq : ¬ (1 : Int32) < (5 : Int32)) => False.elim (by revert hq; decide)) (fun (q932 : (1 : Int32) < (5 : Int32)) => ?_)
  refine own_seg C S930 [(18, .aload_n 2, 1), (19, .iload 4, 2)] (by decide +kernel) 21 #[.val (.ref x), .val (.ref kda), .val (.ref a900), .val (.int 5), .val (.int 1), .val (.ref kda)] [(.int 1), (.ref a900)] rfl ?_
  refine own_aaload C S930 f903 rfl ⟨(by decide), (by decide)⟩ (.ref kdb) rfl (by decide +kernel) ?_
  refine own_seg C S930 [(22, .astore 5, 2), (24, .aload 5, 2)] (by decide +kernel) 26 #[.val (.ref x), .val (.ref kda), .val (.ref a900), .val (.int 5), .val (.int 1), .val (.ref kdb)] [(.ref kdb)] rfl ?_
  have f933 := (pb2.keep K902 nin0)
  refine own_getF C S930 (host := "") (Or.inl (own_wd hw 13 rfl)) Via.refl f933 (by decide +kernel) ?_
  intro T934 S935
  refine own_seg C S935 [(29, .aload_n 0, 1)] (by decide +kernel) 30 #[.val (.ref x), .val (.ref kda), .val (.ref a900), .val (.int 5), .val (.int 1), .val (.ref kdb)] [(.ref x), (.ref lsb)] rfl ?_
  have f936 := (pb3.keep K902)
  have f937 := (pb4.keep K902 nin0)
  have f938 := (pb5.keep K902 nin0)
  have f939 := (pb6.keep K902 nin0)
  refine own_callV C S935 (own_wd hw 105 rfl) (own_wd hw 106 rfl) (own_wd hw 108 rfl) (own_wd hw 108 rfl) rfl (own_wd hw 107 rfl) (by decide) (Q := (fun v h' L => ((v = some (.int 1) ∧ own_L1 = xcs) ∨ (v = some (.int 0) ∧ ¬ own_L1 = xcs)) ∧ L = [] ∧ h' = h905)) (StrChars.Road.eqW (W := 0) C.2.2.2.2.2.2.2 (fun d hd => hw d (own_heq d hd)) (kI := 4) (own_wd hw 61 rfl) f936 f937 f938 f939 (own_codG own_Lp1) (own_up _ own_Lp1) (by decide) f917 f918 f919 f920 (own_codG xhp) (own_up _ xhp) (Nat.le_trans xhl (by decide)) (O2.ext f921.2) P5 (by decide) (by decide)) (fun _ _ L q => by rw [q.2.1]; exact Fr.nil _) f936 [(.ref x)] [] rfl own_pd5 rfl rfl rfl (Nat.le_of_ble_eq_true rfl) (by decide) (by decide) (by decide +kernel) ?_
  rintro T944 h945 v946 L947 S948 ⟨d943, -, e940⟩
  rw [e940] at S948; clear e940
  obtain rfl : v946 = some (.int 0) := d943.elim (fun q => absurd q.2 (by rw [hv]; decide)) (fun q => q.1)
  show own_Go p e below _ T944 (mkF m 33 #[.val (.ref x), .val (.ref kda), .val (.ref a900), .val (.int 5), .val (.int 1), .val (.ref kdb)] [(.int 0)])
  refine own_if C S948 (q := .eq) (o := 6) (by decide +kernel) 39 (by decide) (by decide) (fun (q949 : (0 : Int32) = (0 : Int32)) => ?_) (fun (hq : ¬ (0 : Int32) = (0 : Int32)) => False.elim (by revert hq; decide))
  refine own_seg C S948 [(39, .iinc 4 1, 3), (42, .goto (-30), 3), (12, .iload 4, 2), (14, .iload_n 3, 1)] (by decide +kernel) 15 #[.val (.ref x), .val (.ref kda), .val (.ref a900), .val (.int 5), .val (.int ((1 : Int32) + (1 : Int32))), .val (.ref kdb)] [(.int 5), (.int ((1 : Int32) + (1 : Int32)))] rfl ?_
  show own_Go p e below _ T944 (mkF m 15 #[.val (.ref x), .val (.ref kda), .val (.ref a900), .val (.int 5), .val (.int 2), .val (.ref kdb)] [(.int 5), (.int 2)])
  refine own_icmp C S948 (q := .ge) (o := 30) (by decide +kernel) 45 (by decide) (by decide) (fun (hq : ¬ (2 : Int32) < (5 : Int32)) => False.elim (by revert hq; decide)) (fun (q950 : (2 : Int32) < (5 : Int32)) => ?_)
  refine own_seg C S948 [(18, .aload_n 2, 1), (19, .iload 4, 2)] (by decide +kernel) 21 #[.val (.ref x), .val (.ref kda), .val (.ref a900), .val (.int 5), .val (.int 2), .val (.ref kdb)] [(.int 2), (.ref a900)] rfl ?_
  refine own_aaload C S948 f903 rfl ⟨(by decide), (by decide)⟩ (.ref kdc) rfl (by decide +kernel) ?_
  refine own_seg C S948 [(22, .astore 5, 2), (24, .aload 5, 2)] (by decide +kernel) 26 #[.val (.ref x), .val (.ref kda), .val (.ref a900), .val (.int 5), .val (.int 2), .val (.ref kdc)] [(.ref kdc)] rfl ?_
  have f951 := (pc2.keep K902 nin0)
  refine own_getF C S948 (host := "") (Or.inl (own_wd hw 13 rfl)) Via.refl f951 (by decide +kernel) ?_
  intro T952 S953
  refine own_seg C S953 [(29, .aload_n 0, 1)] (by decide +kernel) 30 #[.val (.ref x), .val (.ref kda), .val (.ref a900), .val (.int 5), .val (.int 2), .val (.ref kdc)] [(.ref x), (.ref lsc)] rfl ?_
  have f954 := (pc3.keep K902)
  have f955 := (pc4.keep K902 nin0)
  have f956 := (pc5.keep K902 nin0)
  have f957 := (pc6.keep K902 nin0)
  refine own_callV C S953 (own_wd hw 105 rfl) (own_wd hw 106 rfl) (own_wd hw 108 rfl) (own_wd hw 108 rfl) rfl (own_wd hw 107 rfl) (by decide) (Q := (fun v h' L => ((v = some (.int 1) ∧ own_L2 = xcs) ∨ (v = some (.int 0) ∧ ¬ own_L2 = xcs)) ∧ L = [] ∧ h' = h905)) (StrChars.Road.eqW (W := 0) C.2.2.2.2.2.2.2 (fun d hd => hw d (own_heq d hd)) (kI := 4) (own_wd hw 61 rfl) f954 f955 f956 f957 (own_codG own_Lp2) (own_up _ own_Lp2) (by decide) f917 f918 f919 f920 (own_codG xhp) (own_up _ xhp) (Nat.le_trans xhl (by decide)) (O2.ext f921.2) P5 (by decide) (by decide)) (fun _ _ L q => by rw [q.2.1]; exact Fr.nil _) f954 [(.ref x)] [] rfl own_pd5 rfl rfl rfl (Nat.le_of_ble_eq_true rfl) (by decide) (by decide) (by decide +kernel) ?_
  rintro T962 h963 v964 L965 S966 ⟨d961, -, e958⟩
  rw [e958] at S966; clear e958
  obtain rfl : v964 = some (.int 0) := d961.elim (fun q => absurd q.2 (by rw [hv]; decide)) (fun q => q.1)
  show own_Go p e below _ T962 (mkF m 33 #[.val (.ref x), .val (.ref kda), .val (.ref a900), .val (.int 5), .val (.int 2), .val (.ref kdc)] [(.int 0)])
  refine own_if C S966 (q := .eq) (o := 6) (by decide +kernel) 39 (by decide) (by decide) (fun (q967 : (0 : Int32) = (0 : Int32)) => ?_) (fun (hq : ¬ (0 : Int32) = (0 : Int32)) => False.elim (by revert hq; decide))
  refine own_seg C S966 [(39, .iinc 4 1, 3), (42, .goto (-30), 3), (12, .iload 4, 2), (14, .iload_n 3, 1)] (by decide +kernel) 15 #[.val (.ref x), .val (.ref kda), .val (.ref a900), .val (.int 5), .val (.int ((2 : Int32) + (1 : Int32))), .val (.ref kdc)] [(.int 5), (.int ((2 : Int32) + (1 : Int32)))] rfl ?_
  show own_Go p e below _ T962 (mkF m 15 #[.val (.ref x), .val (.ref kda), .val (.ref a900), .val (.int 5), .val (.int 3), .val (.ref kdc)] [(.int 5), (.int 3)])
  refine own_icmp C S966 (q := .ge) (o := 30) (by decide +kernel) 45 (by decide) (by decide) (fun (hq : ¬ (3 : Int32) < (5 : Int32)) => False.elim (by revert hq; decide)) (fun (q968 : (3 : Int32) < (5 : Int32)) => ?_)
  refine own_seg C S966 [(18, .aload_n 2, 1), (19, .iload 4, 2)] (by decide +kernel) 21 #[.val (.ref x), .val (.ref kda), .val (.ref a900), .val (.int 5), .val (.int 3), .val (.ref kdc)] [(.int 3), (.ref a900)] rfl ?_
  refine own_aaload C S966 f903 rfl ⟨(by decide), (by decide)⟩ (.ref kdd) rfl (by decide +kernel) ?_
  refine own_seg C S966 [(22, .astore 5, 2), (24, .aload 5, 2)] (by decide +kernel) 26 #[.val (.ref x), .val (.ref kda), .val (.ref a900), .val (.int 5), .val (.int 3), .val (.ref kdd)] [(.ref kdd)] rfl ?_
  have f969 := (pd2.keep K902 nin0)
  refine own_getF C S966 (host := "") (Or.inl (own_wd hw 13 rfl)) Via.refl f969 (by decide +kernel) ?_
  intro T970 S971
  refine own_seg C S971 [(29, .aload_n 0, 1)] (by decide +kernel) 30 #[.val (.ref x), .val (.ref kda), .val (.ref a900), .val (.int 5), .val (.int 3), .val (.ref kdd)] [(.ref x), (.ref lsd)] rfl ?_
  have f972 := (pd3.keep K902)
  have f973 := (pd4.keep K902 nin0)
  have f974 := (pd5.keep K902 nin0)
  have f975 := (pd6.keep K902 nin0)
  refine own_callV C S971 (own_wd hw 105 rfl) (own_wd hw 106 rfl) (own_wd hw 108 rfl) (own_wd hw 108 rfl) rfl (own_wd hw 107 rfl) (by decide) (Q := (fun v h' L => ((v = some (.int 1) ∧ own_L3 = xcs) ∨ (v = some (.int 0) ∧ ¬ own_L3 = xcs)) ∧ L = [] ∧ h' = h905)) (StrChars.Road.eqW (W := 0) C.2.2.2.2.2.2.2 (fun d hd => hw d (own_heq d hd)) (kI := 4) (own_wd hw 61 rfl) f972 f973 f974 f975 (own_codG own_Lp3) (own_up _ own_Lp3) (by decide) f917 f918 f919 f920 (own_codG xhp) (own_up _ xhp) (Nat.le_trans xhl (by decide)) (O2.ext f921.2) P5 (by decide) (by decide)) (fun _ _ L q => by rw [q.2.1]; exact Fr.nil _) f972 [(.ref x)] [] rfl own_pd5 rfl rfl rfl (Nat.le_of_ble_eq_true rfl) (by decide) (by decide) (by decide +kernel) ?_
  rintro T980 h981 v982 L983 S984 ⟨d979, -, e976⟩
  rw [e976] at S984; clear e976
  obtain rfl : v982 = some (.int 0) := d979.elim (fun q => absurd q.2 (by rw [hv]; decide)) (fun q => q.1)
  show own_Go p e below _ T980 (mkF m 33 #[.val (.ref x), .val (.ref kda), .val (.ref a900), .val (.int 5), .val (.int 3), .val (.ref kdd)] [(.int 0)])
  refine own_if C S984 (q := .eq) (o := 6) (by decide +kernel) 39 (by decide) (by decide) (fun (q985 : (0 : Int32) = (0 : Int32)) => ?_) (fun (hq : ¬ (0 : Int32) = (0 : Int32)) => False.elim (by revert hq; decide))
  refine own_seg C S984 [(39, .iinc 4 1, 3), (42, .goto (-30), 3), (12, .iload 4, 2), (14, .iload_n 3, 1)] (by decide +kernel) 15 #[.val (.ref x), .val (.ref kda), .val (.ref a900), .val (.int 5), .val (.int ((3 : Int32) + (1 : Int32))), .val (.ref kdd)] [(.int 5), (.int ((3 : Int32) + (1 : Int32)))] rfl ?_
  show own_Go p e below _ T980 (mkF m 15 #[.val (.ref x), .val (.ref kda), .val (.ref a900), .val (.int 5), .val (.int 4), .val (.ref kdd)] [(.int 5), (.int 4)])
  refine own_icmp C S984 (q := .ge) (o := 30) (by decide +kernel) 45 (by decide) (by decide) (fun (hq : ¬ (4 : Int32) < (5 : Int32)) => False.elim (by revert hq; decide)) (fun (q986 : (4 : Int32) < (5 : Int32)) => ?_)
  refine own_seg C S984 [(18, .aload_n 2, 1), (19, .iload 4, 2)] (by decide +kernel) 21 #[.val (.ref x), .val (.ref kda), .val (.ref a900), .val (.int 5), .val (.int 4), .val (.ref kdd)] [(.int 4), (.ref a900)] rfl ?_
  refine own_aaload C S984 f903 rfl ⟨(by decide), (by decide)⟩ (.ref kde) rfl (by decide +kernel) ?_
  refine own_seg C S984 [(22, .astore 5, 2), (24, .aload 5, 2)] (by decide +kernel) 26 #[.val (.ref x), .val (.ref kda), .val (.ref a900), .val (.int 5), .val (.int 4), .val (.ref kde)] [(.ref kde)] rfl ?_
  have f987 := (pe2.keep K902 nin0)
  refine own_getF C S984 (host := "") (Or.inl (own_wd hw 13 rfl)) Via.refl f987 (by decide +kernel) ?_
  intro T988 S989
  refine own_seg C S989 [(29, .aload_n 0, 1)] (by decide +kernel) 30 #[.val (.ref x), .val (.ref kda), .val (.ref a900), .val (.int 5), .val (.int 4), .val (.ref kde)] [(.ref x), (.ref lse)] rfl ?_
  have f990 := (pe3.keep K902)
  have f991 := (pe4.keep K902 nin0)
  have f992 := (pe5.keep K902 nin0)
  have f993 := (pe6.keep K902 nin0)
  refine own_callV C S989 (own_wd hw 105 rfl) (own_wd hw 106 rfl) (own_wd hw 108 rfl) (own_wd hw 108 rfl) rfl (own_wd hw 107 rfl) (by decide) (Q := (fun v h' L => ((v = some (.int 1) ∧ own_L4 = xcs) ∨ (v = some (.int 0) ∧ ¬ own_L4 = xcs)) ∧ L = [] ∧ h' = h905)) (StrChars.Road.eqW (W := 0) C.2.2.2.2.2.2.2 (fun d hd => hw d (own_heq d hd)) (kI := 4) (own_wd hw 61 rfl) f990 f991 f992 f993 (own_codG own_Lp4) (own_up _ own_Lp4) (by decide) f917 f918 f919 f920 (own_codG xhp) (own_up _ xhp) (Nat.le_trans xhl (by decide)) (O2.ext f921.2) P5 (by decide) (by decide)) (fun _ _ L q => by rw [q.2.1]; exact Fr.nil _) f990 [(.ref x)] [] rfl own_pd5 rfl rfl rfl (Nat.le_of_ble_eq_true rfl) (by decide) (by decide) (by decide +kernel) ?_
  rintro T998 h999 v1000 L1001 S1002 ⟨d997, -, e994⟩
  rw [e994] at S1002; clear e994
  obtain rfl : v1000 = some (.int 0) := d997.elim (fun q => absurd q.2 (by rw [hv]; decide)) (fun q => q.1)
  show own_Go p e below _ T998 (mkF m 33 #[.val (.ref x), .val (.ref kda), .val (.ref a900), .val (.int 5), .val (.int 4), .val (.ref kde)] [(.int 0)])
  refine own_if C S1002 (q := .eq) (o := 6) (by decide +kernel) 39 (by decide) (by decide) (fun (q1003 : (0 : Int32) = (0 : Int32)) => ?_) (fun (hq : ¬ (0 : Int32) = (0 : Int32)) => False.elim (by revert hq; decide))
  refine own_seg C S1002 [(39, .iinc 4 1, 3), (42, .goto (-30), 3), (12, .iload 4, 2), (14, .iload_n 3, 1)] (by decide +kernel) 15 #[.val (.ref x), .val (.ref kda), .val (.ref a900), .val (.int 5), .val (.int ((4 : Int32) + (1 : Int32))), .val (.ref kde)] [(.int 5), (.int ((4 : Int32) + (1 : Int32)))] rfl ?_
  show own_Go p e below _ T998 (mkF m 15 #[.val (.ref x), .val (.ref kda), .val (.ref a900), .val (.int 5), .val (.int 5), .val (.ref kde)] [(.int 5), (.int 5)])
  refine own_icmp C S1002 (q := .ge) (o := 30) (by decide +kernel) 45 (by decide) (by decide) (fun (q1004 : ¬ (5 : Int32) < (5 : Int32)) => ?_) (fun (hq : (5 : Int32) < (5 : Int32)) => False.elim (by revert hq; decide))
  refine own_seg C S1002 [(45, .aload_n 1, 1)] (by decide +kernel) 46 #[.val (.ref x), .val (.ref kda), .val (.ref a900), .val (.int 5), .val (.int 5), .val (.ref kde)] [(.ref kda)] rfl ?_
  refine own_retA C S1002 rfl rfl (by decide +kernel) (by decide) (by decide) ?_
  exact ⟨rfl, ((Keep.refl _ _).trans K902 all0)⟩
theorem own_lb1 (l : Launch) (Z : State) (a0 : Array Value) (hw : ∀ d ∈ tables_1, d.before a0 Z = true) (G1 : Int32) (G3 : Value) (kda : Addr) (kdb : Addr) (kdc : Addr) (kdd : Addr) (kde : Addr) (lsa : Addr) (lsat : Addr) (lsak : ClassId) (lsb : Addr) (lsbt : Addr) (lsbk : ClassId) (lsc : Addr) (lsct : Addr) (lsck : ClassId) (lsd : Addr) (lsdt : Addr) (lsdk : ClassId) (lse : Addr) (lset : Addr) (lsek : ClassId) (VA : Addr) (VAk : ClassId) (x : Addr) (xt : Addr) (xk : ClassId) (xcs : List Int32) (h0 : Heap) (n0 : Nat) (z0 : n0 ≤ h0.size) (X00 : Old Z n0 h0) (xE : Exa Z h0 x "java/lang/String") (xV : Fld Z h0 x "java/lang/String" "value" "[B" (.ref xt)) (xC : Fld Z h0 x "java/lang/String" "coder" "B" (.int 0)) (xK : Arv Z h0 xt xk .byte (Int32.ofNat (xcs).length) (own_sv xcs) (.int 0)) (pa1 : Exa Z h0 kda "com/example/persephone/persephone/lucene/FieldKind") (pa2 : Fld Z h0 kda "com/example/persephone/persephone/lucene/FieldKind" "label" "Ljava/lang/String;" (.ref lsa)) (pa3 : Exa Z h0 lsa "java/lang/String") (pa4 : Fld Z h0 lsa "java/lang/String" "value" "[B" (.ref lsat)) (pa5 : Fld Z h0 lsa "java/lang/String" "coder" "B" (.int 0)) (pa6 : Arv Z h0 lsat lsak .byte (Int32.ofNat (own_L0).length) (own_sv own_L0) (.int 0)) (pb1 : Exa Z h0 kdb "com/example/persephone/persephone/lucene/FieldKind") (pb2 : Fld Z h0 kdb "com/example/persephone/persephone/lucene/FieldKind" "label" "Ljava/lang/String;" (.ref lsb)) (pb3 : Exa Z h0 lsb "java/lang/String") (pb4 : Fld Z h0 lsb "java/lang/String" "value" "[B" (.ref lsbt)) (pb5 : Fld Z h0 lsb "java/lang/String" "coder" "B" (.int 0)) (pb6 : Arv Z h0 lsbt lsbk .byte (Int32.ofNat (own_L1).length) (own_sv own_L1) (.int 0)) (pc1 : Exa Z h0 kdc "com/example/persephone/persephone/lucene/FieldKind") (pc2 : Fld Z h0 kdc "com/example/persephone/persephone/lucene/FieldKind" "label" "Ljava/lang/String;" (.ref lsc)) (pc3 : Exa Z h0 lsc "java/lang/String") (pc4 : Fld Z h0 lsc "java/lang/String" "value" "[B" (.ref lsct)) (pc5 : Fld Z h0 lsc "java/lang/String" "coder" "B" (.int 0)) (pc6 : Arv Z h0 lsct lsck .byte (Int32.ofNat (own_L2).length) (own_sv own_L2) (.int 0)) (pd1 : Exa Z h0 kdd "com/example/persephone/persephone/lucene/FieldKind") (pd2 : Fld Z h0 kdd "com/example/persephone/persephone/lucene/FieldKind" "label" "Ljava/lang/String;" (.ref lsd)) (pd3 : Exa Z h0 lsd "java/lang/String") (pd4 : Fld Z h0 lsd "java/lang/String" "value" "[B" (.ref lsdt)) (pd5 : Fld Z h0 lsd "java/lang/String" "coder" "B" (.int 0)) (pd6 : Arv Z h0 lsdt lsdk .byte (Int32.ofNat (own_L3).length) (own_sv own_L3) (.int 0)) (pe1 : Exa Z h0 kde "com/example/persephone/persephone/lucene/FieldKind") (pe2 : Fld Z h0 kde "com/example/persephone/persephone/lucene/FieldKind" "label" "Ljava/lang/String;" (.ref lse)) (pe3 : Exa Z h0 lse "java/lang/String") (pe4 : Fld Z h0 lse "java/lang/String" "value" "[B" (.ref lset)) (pe5 : Fld Z h0 lse "java/lang/String" "coder" "B" (.int 0)) (pe6 : Arv Z h0 lset lsek .byte (Int32.ofNat (own_L4).length) (own_sv own_L4) (.int 0)) (pV1 : Exa Z h0 VA "[Lcom/example/persephone/persephone/lucene/FieldKind;") (pV2 : Arv Z h0 VA VAk (.object "com/example/persephone/persephone/lucene/FieldKind") (5 : Int32) ([(.ref kda), (.ref kdb), (.ref kdc), (.ref kdd), (.ref kde)]) .null) (O2 : Sta Z Z.heap "java/lang/String" "COMPACT_STRINGS" "Z" (.int G1)) (O4 : Sta Z Z.heap "jdk/internal/util/Preconditions" "SIOOBE_FORMATTER" "Ljava/util/function/BiFunction;" G3) (P5 : ¬ G1 = (0 : Int32)) (rG3 : G3.isRef = true) (xhp : ∀ c ∈ xcs, ¬ c < 0 ∧ ¬ (255 : Int32) < c) (xhl : xcs.length ≤ 8) (OV : Sta Z Z.heap "com/example/persephone/persephone/lucene/FieldKind" "$VALUES" "[Lcom/example/persephone/persephone/lucene/FieldKind;" (.ref VA)) (hv : xcs = own_L1) :
    own_Met l Z (⟨"com/example/persephone/persephone/lucene/FieldKind", "labelled", "(Ljava/lang/String;)Lcom/example/persephone/persephone/lucene/FieldKind;"⟩ : MethodName) prog_17_method_4_code 6 (some (.object "com/example/persephone/persephone/lucene/FieldKind")) ({ frames := 2, cells := 1, slots := 5, locals := 28 } : Room) n0 #[(.ref x)] h0 (fun v h => v = some (.ref kdb) ∧ Keep h0 h []) := by
  refine own_met (by decide +kernel) #[.val (.ref x), .unset, .unset, .unset, .unset, .unset] (fun m => by first | (simp [entryFrame, mkF, argsToLocals, Value.category]; done) | rfl) ?_
  intro p e s m below meth c T0 C S0
  refine own_seg C S0 [(0, .aconst_null, 1), (1, .astore_n 1, 1)] (by decide +kernel) 2 #[.val (.ref x), .val .null, .unset, .unset, .unset, .unset] [] rfl ?_
  refine own_callS C S0 (own_wd hw 86 rfl) (own_wd hw 87 rfl) (own_wd hw 6 rfl) (own_wd hw 88 rfl) (by decide) (own_Met.pay (own_vs l Z a0 hw G1 G3 kda kdb kdc kdd kde VA VAk h0 n0 z0 X00 pV1 pV2 O2 O4 P5 rG3 OV) C 0 (own_wd hw 88 rfl) (own_wd hw 6 rfl) (by decide) (by decide)) (fun _ _ _ q => q.2) [] [] rfl own_pd4 rfl rfl rfl (Nat.le_of_ble_eq_true rfl) (by decide) (by decide) (by decide +kernel) ?_
  rintro T1009 h1010 v1011 L1012 S1013 ⟨⟨a1005, rfl, g1006, K1007, f1008⟩, -⟩
  show own_Go p e below _ T1009 (mkF m 5 #[.val (.ref x), .val .null, .unset, .unset, .unset, .unset] [(.ref a1005)])
  refine own_seg C S1013 [(5, .astore_n 2, 1), (6, .aload_n 2, 1)] (by decide +kernel) 7 #[.val (.ref x), .val .null, .val (.ref a1005), .unset, .unset, .unset] [(.ref a1005)] rfl ?_
  refine own_alen C S1013 f1008 (by decide +kernel) ?_
  refine own_seg C S1013 [(8, .istore_n 3, 1), (9, .iconst 0, 1), (10, .istore 4, 2), (12, .iload 4, 2), (14, .iload_n 3, 1)] (by decide +kernel) 15 #[.val (.ref x), .val .null, .val (.ref a1005), .val (.int 5), .val (.int 0), .unset] [(.int 5), (.int 0)] rfl ?_
  refine own_icmp C S1013 (q := .ge) (o := 30) (by decide +kernel) 45 (by decide) (by decide) (fun (hq : ¬ (0 : Int32) < (5 : Int32)) => False.elim (by revert hq; decide)) (fun (q1014 : (0 : Int32) < (5 : Int32)) => ?_)
  refine own_seg C S1013 [(18, .aload_n 2, 1), (19, .iload 4, 2)] (by decide +kernel) 21 #[.val (.ref x), .val .null, .val (.ref a1005), .val (.int 5), .val (.int 0), .unset] [(.int 0), (.ref a1005)] rfl ?_
  refine own_aaload C S1013 f1008 rfl ⟨(by decide), (by decide)⟩ (.ref kda) rfl (by decide +kernel) ?_
  refine own_seg C S1013 [(22, .astore 5, 2), (24, .aload 5, 2)] (by decide +kernel) 26 #[.val (.ref x), .val .null, .val (.ref a1005), .val (.int 5), .val (.int 0), .val (.ref kda)] [(.ref kda)] rfl ?_
  have f1015 := (pa2.keep K1007 nin0)
  refine own_getF C S1013 (host := "") (Or.inl (own_wd hw 13 rfl)) Via.refl f1015 (by decide +kernel) ?_
  intro T1016 S1017
  refine own_seg C S1017 [(29, .aload_n 0, 1)] (by decide +kernel) 30 #[.val (.ref x), .val .null, .val (.ref a1005), .val (.int 5), .val (.int 0), .val (.ref kda)] [(.ref x), (.ref lsa)] rfl ?_
  have f1018 := (pa3.keep K1007)
  have f1019 := (pa4.keep K1007 nin0)
  have f1020 := (pa5.keep K1007 nin0)
  have f1021 := (pa6.keep K1007 nin0)
  have f1022 := (xE.keep K1007)
  have f1023 := (xV.keep K1007 nin0)
  have f1024 := (xC.keep K1007 nin0)
  have f1025 := (xK.keep K1007 nin0)
  have f1026 := (X00.keep K1007 all0)
  refine own_callV C S1017 (own_wd hw 105 rfl) (own_wd hw 106 rfl) (own_wd hw 108 rfl) (own_wd hw 108 rfl) rfl (own_wd hw 107 rfl) (by decide) (Q := (fun v h' L => ((v = some (.int 1) ∧ own_L0 = xcs) ∨ (v = some (.int 0) ∧ ¬ own_L0 = xcs)) ∧ L = [] ∧ h' = h1010)) (StrChars.Road.eqW (W := 0) C.2.2.2.2.2.2.2 (fun d hd => hw d (own_heq d hd)) (kI := 4) (own_wd hw 61 rfl) f1018 f1019 f1020 f1021 (own_codG own_Lp0) (own_up _ own_Lp0) (by decide) f1022 f1023 f1024 f1025 (own_codG xhp) (own_up _ xhp) (Nat.le_trans xhl (by decide)) (O2.ext f1026.2) P5 (by decide) (by decide)) (fun _ _ L q => by rw [q.2.1]; exact Fr.nil _) f1018 [(.ref x)] [] rfl own_pd5 rfl rfl rfl (Nat.le_of_ble_eq_true rfl) (by decide) (by decide) (by decide +kernel) ?_
  rintro T1031 h1032 v1033 L1034 S1035 ⟨d1030, -, e1027⟩
  rw [e1027] at S1035; clear e1027
  obtain rfl : v1033 = some (.int 0) := d1030.elim (fun q => absurd q.2 (by rw [hv]; decide)) (fun q => q.1)
  show own_Go p e below _ T1031 (mkF m 33 #[.val (.ref x), .val .null, .val (.ref a1005), .val (.int 5), .val (.int 0), .val (.ref kda)] [(.int 0)])
  refine own_if C S1035 (q := .eq) (o := 6) (by decide +kernel) 39 (by decide) (by decide) (fun (q1036 : (0 : Int32) = (0 : Int32)) => ?_) (fun (hq : ¬ (0 : Int32) = (0 : Int32)) => False.elim (by revert hq; decide))
  refine own_seg C S1035 [(39, .iinc 4 1, 3), (42, .goto (-30), 3), (12, .iload 4, 2), (14, .iload_n 3, 1)] (by decide +kernel) 15 #[.val (.ref x), .val .null, .val (.ref a1005), .val (.int 5), .val (.int ((0 : Int32) + (1 : Int32))), .val (.ref kda)] [(.int 5), (.int ((0 : Int32) + (1 : Int32)))] rfl ?_
  show own_Go p e below _ T1031 (mkF m 15 #[.val (.ref x), .val .null, .val (.ref a1005), .val (.int 5), .val (.int 1), .val (.ref kda)] [(.int 5), (.int 1)])
  refine own_icmp C S1035 (q := .ge) (o := 30) (by decide +kernel) 45 (by decide) (by decide) (fun (hq : ¬ (1 : Int32) < (5 : Int32)) => False.elim (by revert hq; decide)) (fun (q1037 : (1 : Int32) < (5 : Int32)) => ?_)
  refine own_seg C S1035 [(18, .aload_n 2, 1), (19, .iload 4, 2)] (by decide +kernel) 21 #[.val (.ref x), .val .null, .val (.ref a1005), .val (.int 5), .val (.int 1), .val (.ref kda)] [(.int 1), (.ref a1005)] rfl ?_
  refine own_aaload C S1035 f1008 rfl ⟨(by decide), (by decide)⟩ (.ref kdb) rfl (by decide +kernel) ?_
  refine own_seg C S1035 [(22, .astore 5, 2), (24, .aload 5, 2)] (by decide +kernel) 26 #[.val (.ref x), .val .null, .val (.ref a1005), .val (.int 5), .val (.int 1), .val (.ref kdb)] [(.ref kdb)] rfl ?_
  have f1038 := (pb2.keep K1007 nin0)
  refine own_getF C S1035 (host := "") (Or.inl (own_wd hw 13 rfl)) Via.refl f1038 (by decide +kernel) ?_
  intro T1039 S1040
  refine own_seg C S1040 [(29, .aload_n 0, 1)] (by decide +kernel) 30 #[.val (.ref x), .val .null, .val (.ref a1005), .val (.int 5), .val (.int 1), .val (.ref kdb)] [(.ref x), (.ref lsb)] rfl ?_
  have f1041 := (pb3.keep K1007)
  have f1042 := (pb4.keep K1007 nin0)
  have f1043 := (pb5.keep K1007 nin0)
  have f1044 := (pb6.keep K1007 nin0)
  refine own_callV C S1040 (own_wd hw 105 rfl) (own_wd hw 106 rfl) (own_wd hw 108 rfl) (own_wd hw 108 rfl) rfl (own_wd hw 107 rfl) (by decide) (Q := (fun v h' L => ((v = some (.int 1) ∧ own_L1 = xcs) ∨ (v = some (.int 0) ∧ ¬ own_L1 = xcs)) ∧ L = [] ∧ h' = h1010)) (StrChars.Road.eqW (W := 0) C.2.2.2.2.2.2.2 (fun d hd => hw d (own_heq d hd)) (kI := 4) (own_wd hw 61 rfl) f1041 f1042 f1043 f1044 (own_codG own_Lp1) (own_up _ own_Lp1) (by decide) f1022 f1023 f1024 f1025 (own_codG xhp) (own_up _ xhp) (Nat.le_trans xhl (by decide)) (O2.ext f1026.2) P5 (by decide) (by decide)) (fun _ _ L q => by rw [q.2.1]; exact Fr.nil _) f1041 [(.ref x)] [] rfl own_pd5 rfl rfl rfl (Nat.le_of_ble_eq_true rfl) (by decide) (by decide) (by decide +kernel) ?_
  rintro T1049 h1050 v1051 L1052 S1053 ⟨d1048, -, e1045⟩
  rw [e1045] at S1053; clear e1045
  obtain rfl : v1051 = some (.int 1) := d1048.elim (fun q => q.1) (fun q => absurd hv.symm q.2)
  show own_Go p e below _ T1049 (mkF m 33 #[.val (.ref x), .val .null, .val (.ref a1005), .val (.int 5), .val (.int 1), .val (.ref kdb)] [(.int 1)])
  refine own_if C S1053 (q := .eq) (o := 6) (by decide +kernel) 39 (by decide) (by decide) (fun (hq : (1 : Int32) = (0 : Int32)) => False.elim (by revert hq; decide)) (fun (q1054 : ¬ (1 : Int32) = (0 : Int32)) => ?_)
  refine own_seg C S1053 [(36, .aload 5, 2), (38, .astore_n 1, 1), (39, .iinc 4 1, 3), (42, .goto (-30), 3), (12, .iload 4, 2), (14, .iload_n 3, 1)] (by decide +kernel) 15 #[.val (.ref x), .val (.ref kdb), .val (.ref a1005), .val (.int 5), .val (.int ((1 : Int32) + (1 : Int32))), .val (.ref kdb)] [(.int 5), (.int ((1 : Int32) + (1 : Int32)))] rfl ?_
  show own_Go p e below _ T1049 (mkF m 15 #[.val (.ref x), .val (.ref kdb), .val (.ref a1005), .val (.int 5), .val (.int 2), .val (.ref kdb)] [(.int 5), (.int 2)])
  refine own_icmp C S1053 (q := .ge) (o := 30) (by decide +kernel) 45 (by decide) (by decide) (fun (hq : ¬ (2 : Int32) < (5 : Int32)) => False.elim (by revert hq; decide)) (fun (q1055 : (2 : Int32) < (5 : Int32)) => ?_)
  refine own_seg C S1053 [(18, .aload_n 2, 1), (19, .iload 4, 2)] (by decide +kernel) 21 #[.val (.ref x), .val (.ref kdb), .val (.ref a1005), .val (.int 5), .val (.int 2), .val (.ref kdb)] [(.int 2), (.ref a1005)] rfl ?_
  refine own_aaload C S1053 f1008 rfl ⟨(by decide), (by decide)⟩ (.ref kdc) rfl (by decide +kernel) ?_
  refine own_seg C S1053 [(22, .astore 5, 2), (24, .aload 5, 2)] (by decide +kernel) 26 #[.val (.ref x), .val (.ref kdb), .val (.ref a1005), .val (.int 5), .val (.int 2), .val (.ref kdc)] [(.ref kdc)] rfl ?_
  have f1056 := (pc2.keep K1007 nin0)
  refine own_getF C S1053 (host := "") (Or.inl (own_wd hw 13 rfl)) Via.refl f1056 (by decide +kernel) ?_
  intro T1057 S1058
  refine own_seg C S1058 [(29, .aload_n 0, 1)] (by decide +kernel) 30 #[.val (.ref x), .val (.ref kdb), .val (.ref a1005), .val (.int 5), .val (.int 2), .val (.ref kdc)] [(.ref x), (.ref lsc)] rfl ?_
  have f1059 := (pc3.keep K1007)
  have f1060 := (pc4.keep K1007 nin0)
  have f1061 := (pc5.keep K1007 nin0)
  have f1062 := (pc6.keep K1007 nin0)
  refine own_callV C S1058 (own_wd hw 105 rfl) (own_wd hw 106 rfl) (own_wd hw 108 rfl) (own_wd hw 108 rfl) rfl (own_wd hw 107 rfl) (by decide) (Q := (fun v h' L => ((v = some (.int 1) ∧ own_L2 = xcs) ∨ (v = some (.int 0) ∧ ¬ own_L2 = xcs)) ∧ L = [] ∧ h' = h1010)) (StrChars.Road.eqW (W := 0) C.2.2.2.2.2.2.2 (fun d hd => hw d (own_heq d hd)) (kI := 4) (own_wd hw 61 rfl) f1059 f1060 f1061 f1062 (own_codG own_Lp2) (own_up _ own_Lp2) (by decide) f1022 f1023 f1024 f1025 (own_codG xhp) (own_up _ xhp) (Nat.le_trans xhl (by decide)) (O2.ext f1026.2) P5 (by decide) (by decide)) (fun _ _ L q => by rw [q.2.1]; exact Fr.nil _) f1059 [(.ref x)] [] rfl own_pd5 rfl rfl rfl (Nat.le_of_ble_eq_true rfl) (by decide) (by decide) (by decide +kernel) ?_
  rintro T1067 h1068 v1069 L1070 S1071 ⟨d1066, -, e1063⟩
  rw [e1063] at S1071; clear e1063
  obtain rfl : v1069 = some (.int 0) := d1066.elim (fun q => absurd q.2 (by rw [hv]; decide)) (fun q => q.1)
  show own_Go p e below _ T1067 (mkF m 33 #[.val (.ref x), .val (.ref kdb), .val (.ref a1005), .val (.int 5), .val (.int 2), .val (.ref kdc)] [(.int 0)])
  refine own_if C S1071 (q := .eq) (o := 6) (by decide +kernel) 39 (by decide) (by decide) (fun (q1072 : (0 : Int32) = (0 : Int32)) => ?_) (fun (hq : ¬ (0 : Int32) = (0 : Int32)) => False.elim (by revert hq; decide))
  refine own_seg C S1071 [(39, .iinc 4 1, 3), (42, .goto (-30), 3), (12, .iload 4, 2), (14, .iload_n 3, 1)] (by decide +kernel) 15 #[.val (.ref x), .val (.ref kdb), .val (.ref a1005), .val (.int 5), .val (.int ((2 : Int32) + (1 : Int32))), .val (.ref kdc)] [(.int 5), (.int ((2 : Int32) + (1 : Int32)))] rfl ?_
  show own_Go p e below _ T1067 (mkF m 15 #[.val (.ref x), .val (.ref kdb), .val (.ref a1005), .val (.int 5), .val (.int 3), .val (.ref kdc)] [(.int 5), (.int 3)])
  refine own_icmp C S1071 (q := .ge) (o := 30) (by decide +kernel) 45 (by decide) (by decide) (fun (hq : ¬ (3 : Int32) < (5 : Int32)) => False.elim (by revert hq; decide)) (fun (q1073 : (3 : Int32) < (5 : Int32)) => ?_)
  refine own_seg C S1071 [(18, .aload_n 2, 1), (19, .iload 4, 2)] (by decide +kernel) 21 #[.val (.ref x), .val (.ref kdb), .val (.ref a1005), .val (.int 5), .val (.int 3), .val (.ref kdc)] [(.int 3), (.ref a1005)] rfl ?_
  refine own_aaload C S1071 f1008 rfl ⟨(by decide), (by decide)⟩ (.ref kdd) rfl (by decide +kernel) ?_
  refine own_seg C S1071 [(22, .astore 5, 2), (24, .aload 5, 2)] (by decide +kernel) 26 #[.val (.ref x), .val (.ref kdb), .val (.ref a1005), .val (.int 5), .val (.int 3), .val (.ref kdd)] [(.ref kdd)] rfl ?_
  have f1074 := (pd2.keep K1007 nin0)
  refine own_getF C S1071 (host := "") (Or.inl (own_wd hw 13 rfl)) Via.refl f1074 (by decide +kernel) ?_
  intro T1075 S1076
  refine own_seg C S1076 [(29, .aload_n 0, 1)] (by decide +kernel) 30 #[.val (.ref x), .val (.ref kdb), .val (.ref a1005), .val (.int 5), .val (.int 3), .val (.ref kdd)] [(.ref x), (.ref lsd)] rfl ?_
  have f1077 := (pd3.keep K1007)
  have f1078 := (pd4.keep K1007 nin0)
  have f1079 := (pd5.keep K1007 nin0)
  have f1080 := (pd6.keep K1007 nin0)
  refine own_callV C S1076 (own_wd hw 105 rfl) (own_wd hw 106 rfl) (own_wd hw 108 rfl) (own_wd hw 108 rfl) rfl (own_wd hw 107 rfl) (by decide) (Q := (fun v h' L => ((v = some (.int 1) ∧ own_L3 = xcs) ∨ (v = some (.int 0) ∧ ¬ own_L3 = xcs)) ∧ L = [] ∧ h' = h1010)) (StrChars.Road.eqW (W := 0) C.2.2.2.2.2.2.2 (fun d hd => hw d (own_heq d hd)) (kI := 4) (own_wd hw 61 rfl) f1077 f1078 f1079 f1080 (own_codG own_Lp3) (own_up _ own_Lp3) (by decide) f1022 f1023 f1024 f1025 (own_codG xhp) (own_up _ xhp) (Nat.le_trans xhl (by decide)) (O2.ext f1026.2) P5 (by decide) (by decide)) (fun _ _ L q => by rw [q.2.1]; exact Fr.nil _) f1077 [(.ref x)] [] rfl own_pd5 rfl rfl rfl (Nat.le_of_ble_eq_true rfl) (by decide) (by decide) (by decide +kernel) ?_
  rintro T1085 h1086 v1087 L1088 S1089 ⟨d1084, -, e1081⟩
  rw [e1081] at S1089; clear e1081
  obtain rfl : v1087 = some (.int 0) := d1084.elim (fun q => absurd q.2 (by rw [hv]; decide)) (fun q => q.1)
  show own_Go p e below _ T1085 (mkF m 33 #[.val (.ref x), .val (.ref kdb), .val (.ref a1005), .val (.int 5), .val (.int 3), .val (.ref kdd)] [(.int 0)])
  refine own_if C S1089 (q := .eq) (o := 6) (by decide +kernel) 39 (by decide) (by decide) (fun (q1090 : (0 : Int32) = (0 : Int32)) => ?_) (fun (hq : ¬ (0 : Int32) = (0 : Int32)) => False.elim (by revert hq; decide))
  refine own_seg C S1089 [(39, .iinc 4 1, 3), (42, .goto (-30), 3), (12, .iload 4, 2), (14, .iload_n 3, 1)] (by decide +kernel) 15 #[.val (.ref x), .val (.ref kdb), .val (.ref a1005), .val (.int 5), .val (.int ((3 : Int32) + (1 : Int32))), .val (.ref kdd)] [(.int 5), (.int ((3 : Int32) + (1 : Int32)))] rfl ?_
  show own_Go p e below _ T1085 (mkF m 15 #[.val (.ref x), .val (.ref kdb), .val (.ref a1005), .val (.int 5), .val (.int 4), .val (.ref kdd)] [(.int 5), (.int 4)])
  refine own_icmp C S1089 (q := .ge) (o := 30) (by decide +kernel) 45 (by decide) (by decide) (fun (hq : ¬ (4 : Int32) < (5 : Int32)) => False.elim (by revert hq; decide)) (fun (q1091 : (4 : Int32) < (5 : Int32)) => ?_)
  refine own_seg C S1089 [(18, .aload_n 2, 1), (19, .iload 4, 2)] (by decide +kernel) 21 #[.val (.ref x), .val (.ref kdb), .val (.ref a1005), .val (.int 5), .val (.int 4), .val (.ref kdd)] [(.int 4), (.ref a1005)] rfl ?_
  refine own_aaload C S1089 f1008 rfl ⟨(by decide), (by decide)⟩ (.ref kde) rfl (by decide +kernel) ?_
  refine own_seg C S1089 [(22, .astore 5, 2), (24, .aload 5, 2)] (by decide +kernel) 26 #[.val (.ref x), .val (.ref kdb), .val (.ref a1005), .val (.int 5), .val (.int 4), .val (.ref kde)] [(.ref kde)] rfl ?_
  have f1092 := (pe2.keep K1007 nin0)
  refine own_getF C S1089 (host := "") (Or.inl (own_wd hw 13 rfl)) Via.refl f1092 (by decide +kernel) ?_
  intro T1093 S1094
  refine own_seg C S1094 [(29, .aload_n 0, 1)] (by decide +kernel) 30 #[.val (.ref x), .val (.ref kdb), .val (.ref a1005), .val (.int 5), .val (.int 4), .val (.ref kde)] [(.ref x), (.ref lse)] rfl ?_
  have f1095 := (pe3.keep K1007)
  have f1096 := (pe4.keep K1007 nin0)
  have f1097 := (pe5.keep K1007 nin0)
  have f1098 := (pe6.keep K1007 nin0)
  refine own_callV C S1094 (own_wd hw 105 rfl) (own_wd hw 106 rfl) (own_wd hw 108 rfl) (own_wd hw 108 rfl) rfl (own_wd hw 107 rfl) (by decide) (Q := (fun v h' L => ((v = some (.int 1) ∧ own_L4 = xcs) ∨ (v = some (.int 0) ∧ ¬ own_L4 = xcs)) ∧ L = [] ∧ h' = h1010)) (StrChars.Road.eqW (W := 0) C.2.2.2.2.2.2.2 (fun d hd => hw d (own_heq d hd)) (kI := 4) (own_wd hw 61 rfl) f1095 f1096 f1097 f1098 (own_codG own_Lp4) (own_up _ own_Lp4) (by decide) f1022 f1023 f1024 f1025 (own_codG xhp) (own_up _ xhp) (Nat.le_trans xhl (by decide)) (O2.ext f1026.2) P5 (by decide) (by decide)) (fun _ _ L q => by rw [q.2.1]; exact Fr.nil _) f1095 [(.ref x)] [] rfl own_pd5 rfl rfl rfl (Nat.le_of_ble_eq_true rfl) (by decide) (by decide) (by decide +kernel) ?_
  rintro T1103 h1104 v1105 L1106 S1107 ⟨d1102, -, e1099⟩
  rw [e1099] at S1107; clear e1099
  obtain rfl : v1105 = some (.int 0) := d1102.elim (fun q => absurd q.2 (by rw [hv]; decide)) (fun q => q.1)
  show own_Go p e below _ T1103 (mkF m 33 #[.val (.ref x), .val (.ref kdb), .val (.ref a1005), .val (.int 5), .val (.int 4), .val (.ref kde)] [(.int 0)])
  refine own_if C S1107 (q := .eq) (o := 6) (by decide +kernel) 39 (by decide) (by decide) (fun (q1108 : (0 : Int32) = (0 : Int32)) => ?_) (fun (hq : ¬ (0 : Int32) = (0 : Int32)) => False.elim (by revert hq; decide))
  refine own_seg C S1107 [(39, .iinc 4 1, 3), (42, .goto (-30), 3), (12, .iload 4, 2), (14, .iload_n 3, 1)] (by decide +kernel) 15 #[.val (.ref x), .val (.ref kdb), .val (.ref a1005), .val (.int 5), .val (.int ((4 : Int32) + (1 : Int32))), .val (.ref kde)] [(.int 5), (.int ((4 : Int32) + (1 : Int32)))] rfl ?_
  show own_Go p e below _ T1103 (mkF m 15 #[.val (.ref x), .val (.ref kdb), .val (.ref a1005), .val (.int 5), .val (.int 5), .val (.ref kde)] [(.int 5), (.int 5)])
  refine own_icmp C S1107 (q := .ge) (o := 30) (by decide +kernel) 45 (by decide) (by decide) (fun (q1109 : ¬ (5 : Int32) < (5 : Int32)) => ?_) (fun (hq : (5 : Int32) < (5 : Int32)) => False.elim (by revert hq; decide))
  refine own_seg C S1107 [(45, .aload_n 1, 1)] (by decide +kernel) 46 #[.val (.ref x), .val (.ref kdb), .val (.ref a1005), .val (.int 5), .val (.int 5), .val (.ref kde)] [(.ref kdb)] rfl ?_
  refine own_retA C S1107 rfl rfl (by decide +kernel) (by decide) (by decide) ?_
  exact ⟨rfl, ((Keep.refl _ _).trans K1007 all0)⟩
theorem own_lb2 (l : Launch) (Z : State) (a0 : Array Value) (hw : ∀ d ∈ tables_1, d.before a0 Z = true) (G1 : Int32) (G3 : Value) (kda : Addr) (kdb : Addr) (kdc : Addr) (kdd : Addr) (kde : Addr) (lsa : Addr) (lsat : Addr) (lsak : ClassId) (lsb : Addr) (lsbt : Addr) (lsbk : ClassId) (lsc : Addr) (lsct : Addr) (lsck : ClassId) (lsd : Addr) (lsdt : Addr) (lsdk : ClassId) (lse : Addr) (lset : Addr) (lsek : ClassId) (VA : Addr) (VAk : ClassId) (x : Addr) (xt : Addr) (xk : ClassId) (xcs : List Int32) (h0 : Heap) (n0 : Nat) (z0 : n0 ≤ h0.size) (X00 : Old Z n0 h0) (xE : Exa Z h0 x "java/lang/String") (xV : Fld Z h0 x "java/lang/String" "value" "[B" (.ref xt)) (xC : Fld Z h0 x "java/lang/String" "coder" "B" (.int 0)) (xK : Arv Z h0 xt xk .byte (Int32.ofNat (xcs).length) (own_sv xcs) (.int 0)) (pa1 : Exa Z h0 kda "com/example/persephone/persephone/lucene/FieldKind") (pa2 : Fld Z h0 kda "com/example/persephone/persephone/lucene/FieldKind" "label" "Ljava/lang/String;" (.ref lsa)) (pa3 : Exa Z h0 lsa "java/lang/String") (pa4 : Fld Z h0 lsa "java/lang/String" "value" "[B" (.ref lsat)) (pa5 : Fld Z h0 lsa "java/lang/String" "coder" "B" (.int 0)) (pa6 : Arv Z h0 lsat lsak .byte (Int32.ofNat (own_L0).length) (own_sv own_L0) (.int 0)) (pb1 : Exa Z h0 kdb "com/example/persephone/persephone/lucene/FieldKind") (pb2 : Fld Z h0 kdb "com/example/persephone/persephone/lucene/FieldKind" "label" "Ljava/lang/String;" (.ref lsb)) (pb3 : Exa Z h0 lsb "java/lang/String") (pb4 : Fld Z h0 lsb "java/lang/String" "value" "[B" (.ref lsbt)) (pb5 : Fld Z h0 lsb "java/lang/String" "coder" "B" (.int 0)) (pb6 : Arv Z h0 lsbt lsbk .byte (Int32.ofNat (own_L1).length) (own_sv own_L1) (.int 0)) (pc1 : Exa Z h0 kdc "com/example/persephone/persephone/lucene/FieldKind") (pc2 : Fld Z h0 kdc "com/example/persephone/persephone/lucene/FieldKind" "label" "Ljava/lang/String;" (.ref lsc)) (pc3 : Exa Z h0 lsc "java/lang/String") (pc4 : Fld Z h0 lsc "java/lang/String" "value" "[B" (.ref lsct)) (pc5 : Fld Z h0 lsc "java/lang/String" "coder" "B" (.int 0)) (pc6 : Arv Z h0 lsct lsck .byte (Int32.ofNat (own_L2).length) (own_sv own_L2) (.int 0)) (pd1 : Exa Z h0 kdd "com/example/persephone/persephone/lucene/FieldKind") (pd2 : Fld Z h0 kdd "com/example/persephone/persephone/lucene/FieldKind" "label" "Ljava/lang/String;" (.ref lsd)) (pd3 : Exa Z h0 lsd "java/lang/String") (pd4 : Fld Z h0 lsd "java/lang/String" "value" "[B" (.ref lsdt)) (pd5 : Fld Z h0 lsd "java/lang/String" "coder" "B" (.int 0)) (pd6 : Arv Z h0 lsdt lsdk .byte (Int32.ofNat (own_L3).length) (own_sv own_L3) (.int 0)) (pe1 : Exa Z h0 kde "com/example/persephone/persephone/lucene/FieldKind") (pe2 : Fld Z h0 kde "com/example/persephone/persephone/lucene/FieldKind" "label" "Ljava/lang/String;" (.ref lse)) (pe3 : Exa Z h0 lse "java/lang/String") (pe4 : Fld Z h0 lse "java/lang/String" "value" "[B" (.ref lset)) (pe5 : Fld Z h0 lse "java/lang/String" "coder" "B" (.int 0)) (pe6 : Arv Z h0 lset lsek .byte (Int32.ofNat (own_L4).length) (own_sv own_L4) (.int 0)) (pV1 : Exa Z h0 VA "[Lcom/example/persephone/persephone/lucene/FieldKind;") (pV2 : Arv Z h0 VA VAk (.object "com/example/persephone/persephone/lucene/FieldKind") (5 : Int32) ([(.ref kda), (.ref kdb), (.ref kdc), (.ref kdd), (.ref kde)]) .null) (O2 : Sta Z Z.heap "java/lang/String" "COMPACT_STRINGS" "Z" (.int G1)) (O4 : Sta Z Z.heap "jdk/internal/util/Preconditions" "SIOOBE_FORMATTER" "Ljava/util/function/BiFunction;" G3) (P5 : ¬ G1 = (0 : Int32)) (rG3 : G3.isRef = true) (xhp : ∀ c ∈ xcs, ¬ c < 0 ∧ ¬ (255 : Int32) < c) (xhl : xcs.length ≤ 8) (OV : Sta Z Z.heap "com/example/persephone/persephone/lucene/FieldKind" "$VALUES" "[Lcom/example/persephone/persephone/lucene/FieldKind;" (.ref VA)) (hv : xcs = own_L2) :
    own_Met l Z (⟨"com/example/persephone/persephone/lucene/FieldKind", "labelled", "(Ljava/lang/String;)Lcom/example/persephone/persephone/lucene/FieldKind;"⟩ : MethodName) prog_17_method_4_code 6 (some (.object "com/example/persephone/persephone/lucene/FieldKind")) ({ frames := 2, cells := 1, slots := 5, locals := 28 } : Room) n0 #[(.ref x)] h0 (fun v h => v = some (.ref kdc) ∧ Keep h0 h []) := by
  refine own_met (by decide +kernel) #[.val (.ref x), .unset, .unset, .unset, .unset, .unset] (fun m => by first | (simp [entryFrame, mkF, argsToLocals, Value.category]; done) | rfl) ?_
  intro p e s m below meth c T0 C S0
  refine own_seg C S0 [(0, .aconst_null, 1), (1, .astore_n 1, 1)] (by decide +kernel) 2 #[.val (.ref x), .val .null, .unset, .unset, .unset, .unset] [] rfl ?_
  refine own_callS C S0 (own_wd hw 86 rfl) (own_wd hw 87 rfl) (own_wd hw 6 rfl) (own_wd hw 88 rfl) (by decide) (own_Met.pay (own_vs l Z a0 hw G1 G3 kda kdb kdc kdd kde VA VAk h0 n0 z0 X00 pV1 pV2 O2 O4 P5 rG3 OV) C 0 (own_wd hw 88 rfl) (own_wd hw 6 rfl) (by decide) (by decide)) (fun _ _ _ q => q.2) [] [] rfl own_pd4 rfl rfl rfl (Nat.le_of_ble_eq_true rfl) (by decide) (by decide) (by decide +kernel) ?_
  rintro T1114 h1115 v1116 L1117 S1118 ⟨⟨a1110, rfl, g1111, K1112, f1113⟩, -⟩
  show own_Go p e below _ T1114 (mkF m 5 #[.val (.ref x), .val .null, .unset, .unset, .unset, .unset] [(.ref a1110)])
  refine own_seg C S1118 [(5, .astore_n 2, 1), (6, .aload_n 2, 1)] (by decide +kernel) 7 #[.val (.ref x), .val .null, .val (.ref a1110), .unset, .unset, .unset] [(.ref a1110)] rfl ?_
  refine own_alen C S1118 f1113 (by decide +kernel) ?_
  refine own_seg C S1118 [(8, .istore_n 3, 1), (9, .iconst 0, 1), (10, .istore 4, 2), (12, .iload 4, 2), (14, .iload_n 3, 1)] (by decide +kernel) 15 #[.val (.ref x), .val .null, .val (.ref a1110), .val (.int 5), .val (.int 0), .unset] [(.int 5), (.int 0)] rfl ?_
  refine own_icmp C S1118 (q := .ge) (o := 30) (by decide +kernel) 45 (by decide) (by decide) (fun (hq : ¬ (0 : Int32) < (5 : Int32)) => False.elim (by revert hq; decide)) (fun (q1119 : (0 : Int32) < (5 : Int32)) => ?_)
  refine own_seg C S1118 [(18, .aload_n 2, 1), (19, .iload 4, 2)] (by decide +kernel) 21 #[.val (.ref x), .val .null, .val (.ref a1110), .val (.int 5), .val (.int 0), .unset] [(.int 0), (.ref a1110)] rfl ?_
  refine own_aaload C S1118 f1113 rfl ⟨(by decide), (by decide)⟩ (.ref kda) rfl (by decide +kernel) ?_
  refine own_seg C S1118 [(22, .astore 5, 2), (24, .aload 5, 2)] (by decide +kernel) 26 #[.val (.ref x), .val .null, .val (.ref a1110), .val (.int 5), .val (.int 0), .val (.ref kda)] [(.ref kda)] rfl ?_
  have f1120 := (pa2.keep K1112 nin0)
  refine own_getF C S1118 (host := "") (Or.inl (own_wd hw 13 rfl)) Via.refl f1120 (by decide +kernel) ?_
  intro T1121 S1122
  refine own_seg C S1122 [(29, .aload_n 0, 1)] (by decide +kernel) 30 #[.val (.ref x), .val .null, .val (.ref a1110), .val (.int 5), .val (.int 0), .val (.ref kda)] [(.ref x), (.ref lsa)] rfl ?_
  have f1123 := (pa3.keep K1112)
  have f1124 := (pa4.keep K1112 nin0)
  have f1125 := (pa5.keep K1112 nin0)
  have f1126 := (pa6.keep K1112 nin0)
  have f1127 := (xE.keep K1112)
  have f1128 := (xV.keep K1112 nin0)
  have f1129 := (xC.keep K1112 nin0)
  have f1130 := (xK.keep K1112 nin0)
  have f1131 := (X00.keep K1112 all0)
  refine own_callV C S1122 (own_wd hw 105 rfl) (own_wd hw 106 rfl) (own_wd hw 108 rfl) (own_wd hw 108 rfl) rfl (own_wd hw 107 rfl) (by decide) (Q := (fun v h' L => ((v = some (.int 1) ∧ own_L0 = xcs) ∨ (v = some (.int 0) ∧ ¬ own_L0 = xcs)) ∧ L = [] ∧ h' = h1115)) (StrChars.Road.eqW (W := 0) C.2.2.2.2.2.2.2 (fun d hd => hw d (own_heq d hd)) (kI := 4) (own_wd hw 61 rfl) f1123 f1124 f1125 f1126 (own_codG own_Lp0) (own_up _ own_Lp0) (by decide) f1127 f1128 f1129 f1130 (own_codG xhp) (own_up _ xhp) (Nat.le_trans xhl (by decide)) (O2.ext f1131.2) P5 (by decide) (by decide)) (fun _ _ L q => by rw [q.2.1]; exact Fr.nil _) f1123 [(.ref x)] [] rfl own_pd5 rfl rfl rfl (Nat.le_of_ble_eq_true rfl) (by decide) (by decide) (by decide +kernel) ?_
  rintro T1136 h1137 v1138 L1139 S1140 ⟨d1135, -, e1132⟩
  rw [e1132] at S1140; clear e1132
  obtain rfl : v1138 = some (.int 0) := d1135.elim (fun q => absurd q.2 (by rw [hv]; decide)) (fun q => q.1)
  show own_Go p e below _ T1136 (mkF m 33 #[.val (.ref x), .val .null, .val (.ref a1110), .val (.int 5), .val (.int 0), .val (.ref kda)] [(.int 0)])
  refine own_if C S1140 (q := .eq) (o := 6) (by decide +kernel) 39 (by decide) (by decide) (fun (q1141 : (0 : Int32) = (0 : Int32)) => ?_) (fun (hq : ¬ (0 : Int32) = (0 : Int32)) => False.elim (by revert hq; decide))
  refine own_seg C S1140 [(39, .iinc 4 1, 3), (42, .goto (-30), 3), (12, .iload 4, 2), (14, .iload_n 3, 1)] (by decide +kernel) 15 #[.val (.ref x), .val .null, .val (.ref a1110), .val (.int 5), .val (.int ((0 : Int32) + (1 : Int32))), .val (.ref kda)] [(.int 5), (.int ((0 : Int32) + (1 : Int32)))] rfl ?_
  show own_Go p e below _ T1136 (mkF m 15 #[.val (.ref x), .val .null, .val (.ref a1110), .val (.int 5), .val (.int 1), .val (.ref kda)] [(.int 5), (.int 1)])
  refine own_icmp C S1140 (q := .ge) (o := 30) (by decide +kernel) 45 (by decide) (by decide) (fun (hq : ¬ (1 : Int32) < (5 : Int32)) => False.elim (by revert hq; decide)) (fun (q1142 : (1 : Int32) < (5 : Int32)) => ?_)
  refine own_seg C S1140 [(18, .aload_n 2, 1), (19, .iload 4, 2)] (by decide +kernel) 21 #[.val (.ref x), .val .null, .val (.ref a1110), .val (.int 5), .val (.int 1), .val (.ref kda)] [(.int 1), (.ref a1110)] rfl ?_
  refine own_aaload C S1140 f1113 rfl ⟨(by decide), (by decide)⟩ (.ref kdb) rfl (by decide +kernel) ?_
  refine own_seg C S1140 [(22, .astore 5, 2), (24, .aload 5, 2)] (by decide +kernel) 26 #[.val (.ref x), .val .null, .val (.ref a1110), .val (.int 5), .val (.int 1), .val (.ref kdb)] [(.ref kdb)] rfl ?_
  have f1143 := (pb2.keep K1112 nin0)
  refine own_getF C S1140 (host := "") (Or.inl (own_wd hw 13 rfl)) Via.refl f1143 (by decide +kernel) ?_
  intro T1144 S1145
  refine own_seg C S1145 [(29, .aload_n 0, 1)] (by decide +kernel) 30 #[.val (.ref x), .val .null, .val (.ref a1110), .val (.int 5), .val (.int 1), .val (.ref kdb)] [(.ref x), (.ref lsb)] rfl ?_
  have f1146 := (pb3.keep K1112)
  have f1147 := (pb4.keep K1112 nin0)
  have f1148 := (pb5.keep K1112 nin0)
  have f1149 := (pb6.keep K1112 nin0)
  refine own_callV C S1145 (own_wd hw 105 rfl) (own_wd hw 106 rfl) (own_wd hw 108 rfl) (own_wd hw 108 rfl) rfl (own_wd hw 107 rfl) (by decide) (Q := (fun v h' L => ((v = some (.int 1) ∧ own_L1 = xcs) ∨ (v = some (.int 0) ∧ ¬ own_L1 = xcs)) ∧ L = [] ∧ h' = h1115)) (StrChars.Road.eqW (W := 0) C.2.2.2.2.2.2.2 (fun d hd => hw d (own_heq d hd)) (kI := 4) (own_wd hw 61 rfl) f1146 f1147 f1148 f1149 (own_codG own_Lp1) (own_up _ own_Lp1) (by decide) f1127 f1128 f1129 f1130 (own_codG xhp) (own_up _ xhp) (Nat.le_trans xhl (by decide)) (O2.ext f1131.2) P5 (by decide) (by decide)) (fun _ _ L q => by rw [q.2.1]; exact Fr.nil _) f1146 [(.ref x)] [] rfl own_pd5 rfl rfl rfl (Nat.le_of_ble_eq_true rfl) (by decide) (by decide) (by decide +kernel) ?_
  rintro T1154 h1155 v1156 L1157 S1158 ⟨d1153, -, e1150⟩
  rw [e1150] at S1158; clear e1150
  obtain rfl : v1156 = some (.int 0) := d1153.elim (fun q => absurd q.2 (by rw [hv]; decide)) (fun q => q.1)
  show own_Go p e below _ T1154 (mkF m 33 #[.val (.ref x), .val .null, .val (.ref a1110), .val (.int 5), .val (.int 1), .val (.ref kdb)] [(.int 0)])
  refine own_if C S1158 (q := .eq) (o := 6) (by decide +kernel) 39 (by decide) (by decide) (fun (q1159 : (0 : Int32) = (0 : Int32)) => ?_) (fun (hq : ¬ (0 : Int32) = (0 : Int32)) => False.elim (by revert hq; decide))
  refine own_seg C S1158 [(39, .iinc 4 1, 3), (42, .goto (-30), 3), (12, .iload 4, 2), (14, .iload_n 3, 1)] (by decide +kernel) 15 #[.val (.ref x), .val .null, .val (.ref a1110), .val (.int 5), .val (.int ((1 : Int32) + (1 : Int32))), .val (.ref kdb)] [(.int 5), (.int ((1 : Int32) + (1 : Int32)))] rfl ?_
  show own_Go p e below _ T1154 (mkF m 15 #[.val (.ref x), .val .null, .val (.ref a1110), .val (.int 5), .val (.int 2), .val (.ref kdb)] [(.int 5), (.int 2)])
  refine own_icmp C S1158 (q := .ge) (o := 30) (by decide +kernel) 45 (by decide) (by decide) (fun (hq : ¬ (2 : Int32) < (5 : Int32)) => False.elim (by revert hq; decide)) (fun (q1160 : (2 : Int32) < (5 : Int32)) => ?_)
  refine own_seg C S1158 [(18, .aload_n 2, 1), (19, .iload 4, 2)] (by decide +kernel) 21 #[.val (.ref x), .val .null, .val (.ref a1110), .val (.int 5), .val (.int 2), .val (.ref kdb)] [(.int 2), (.ref a1110)] rfl ?_
  refine own_aaload C S1158 f1113 rfl ⟨(by decide), (by decide)⟩ (.ref kdc) rfl (by decide +kernel) ?_
  refine own_seg C S1158 [(22, .astore 5, 2), (24, .aload 5, 2)] (by decide +kernel) 26 #[.val (.ref x), .val .null, .val (.ref a1110), .val (.int 5), .val (.int 2), .val (.ref kdc)] [(.ref kdc)] rfl ?_
  have f1161 := (pc2.keep K1112 nin0)
  refine own_getF C S1158 (host := "") (Or.inl (own_wd hw 13 rfl)) Via.refl f1161 (by decide +kernel) ?_
  intro T1162 S1163
  refine own_seg C S1163 [(29, .aload_n 0, 1)] (by decide +kernel) 30 #[.val (.ref x), .val .null, .val (.ref a1110), .val (.int 5), .val (.int 2), .val (.ref kdc)] [(.ref x), (.ref lsc)] rfl ?_
  have f1164 := (pc3.keep K1112)
  have f1165 := (pc4.keep K1112 nin0)
  have f1166 := (pc5.keep K1112 nin0)
  have f1167 := (pc6.keep K1112 nin0)
  refine own_callV C S1163 (own_wd hw 105 rfl) (own_wd hw 106 rfl) (own_wd hw 108 rfl) (own_wd hw 108 rfl) rfl (own_wd hw 107 rfl) (by decide) (Q := (fun v h' L => ((v = some (.int 1) ∧ own_L2 = xcs) ∨ (v = some (.int 0) ∧ ¬ own_L2 = xcs)) ∧ L = [] ∧ h' = h1115)) (StrChars.Road.eqW (W := 0) C.2.2.2.2.2.2.2 (fun d hd => hw d (own_heq d hd)) (kI := 4) (own_wd hw 61 rfl) f1164 f1165 f1166 f1167 (own_codG own_Lp2) (own_up _ own_Lp2) (by decide) f1127 f1128 f1129 f1130 (own_codG xhp) (own_up _ xhp) (Nat.le_trans xhl (by decide)) (O2.ext f1131.2) P5 (by decide) (by decide)) (fun _ _ L q => by rw [q.2.1]; exact Fr.nil _) f1164 [(.ref x)] [] rfl own_pd5 rfl rfl rfl (Nat.le_of_ble_eq_true rfl) (by decide) (by decide) (by decide +kernel) ?_
  rintro T1172 h1173 v1174 L1175 S1176 ⟨d1171, -, e1168⟩
  rw [e1168] at S1176; clear e1168
  obtain rfl : v1174 = some (.int 1) := d1171.elim (fun q => q.1) (fun q => absurd hv.symm q.2)
  show own_Go p e below _ T1172 (mkF m 33 #[.val (.ref x), .val .null, .val (.ref a1110), .val (.int 5), .val (.int 2), .val (.ref kdc)] [(.int 1)])
  refine own_if C S1176 (q := .eq) (o := 6) (by decide +kernel) 39 (by decide) (by decide) (fun (hq : (1 : Int32) = (0 : Int32)) => False.elim (by revert hq; decide)) (fun (q1177 : ¬ (1 : Int32) = (0 : Int32)) => ?_)
  refine own_seg C S1176 [(36, .aload 5, 2), (38, .astore_n 1, 1), (39, .iinc 4 1, 3), (42, .goto (-30), 3), (12, .iload 4, 2), (14, .iload_n 3, 1)] (by decide +kernel) 15 #[.val (.ref x), .val (.ref kdc), .val (.ref a1110), .val (.int 5), .val (.int ((2 : Int32) + (1 : Int32))), .val (.ref kdc)] [(.int 5), (.int ((2 : Int32) + (1 : Int32)))] rfl ?_
  show own_Go p e below _ T1172 (mkF m 15 #[.val (.ref x), .val (.ref kdc), .val (.ref a1110), .val (.int 5), .val (.int 3), .val (.ref kdc)] [(.int 5), (.int 3)])
  refine own_icmp C S1176 (q := .ge) (o := 30) (by decide +kernel) 45 (by decide) (by decide) (fun (hq : ¬ (3 : Int32) < (5 : Int32)) => False.elim (by revert hq; decide)) (fun (q1178 : (3 : Int32) < (5 : Int32)) => ?_)
  refine own_seg C S1176 [(18, .aload_n 2, 1), (19, .iload 4, 2)] (by decide +kernel) 21 #[.val (.ref x), .val (.ref kdc), .val (.ref a1110), .val (.int 5), .val (.int 3), .val (.ref kdc)] [(.int 3), (.ref a1110)] rfl ?_
  refine own_aaload C S1176 f1113 rfl ⟨(by decide), (by decide)⟩ (.ref kdd) rfl (by decide +kernel) ?_
  refine own_seg C S1176 [(22, .astore 5, 2), (24, .aload 5, 2)] (by decide +kernel) 26 #[.val (.ref x), .val (.ref kdc), .val (.ref a1110), .val (.int 5), .val (.int 3), .val (.ref kdd)] [(.ref kdd)] rfl ?_
  have f1179 := (pd2.keep K1112 nin0)
  refine own_getF C S1176 (host := "") (Or.inl (own_wd hw 13 rfl)) Via.refl f1179 (by decide +kernel) ?_
  intro T1180 S1181
  refine own_seg C S1181 [(29, .aload_n 0, 1)] (by decide +kernel) 30 #[.val (.ref x), .val (.ref kdc), .val (.ref a1110), .val (.int 5), .val (.int 3), .val (.ref kdd)] [(.ref x), (.ref lsd)] rfl ?_
  have f1182 := (pd3.keep K1112)
  have f1183 := (pd4.keep K1112 nin0)
  have f1184 := (pd5.keep K1112 nin0)
  have f1185 := (pd6.keep K1112 nin0)
  refine own_callV C S1181 (own_wd hw 105 rfl) (own_wd hw 106 rfl) (own_wd hw 108 rfl) (own_wd hw 108 rfl) rfl (own_wd hw 107 rfl) (by decide) (Q := (fun v h' L => ((v = some (.int 1) ∧ own_L3 = xcs) ∨ (v = some (.int 0) ∧ ¬ own_L3 = xcs)) ∧ L = [] ∧ h' = h1115)) (StrChars.Road.eqW (W := 0) C.2.2.2.2.2.2.2 (fun d hd => hw d (own_heq d hd)) (kI := 4) (own_wd hw 61 rfl) f1182 f1183 f1184 f1185 (own_codG own_Lp3) (own_up _ own_Lp3) (by decide) f1127 f1128 f1129 f1130 (own_codG xhp) (own_up _ xhp) (Nat.le_trans xhl (by decide)) (O2.ext f1131.2) P5 (by decide) (by decide)) (fun _ _ L q => by rw [q.2.1]; exact Fr.nil _) f1182 [(.ref x)] [] rfl own_pd5 rfl rfl rfl (Nat.le_of_ble_eq_true rfl) (by decide) (by decide) (by decide +kernel) ?_
  rintro T1190 h1191 v1192 L1193 S1194 ⟨d1189, -, e1186⟩
  rw [e1186] at S1194; clear e1186
  obtain rfl : v1192 = some (.int 0) := d1189.elim (fun q => absurd q.2 (by rw [hv]; decide)) (fun q => q.1)
  show own_Go p e below _ T1190 (mkF m 33 #[.val (.ref x), .val (.ref kdc), .val (.ref a1110), .val (.int 5), .val (.int 3), .val (.ref kdd)] [(.int 0)])
  refine own_if C S1194 (q := .eq) (o := 6) (by decide +kernel) 39 (by decide) (by decide) (fun (q1195 : (0 : Int32) = (0 : Int32)) => ?_) (fun (hq : ¬ (0 : Int32) = (0 : Int32)) => False.elim (by revert hq; decide))
  refine own_seg C S1194 [(39, .iinc 4 1, 3), (42, .goto (-30), 3), (12, .iload 4, 2), (14, .iload_n 3, 1)] (by decide +kernel) 15 #[.val (.ref x), .val (.ref kdc), .val (.ref a1110), .val (.int 5), .val (.int ((3 : Int32) + (1 : Int32))), .val (.ref kdd)] [(.int 5), (.int ((3 : Int32) + (1 : Int32)))] rfl ?_
  show own_Go p e below _ T1190 (mkF m 15 #[.val (.ref x), .val (.ref kdc), .val (.ref a1110), .val (.int 5), .val (.int 4), .val (.ref kdd)] [(.int 5), (.int 4)])
  refine own_icmp C S1194 (q := .ge) (o := 30) (by decide +kernel) 45 (by decide) (by decide) (fun (hq : ¬ (4 : Int32) < (5 : Int32)) => False.elim (by revert hq; decide)) (fun (q1196 : (4 : Int32) < (5 : Int32)) => ?_)
  refine own_seg C S1194 [(18, .aload_n 2, 1), (19, .iload 4, 2)] (by decide +kernel) 21 #[.val (.ref x), .val (.ref kdc), .val (.ref a1110), .val (.int 5), .val (.int 4), .val (.ref kdd)] [(.int 4), (.ref a1110)] rfl ?_
  refine own_aaload C S1194 f1113 rfl ⟨(by decide), (by decide)⟩ (.ref kde) rfl (by decide +kernel) ?_
  refine own_seg C S1194 [(22, .astore 5, 2), (24, .aload 5, 2)] (by decide +kernel) 26 #[.val (.ref x), .val (.ref kdc), .val (.ref a1110), .val (.int 5), .val (.int 4), .val (.ref kde)] [(.ref kde)] rfl ?_
  have f1197 := (pe2.keep K1112 nin0)
  refine own_getF C S1194 (host := "") (Or.inl (own_wd hw 13 rfl)) Via.refl f1197 (by decide +kernel) ?_
  intro T1198 S1199
  refine own_seg C S1199 [(29, .aload_n 0, 1)] (by decide +kernel) 30 #[.val (.ref x), .val (.ref kdc), .val (.ref a1110), .val (.int 5), .val (.int 4), .val (.ref kde)] [(.ref x), (.ref lse)] rfl ?_
  have f1200 := (pe3.keep K1112)
  have f1201 := (pe4.keep K1112 nin0)
  have f1202 := (pe5.keep K1112 nin0)
  have f1203 := (pe6.keep K1112 nin0)
  refine own_callV C S1199 (own_wd hw 105 rfl) (own_wd hw 106 rfl) (own_wd hw 108 rfl) (own_wd hw 108 rfl) rfl (own_wd hw 107 rfl) (by decide) (Q := (fun v h' L => ((v = some (.int 1) ∧ own_L4 = xcs) ∨ (v = some (.int 0) ∧ ¬ own_L4 = xcs)) ∧ L = [] ∧ h' = h1115)) (StrChars.Road.eqW (W := 0) C.2.2.2.2.2.2.2 (fun d hd => hw d (own_heq d hd)) (kI := 4) (own_wd hw 61 rfl) f1200 f1201 f1202 f1203 (own_codG own_Lp4) (own_up _ own_Lp4) (by decide) f1127 f1128 f1129 f1130 (own_codG xhp) (own_up _ xhp) (Nat.le_trans xhl (by decide)) (O2.ext f1131.2) P5 (by decide) (by decide)) (fun _ _ L q => by rw [q.2.1]; exact Fr.nil _) f1200 [(.ref x)] [] rfl own_pd5 rfl rfl rfl (Nat.le_of_ble_eq_true rfl) (by decide) (by decide) (by decide +kernel) ?_
  rintro T1208 h1209 v1210 L1211 S1212 ⟨d1207, -, e1204⟩
  rw [e1204] at S1212; clear e1204
  obtain rfl : v1210 = some (.int 0) := d1207.elim (fun q => absurd q.2 (by rw [hv]; decide)) (fun q => q.1)
  show own_Go p e below _ T1208 (mkF m 33 #[.val (.ref x), .val (.ref kdc), .val (.ref a1110), .val (.int 5), .val (.int 4), .val (.ref kde)] [(.int 0)])
  refine own_if C S1212 (q := .eq) (o := 6) (by decide +kernel) 39 (by decide) (by decide) (fun (q1213 : (0 : Int32) = (0 : Int32)) => ?_) (fun (hq : ¬ (0 : Int32) = (0 : Int32)) => False.elim (by revert hq; decide))
  refine own_seg C S1212 [(39, .iinc 4 1, 3), (42, .goto (-30), 3), (12, .iload 4, 2), (14, .iload_n 3, 1)] (by decide +kernel) 15 #[.val (.ref x), .val (.ref kdc), .val (.ref a1110), .val (.int 5), .val (.int ((4 : Int32) + (1 : Int32))), .val (.ref kde)] [(.int 5), (.int ((4 : Int32) + (1 : Int32)))] rfl ?_
  show own_Go p e below _ T1208 (mkF m 15 #[.val (.ref x), .val (.ref kdc), .val (.ref a1110), .val (.int 5), .val (.int 5), .val (.ref kde)] [(.int 5), (.int 5)])
  refine own_icmp C S1212 (q := .ge) (o := 30) (by decide +kernel) 45 (by decide) (by decide) (fun (q1214 : ¬ (5 : Int32) < (5 : Int32)) => ?_) (fun (hq : (5 : Int32) < (5 : Int32)) => False.elim (by revert hq; decide))
  refine own_seg C S1212 [(45, .aload_n 1, 1)] (by decide +kernel) 46 #[.val (.ref x), .val (.ref kdc), .val (.ref a1110), .val (.int 5), .val (.int 5), .val (.ref kde)] [(.ref kdc)] rfl ?_
  refine own_retA C S1212 rfl rfl (by decide +kernel) (by decide) (by decide) ?_
  exact ⟨rfl, ((Keep.refl _ _).trans K1112 all0)⟩
theorem own_lb3 (l : Launch) (Z : State) (a0 : Array Value) (hw : ∀ d ∈ tables_1, d.before a0 Z = true) (G1 : Int32) (G3 : Value) (kda : Addr) (kdb : Addr) (kdc : Addr) (kdd : Addr) (kde : Addr) (lsa : Addr) (lsat : Addr) (lsak : ClassId) (lsb : Addr) (lsbt : Addr) (lsbk : ClassId) (lsc : Addr) (lsct : Addr) (lsck : ClassId) (lsd : Addr) (lsdt : Addr) (lsdk : ClassId) (lse : Addr) (lset : Addr) (lsek : ClassId) (VA : Addr) (VAk : ClassId) (x : Addr) (xt : Addr) (xk : ClassId) (xcs : List Int32) (h0 : Heap) (n0 : Nat) (z0 : n0 ≤ h0.size) (X00 : Old Z n0 h0) (xE : Exa Z h0 x "java/lang/String") (xV : Fld Z h0 x "java/lang/String" "value" "[B" (.ref xt)) (xC : Fld Z h0 x "java/lang/String" "coder" "B" (.int 0)) (xK : Arv Z h0 xt xk .byte (Int32.ofNat (xcs).length) (own_sv xcs) (.int 0)) (pa1 : Exa Z h0 kda "com/example/persephone/persephone/lucene/FieldKind") (pa2 : Fld Z h0 kda "com/example/persephone/persephone/lucene/FieldKind" "label" "Ljava/lang/String;" (.ref lsa)) (pa3 : Exa Z h0 lsa "java/lang/String") (pa4 : Fld Z h0 lsa "java/lang/String" "value" "[B" (.ref lsat)) (pa5 : Fld Z h0 lsa "java/lang/String" "coder" "B" (.int 0)) (pa6 : Arv Z h0 lsat lsak .byte (Int32.ofNat (own_L0).length) (own_sv own_L0) (.int 0)) (pb1 : Exa Z h0 kdb "com/example/persephone/persephone/lucene/FieldKind") (pb2 : Fld Z h0 kdb "com/example/persephone/persephone/lucene/FieldKind" "label" "Ljava/lang/String;" (.ref lsb)) (pb3 : Exa Z h0 lsb "java/lang/String") (pb4 : Fld Z h0 lsb "java/lang/String" "value" "[B" (.ref lsbt)) (pb5 : Fld Z h0 lsb "java/lang/String" "coder" "B" (.int 0)) (pb6 : Arv Z h0 lsbt lsbk .byte (Int32.ofNat (own_L1).length) (own_sv own_L1) (.int 0)) (pc1 : Exa Z h0 kdc "com/example/persephone/persephone/lucene/FieldKind") (pc2 : Fld Z h0 kdc "com/example/persephone/persephone/lucene/FieldKind" "label" "Ljava/lang/String;" (.ref lsc)) (pc3 : Exa Z h0 lsc "java/lang/String") (pc4 : Fld Z h0 lsc "java/lang/String" "value" "[B" (.ref lsct)) (pc5 : Fld Z h0 lsc "java/lang/String" "coder" "B" (.int 0)) (pc6 : Arv Z h0 lsct lsck .byte (Int32.ofNat (own_L2).length) (own_sv own_L2) (.int 0)) (pd1 : Exa Z h0 kdd "com/example/persephone/persephone/lucene/FieldKind") (pd2 : Fld Z h0 kdd "com/example/persephone/persephone/lucene/FieldKind" "label" "Ljava/lang/String;" (.ref lsd)) (pd3 : Exa Z h0 lsd "java/lang/String") (pd4 : Fld Z h0 lsd "java/lang/String" "value" "[B" (.ref lsdt)) (pd5 : Fld Z h0 lsd "java/lang/String" "coder" "B" (.int 0)) (pd6 : Arv Z h0 lsdt lsdk .byte (Int32.ofNat (own_L3).length) (own_sv own_L3) (.int 0)) (pe1 : Exa Z h0 kde "com/example/persephone/persephone/lucene/FieldKind") (pe2 : Fld Z h0 kde "com/example/persephone/persephone/lucene/FieldKind" "label" "Ljava/lang/String;" (.ref lse)) (pe3 : Exa Z h0 lse "java/lang/String") (pe4 : Fld Z h0 lse "java/lang/String" "value" "[B" (.ref lset)) (pe5 : Fld Z h0 lse "java/lang/String" "coder" "B" (.int 0)) (pe6 : Arv Z h0 lset lsek .byte (Int32.ofNat (own_L4).length) (own_sv own_L4) (.int 0)) (pV1 : Exa Z h0 VA "[Lcom/example/persephone/persephone/lucene/FieldKind;") (pV2 : Arv Z h0 VA VAk (.object "com/example/persephone/persephone/lucene/FieldKind") (5 : Int32) ([(.ref kda), (.ref kdb), (.ref kdc), (.ref kdd), (.ref kde)]) .null) (O2 : Sta Z Z.heap "java/lang/String" "COMPACT_STRINGS" "Z" (.int G1)) (O4 : Sta Z Z.heap "jdk/internal/util/Preconditions" "SIOOBE_FORMATTER" "Ljava/util/function/BiFunction;" G3) (P5 : ¬ G1 = (0 : Int32)) (rG3 : G3.isRef = true) (xhp : ∀ c ∈ xcs, ¬ c < 0 ∧ ¬ (255 : Int32) < c) (xhl : xcs.length ≤ 8) (OV : Sta Z Z.heap "com/example/persephone/persephone/lucene/FieldKind" "$VALUES" "[Lcom/example/persephone/persephone/lucene/FieldKind;" (.ref VA)) (hv : xcs = own_L3) :
    own_Met l Z (⟨"com/example/persephone/persephone/lucene/FieldKind", "labelled", "(Ljava/lang/String;)Lcom/example/persephone/persephone/lucene/FieldKind;"⟩ : MethodName) prog_17_method_4_code 6 (some (.object "com/example/persephone/persephone/lucene/FieldKind")) ({ frames := 2, cells := 1, slots := 5, locals := 28 } : Room) n0 #[(.ref x)] h0 (fun v h => v = some (.ref kdd) ∧ Keep h0 h []) := by
  refine own_met (by decide +kernel) #[.val (.ref x), .unset, .unset, .unset, .unset, .unset] (fun m => by first | (simp [entryFrame, mkF, argsToLocals, Value.category]; done) | rfl) ?_
  intro p e s m below meth c T0 C S0
  refine own_seg C S0 [(0, .aconst_null, 1), (1, .astore_n 1, 1)] (by decide +kernel) 2 #[.val (.ref x), .val .null, .unset, .unset, .unset, .unset] [] rfl ?_
  refine own_callS C S0 (own_wd hw 86 rfl) (own_wd hw 87 rfl) (own_wd hw 6 rfl) (own_wd hw 88 rfl) (by decide) (own_Met.pay (own_vs l Z a0 hw G1 G3 kda kdb kdc kdd kde VA VAk h0 n0 z0 X00 pV1 pV2 O2 O4 P5 rG3 OV) C 0 (own_wd hw 88 rfl) (own_wd hw 6 rfl) (by decide) (by decide)) (fun _ _ _ q => q.2) [] [] rfl own_pd4 rfl rfl rfl (Nat.le_of_ble_eq_true rfl) (by decide) (by decide) (by decide +kernel) ?_
  rintro T1219 h1220 v1221 L1222 S1223 ⟨⟨a1215, rfl, g1216, K1217, f1218⟩, -⟩
  show own_Go p e below _ T1219 (mkF m 5 #[.val (.ref x), .val .null, .unset, .unset, .unset, .unset] [(.ref a1215)])
  refine own_seg C S1223 [(5, .astore_n 2, 1), (6, .aload_n 2, 1)] (by decide +kernel) 7 #[.val (.ref x), .val .null, .val (.ref a1215), .unset, .unset, .unset] [(.ref a1215)] rfl ?_
  refine own_alen C S1223 f1218 (by decide +kernel) ?_
  refine own_seg C S1223 [(8, .istore_n 3, 1), (9, .iconst 0, 1), (10, .istore 4, 2), (12, .iload 4, 2), (14, .iload_n 3, 1)] (by decide +kernel) 15 #[.val (.ref x), .val .null, .val (.ref a1215), .val (.int 5), .val (.int 0), .unset] [(.int 5), (.int 0)] rfl ?_
  refine own_icmp C S1223 (q := .ge) (o := 30) (by decide +kernel) 45 (by decide) (by decide) (fun (hq : ¬ (0 : Int32) < (5 : Int32)) => False.elim (by revert hq; decide)) (fun (q1224 : (0 : Int32) < (5 : Int32)) => ?_)
  refine own_seg C S1223 [(18, .aload_n 2, 1), (19, .iload 4, 2)] (by decide +kernel) 21 #[.val (.ref x), .val .null, .val (.ref a1215), .val (.int 5), .val (.int 0), .unset] [(.int 0), (.ref a1215)] rfl ?_
  refine own_aaload C S1223 f1218 rfl ⟨(by decide), (by decide)⟩ (.ref kda) rfl (by decide +kernel) ?_
  refine own_seg C S1223 [(22, .astore 5, 2), (24, .aload 5, 2)] (by decide +kernel) 26 #[.val (.ref x), .val .null, .val (.ref a1215), .val (.int 5), .val (.int 0), .val (.ref kda)] [(.ref kda)] rfl ?_
  have f1225 := (pa2.keep K1217 nin0)
  refine own_getF C S1223 (host := "") (Or.inl (own_wd hw 13 rfl)) Via.refl f1225 (by decide +kernel) ?_
  intro T1226 S1227
  refine own_seg C S1227 [(29, .aload_n 0, 1)] (by decide +kernel) 30 #[.val (.ref x), .val .null, .val (.ref a1215), .val (.int 5), .val (.int 0), .val (.ref kda)] [(.ref x), (.ref lsa)] rfl ?_
  have f1228 := (pa3.keep K1217)
  have f1229 := (pa4.keep K1217 nin0)
  have f1230 := (pa5.keep K1217 nin0)
  have f1231 := (pa6.keep K1217 nin0)
  have f1232 := (xE.keep K1217)
  have f1233 := (xV.keep K1217 nin0)
  have f1234 := (xC.keep K1217 nin0)
  have f1235 := (xK.keep K1217 nin0)
  have f1236 := (X00.keep K1217 all0)
  refine own_callV C S1227 (own_wd hw 105 rfl) (own_wd hw 106 rfl) (own_wd hw 108 rfl) (own_wd hw 108 rfl) rfl (own_wd hw 107 rfl) (by decide) (Q := (fun v h' L => ((v = some (.int 1) ∧ own_L0 = xcs) ∨ (v = some (.int 0) ∧ ¬ own_L0 = xcs)) ∧ L = [] ∧ h' = h1220)) (StrChars.Road.eqW (W := 0) C.2.2.2.2.2.2.2 (fun d hd => hw d (own_heq d hd)) (kI := 4) (own_wd hw 61 rfl) f1228 f1229 f1230 f1231 (own_codG own_Lp0) (own_up _ own_Lp0) (by decide) f1232 f1233 f1234 f1235 (own_codG xhp) (own_up _ xhp) (Nat.le_trans xhl (by decide)) (O2.ext f1236.2) P5 (by decide) (by decide)) (fun _ _ L q => by rw [q.2.1]; exact Fr.nil _) f1228 [(.ref x)] [] rfl own_pd5 rfl rfl rfl (Nat.le_of_ble_eq_true rfl) (by decide) (by decide) (by decide +kernel) ?_
  rintro T1241 h1242 v1243 L1244 S1245 ⟨d1240, -, e1237⟩
  rw [e1237] at S1245; clear e1237
  obtain rfl : v1243 = some (.int 0) := d1240.elim (fun q => absurd q.2 (by rw [hv]; decide)) (fun q => q.1)
  show own_Go p e below _ T1241 (mkF m 33 #[.val (.ref x), .val .null, .val (.ref a1215), .val (.int 5), .val (.int 0), .val (.ref kda)] [(.int 0)])
  refine own_if C S1245 (q := .eq) (o := 6) (by decide +kernel) 39 (by decide) (by decide) (fun (q1246 : (0 : Int32) = (0 : Int32)) => ?_) (fun (hq : ¬ (0 : Int32) = (0 : Int32)) => False.elim (by revert hq; decide))
  refine own_seg C S1245 [(39, .iinc 4 1, 3), (42, .goto (-30), 3), (12, .iload 4, 2), (14, .iload_n 3, 1)] (by decide +kernel) 15 #[.val (.ref x), .val .null, .val (.ref a1215), .val (.int 5), .val (.int ((0 : Int32) + (1 : Int32))), .val (.ref kda)] [(.int 5), (.int ((0 : Int32) + (1 : Int32)))] rfl ?_
  show own_Go p e below _ T1241 (mkF m 15 #[.val (.ref x), .val .null, .val (.ref a1215), .val (.int 5), .val (.int 1), .val (.ref kda)] [(.int 5), (.int 1)])
  refine own_icmp C S1245 (q := .ge) (o := 30) (by decide +kernel) 45 (by decide) (by decide) (fun (hq : ¬ (1 : Int32) < (5 : Int32)) => False.elim (by revert hq; decide)) (fun (q1247 : (1 : Int32) < (5 : Int32)) => ?_)
  refine own_seg C S1245 [(18, .aload_n 2, 1), (19, .iload 4, 2)] (by decide +kernel) 21 #[.val (.ref x), .val .null, .val (.ref a1215), .val (.int 5), .val (.int 1), .val (.ref kda)] [(.int 1), (.ref a1215)] rfl ?_
  refine own_aaload C S1245 f1218 rfl ⟨(by decide), (by decide)⟩ (.ref kdb) rfl (by decide +kernel) ?_
  refine own_seg C S1245 [(22, .astore 5, 2), (24, .aload 5, 2)] (by decide +kernel) 26 #[.val (.ref x), .val .null, .val (.ref a1215), .val (.int 5), .val (.int 1), .val (.ref kdb)] [(.ref kdb)] rfl ?_
  have f1248 := (pb2.keep K1217 nin0)
  refine own_getF C S1245 (host := "") (Or.inl (own_wd hw 13 rfl)) Via.refl f1248 (by decide +kernel) ?_
  intro T1249 S1250
  refine own_seg C S1250 [(29, .aload_n 0, 1)] (by decide +kernel) 30 #[.val (.ref x), .val .null, .val (.ref a1215), .val (.int 5), .val (.int 1), .val (.ref kdb)] [(.ref x), (.ref lsb)] rfl ?_
  have f1251 := (pb3.keep K1217)
  have f1252 := (pb4.keep K1217 nin0)
  have f1253 := (pb5.keep K1217 nin0)
  have f1254 := (pb6.keep K1217 nin0)
  refine own_callV C S1250 (own_wd hw 105 rfl) (own_wd hw 106 rfl) (own_wd hw 108 rfl) (own_wd hw 108 rfl) rfl (own_wd hw 107 rfl) (by decide) (Q := (fun v h' L => ((v = some (.int 1) ∧ own_L1 = xcs) ∨ (v = some (.int 0) ∧ ¬ own_L1 = xcs)) ∧ L = [] ∧ h' = h1220)) (StrChars.Road.eqW (W := 0) C.2.2.2.2.2.2.2 (fun d hd => hw d (own_heq d hd)) (kI := 4) (own_wd hw 61 rfl) f1251 f1252 f1253 f1254 (own_codG own_Lp1) (own_up _ own_Lp1) (by decide) f1232 f1233 f1234 f1235 (own_codG xhp) (own_up _ xhp) (Nat.le_trans xhl (by decide)) (O2.ext f1236.2) P5 (by decide) (by decide)) (fun _ _ L q => by rw [q.2.1]; exact Fr.nil _) f1251 [(.ref x)] [] rfl own_pd5 rfl rfl rfl (Nat.le_of_ble_eq_true rfl) (by decide) (by decide) (by decide +kernel) ?_
  rintro T1259 h1260 v1261 L1262 S1263 ⟨d1258, -, e1255⟩
  rw [e1255] at S1263; clear e1255
  obtain rfl : v1261 = some (.int 0) := d1258.elim (fun q => absurd q.2 (by rw [hv]; decide)) (fun q => q.1)
  show own_Go p e below _ T1259 (mkF m 33 #[.val (.ref x), .val .null, .val (.ref a1215), .val (.int 5), .val (.int 1), .val (.ref kdb)] [(.int 0)])
  refine own_if C S1263 (q := .eq) (o := 6) (by decide +kernel) 39 (by decide) (by decide) (fun (q1264 : (0 : Int32) = (0 : Int32)) => ?_) (fun (hq : ¬ (0 : Int32) = (0 : Int32)) => False.elim (by revert hq; decide))
  refine own_seg C S1263 [(39, .iinc 4 1, 3), (42, .goto (-30), 3), (12, .iload 4, 2), (14, .iload_n 3, 1)] (by decide +kernel) 15 #[.val (.ref x), .val .null, .val (.ref a1215), .val (.int 5), .val (.int ((1 : Int32) + (1 : Int32))), .val (.ref kdb)] [(.int 5), (.int ((1 : Int32) + (1 : Int32)))] rfl ?_
  show own_Go p e below _ T1259 (mkF m 15 #[.val (.ref x), .val .null, .val (.ref a1215), .val (.int 5), .val (.int 2), .val (.ref kdb)] [(.int 5), (.int 2)])
  refine own_icmp C S1263 (q := .ge) (o := 30) (by decide +kernel) 45 (by decide) (by decide) (fun (hq : ¬ (2 : Int32) < (5 : Int32)) => False.elim (by revert hq; decide)) (fun (q1265 : (2 : Int32) < (5 : Int32)) => ?_)
  refine own_seg C S1263 [(18, .aload_n 2, 1), (19, .iload 4, 2)] (by decide +kernel) 21 #[.val (.ref x), .val .null, .val (.ref a1215), .val (.int 5), .val (.int 2), .val (.ref kdb)] [(.int 2), (.ref a1215)] rfl ?_
  refine own_aaload C S1263 f1218 rfl ⟨(by decide), (by decide)⟩ (.ref kdc) rfl (by decide +kernel) ?_
  refine own_seg C S1263 [(22, .astore 5, 2), (24, .aload 5, 2)] (by decide +kernel) 26 #[.val (.ref x), .val .null, .val (.ref a1215), .val (.int 5), .val (.int 2), .val (.ref kdc)] [(.ref kdc)] rfl ?_
  have f1266 := (pc2.keep K1217 nin0)
  refine own_getF C S1263 (host := "") (Or.inl (own_wd hw 13 rfl)) Via.refl f1266 (by decide +kernel) ?_
  intro T1267 S1268
  refine own_seg C S1268 [(29, .aload_n 0, 1)] (by decide +kernel) 30 #[.val (.ref x), .val .null, .val (.ref a1215), .val (.int 5), .val (.int 2), .val (.ref kdc)] [(.ref x), (.ref lsc)] rfl ?_
  have f1269 := (pc3.keep K1217)
  have f1270 := (pc4.keep K1217 nin0)
  have f1271 := (pc5.keep K1217 nin0)
  have f1272 := (pc6.keep K1217 nin0)
  refine own_callV C S1268 (own_wd hw 105 rfl) (own_wd hw 106 rfl) (own_wd hw 108 rfl) (own_wd hw 108 rfl) rfl (own_wd hw 107 rfl) (by decide) (Q := (fun v h' L => ((v = some (.int 1) ∧ own_L2 = xcs) ∨ (v = some (.int 0) ∧ ¬ own_L2 = xcs)) ∧ L = [] ∧ h' = h1220)) (StrChars.Road.eqW (W := 0) C.2.2.2.2.2.2.2 (fun d hd => hw d (own_heq d hd)) (kI := 4) (own_wd hw 61 rfl) f1269 f1270 f1271 f1272 (own_codG own_Lp2) (own_up _ own_Lp2) (by decide) f1232 f1233 f1234 f1235 (own_codG xhp) (own_up _ xhp) (Nat.le_trans xhl (by decide)) (O2.ext f1236.2) P5 (by decide) (by decide)) (fun _ _ L q => by rw [q.2.1]; exact Fr.nil _) f1269 [(.ref x)] [] rfl own_pd5 rfl rfl rfl (Nat.le_of_ble_eq_true rfl) (by decide) (by decide) (by decide +kernel) ?_
  rintro T1277 h1278 v1279 L1280 S1281 ⟨d1276, -, e1273⟩
  rw [e1273] at S1281; clear e1273
  obtain rfl : v1279 = some (.int 0) := d1276.elim (fun q => absurd q.2 (by rw [hv]; decide)) (fun q => q.1)
  show own_Go p e below _ T1277 (mkF m 33 #[.val (.ref x), .val .null, .val (.ref a1215), .val (.int 5), .val (.int 2), .val (.ref kdc)] [(.int 0)])
  refine own_if C S1281 (q := .eq) (o := 6) (by decide +kernel) 39 (by decide) (by decide) (fun (q1282 : (0 : Int32) = (0 : Int32)) => ?_) (fun (hq : ¬ (0 : Int32) = (0 : Int32)) => False.elim (by revert hq; decide))
  refine own_seg C S1281 [(39, .iinc 4 1, 3), (42, .goto (-30), 3), (12, .iload 4, 2), (14, .iload_n 3, 1)] (by decide +kernel) 15 #[.val (.ref x), .val .null, .val (.ref a1215), .val (.int 5), .val (.int ((2 : Int32) + (1 : Int32))), .val (.ref kdc)] [(.int 5), (.int ((2 : Int32) + (1 : Int32)))] rfl ?_
  show own_Go p e below _ T1277 (mkF m 15 #[.val (.ref x), .val .null, .val (.ref a1215), .val (.int 5), .val (.int 3), .val (.ref kdc)] [(.int 5), (.int 3)])
  refine own_icmp C S1281 (q := .ge) (o := 30) (by decide +kernel) 45 (by decide) (by decide) (fun (hq : ¬ (3 : Int32) < (5 : Int32)) => False.elim (by revert hq; decide)) (fun (q1283 : (3 : Int32) < (5 : Int32)) => ?_)
  refine own_seg C S1281 [(18, .aload_n 2, 1), (19, .iload 4, 2)] (by decide +kernel) 21 #[.val (.ref x), .val .null, .val (.ref a1215), .val (.int 5), .val (.int 3), .val (.ref kdc)] [(.int 3), (.ref a1215)] rfl ?_
  refine own_aaload C S1281 f1218 rfl ⟨(by decide), (by decide)⟩ (.ref kdd) rfl (by decide +kernel) ?_
  refine own_seg C S1281 [(22, .astore 5, 2), (24, .aload 5, 2)] (by decide +kernel) 26 #[.val (.ref x), .val .null, .val (.ref a1215), .val (.int 5), .val (.int 3), .val (.ref kdd)] [(.ref kdd)] rfl ?_
  have f1284 := (pd2.keep K1217 nin0)
  refine own_getF C S1281 (host := "") (Or.inl (own_wd hw 13 rfl)) Via.refl f1284 (by decide +kernel) ?_
  intro T1285 S1286
  refine own_seg C S1286 [(29, .aload_n 0, 1)] (by decide +kernel) 30 #[.val (.ref x), .val .null, .val (.ref a1215), .val (.int 5), .val (.int 3), .val (.ref kdd)] [(.ref x), (.ref lsd)] rfl ?_
  have f1287 := (pd3.keep K1217)
  have f1288 := (pd4.keep K1217 nin0)
  have f1289 := (pd5.keep K1217 nin0)
  have f1290 := (pd6.keep K1217 nin0)
  refine own_callV C S1286 (own_wd hw 105 rfl) (own_wd hw 106 rfl) (own_wd hw 108 rfl) (own_wd hw 108 rfl) rfl (own_wd hw 107 rfl) (by decide) (Q := (fun v h' L => ((v = some (.int 1) ∧ own_L3 = xcs) ∨ (v = some (.int 0) ∧ ¬ own_L3 = xcs)) ∧ L = [] ∧ h' = h1220)) (StrChars.Road.eqW (W := 0) C.2.2.2.2.2.2.2 (fun d hd => hw d (own_heq d hd)) (kI := 4) (own_wd hw 61 rfl) f1287 f1288 f1289 f1290 (own_codG own_Lp3) (own_up _ own_Lp3) (by decide) f1232 f1233 f1234 f1235 (own_codG xhp) (own_up _ xhp) (Nat.le_trans xhl (by decide)) (O2.ext f1236.2) P5 (by decide) (by decide)) (fun _ _ L q => by rw [q.2.1]; exact Fr.nil _) f1287 [(.ref x)] [] rfl own_pd5 rfl rfl rfl (Nat.le_of_ble_eq_true rfl) (by decide) (by decide) (by decide +kernel) ?_
  rintro T1295 h1296 v1297 L1298 S1299 ⟨d1294, -, e1291⟩
  rw [e1291] at S1299; clear e1291
  obtain rfl : v1297 = some (.int 1) := d1294.elim (fun q => q.1) (fun q => absurd hv.symm q.2)
  show own_Go p e below _ T1295 (mkF m 33 #[.val (.ref x), .val .null, .val (.ref a1215), .val (.int 5), .val (.int 3), .val (.ref kdd)] [(.int 1)])
  refine own_if C S1299 (q := .eq) (o := 6) (by decide +kernel) 39 (by decide) (by decide) (fun (hq : (1 : Int32) = (0 : Int32)) => False.elim (by revert hq; decide)) (fun (q1300 : ¬ (1 : Int32) = (0 : Int32)) => ?_)
  refine own_seg C S1299 [(36, .aload 5, 2), (38, .astore_n 1, 1), (39, .iinc 4 1, 3), (42, .goto (-30), 3), (12, .iload 4, 2), (14, .iload_n 3, 1)] (by decide +kernel) 15 #[.val (.ref x), .val (.ref kdd), .val (.ref a1215), .val (.int 5), .val (.int ((3 : Int32) + (1 : Int32))), .val (.ref kdd)] [(.int 5), (.int ((3 : Int32) + (1 : Int32)))] rfl ?_
  show own_Go p e below _ T1295 (mkF m 15 #[.val (.ref x), .val (.ref kdd), .val (.ref a1215), .val (.int 5), .val (.int 4), .val (.ref kdd)] [(.int 5), (.int 4)])
  refine own_icmp C S1299 (q := .ge) (o := 30) (by decide +kernel) 45 (by decide) (by decide) (fun (hq : ¬ (4 : Int32) < (5 : Int32)) => False.elim (by revert hq; decide)) (fun (q1301 : (4 : Int32) < (5 : Int32)) => ?_)
  refine own_seg C S1299 [(18, .aload_n 2, 1), (19, .iload 4, 2)] (by decide +kernel) 21 #[.val (.ref x), .val (.ref kdd), .val (.ref a1215), .val (.int 5), .val (.int 4), .val (.ref kdd)] [(.int 4), (.ref a1215)] rfl ?_
  refine own_aaload C S1299 f1218 rfl ⟨(by decide), (by decide)⟩ (.ref kde) rfl (by decide +kernel) ?_
  refine own_seg C S1299 [(22, .astore 5, 2), (24, .aload 5, 2)] (by decide +kernel) 26 #[.val (.ref x), .val (.ref kdd), .val (.ref a1215), .val (.int 5), .val (.int 4), .val (.ref kde)] [(.ref kde)] rfl ?_
  have f1302 := (pe2.keep K1217 nin0)
  refine own_getF C S1299 (host := "") (Or.inl (own_wd hw 13 rfl)) Via.refl f1302 (by decide +kernel) ?_
  intro T1303 S1304
  refine own_seg C S1304 [(29, .aload_n 0, 1)] (by decide +kernel) 30 #[.val (.ref x), .val (.ref kdd), .val (.ref a1215), .val (.int 5), .val (.int 4), .val (.ref kde)] [(.ref x), (.ref lse)] rfl ?_
  have f1305 := (pe3.keep K1217)
  have f1306 := (pe4.keep K1217 nin0)
  have f1307 := (pe5.keep K1217 nin0)
  have f1308 := (pe6.keep K1217 nin0)
  refine own_callV C S1304 (own_wd hw 105 rfl) (own_wd hw 106 rfl) (own_wd hw 108 rfl) (own_wd hw 108 rfl) rfl (own_wd hw 107 rfl) (by decide) (Q := (fun v h' L => ((v = some (.int 1) ∧ own_L4 = xcs) ∨ (v = some (.int 0) ∧ ¬ own_L4 = xcs)) ∧ L = [] ∧ h' = h1220)) (StrChars.Road.eqW (W := 0) C.2.2.2.2.2.2.2 (fun d hd => hw d (own_heq d hd)) (kI := 4) (own_wd hw 61 rfl) f1305 f1306 f1307 f1308 (own_codG own_Lp4) (own_up _ own_Lp4) (by decide) f1232 f1233 f1234 f1235 (own_codG xhp) (own_up _ xhp) (Nat.le_trans xhl (by decide)) (O2.ext f1236.2) P5 (by decide) (by decide)) (fun _ _ L q => by rw [q.2.1]; exact Fr.nil _) f1305 [(.ref x)] [] rfl own_pd5 rfl rfl rfl (Nat.le_of_ble_eq_true rfl) (by decide) (by decide) (by decide +kernel) ?_
  rintro T1313 h1314 v1315 L1316 S1317 ⟨d1312, -, e1309⟩
  rw [e1309] at S1317; clear e1309
  obtain rfl : v1315 = some (.int 0) := d1312.elim (fun q => absurd q.2 (by rw [hv]; decide)) (fun q => q.1)
  show own_Go p e below _ T1313 (mkF m 33 #[.val (.ref x), .val (.ref kdd), .val (.ref a1215), .val (.int 5), .val (.int 4), .val (.ref kde)] [(.int 0)])
  refine own_if C S1317 (q := .eq) (o := 6) (by decide +kernel) 39 (by decide) (by decide) (fun (q1318 : (0 : Int32) = (0 : Int32)) => ?_) (fun (hq : ¬ (0 : Int32) = (0 : Int32)) => False.elim (by revert hq; decide))
  refine own_seg C S1317 [(39, .iinc 4 1, 3), (42, .goto (-30), 3), (12, .iload 4, 2), (14, .iload_n 3, 1)] (by decide +kernel) 15 #[.val (.ref x), .val (.ref kdd), .val (.ref a1215), .val (.int 5), .val (.int ((4 : Int32) + (1 : Int32))), .val (.ref kde)] [(.int 5), (.int ((4 : Int32) + (1 : Int32)))] rfl ?_
  show own_Go p e below _ T1313 (mkF m 15 #[.val (.ref x), .val (.ref kdd), .val (.ref a1215), .val (.int 5), .val (.int 5), .val (.ref kde)] [(.int 5), (.int 5)])
  refine own_icmp C S1317 (q := .ge) (o := 30) (by decide +kernel) 45 (by decide) (by decide) (fun (q1319 : ¬ (5 : Int32) < (5 : Int32)) => ?_) (fun (hq : (5 : Int32) < (5 : Int32)) => False.elim (by revert hq; decide))
  refine own_seg C S1317 [(45, .aload_n 1, 1)] (by decide +kernel) 46 #[.val (.ref x), .val (.ref kdd), .val (.ref a1215), .val (.int 5), .val (.int 5), .val (.ref kde)] [(.ref kdd)] rfl ?_
  refine own_retA C S1317 rfl rfl (by decide +kernel) (by decide) (by decide) ?_
  exact ⟨rfl, ((Keep.refl _ _).trans K1217 all0)⟩
theorem own_lb4 (l : Launch) (Z : State) (a0 : Array Value) (hw : ∀ d ∈ tables_1, d.before a0 Z = true) (G1 : Int32) (G3 : Value) (kda : Addr) (kdb : Addr) (kdc : Addr) (kdd : Addr) (kde : Addr) (lsa : Addr) (lsat : Addr) (lsak : ClassId) (lsb : Addr) (lsbt : Addr) (lsbk : ClassId) (lsc : Addr) (lsct : Addr) (lsck : ClassId) (lsd : Addr) (lsdt : Addr) (lsdk : ClassId) (lse : Addr) (lset : Addr) (lsek : ClassId) (VA : Addr) (VAk : ClassId) (x : Addr) (xt : Addr) (xk : ClassId) (xcs : List Int32) (h0 : Heap) (n0 : Nat) (z0 : n0 ≤ h0.size) (X00 : Old Z n0 h0) (xE : Exa Z h0 x "java/lang/String") (xV : Fld Z h0 x "java/lang/String" "value" "[B" (.ref xt)) (xC : Fld Z h0 x "java/lang/String" "coder" "B" (.int 0)) (xK : Arv Z h0 xt xk .byte (Int32.ofNat (xcs).length) (own_sv xcs) (.int 0)) (pa1 : Exa Z h0 kda "com/example/persephone/persephone/lucene/FieldKind") (pa2 : Fld Z h0 kda "com/example/persephone/persephone/lucene/FieldKind" "label" "Ljava/lang/String;" (.ref lsa)) (pa3 : Exa Z h0 lsa "java/lang/String") (pa4 : Fld Z h0 lsa "java/lang/String" "value" "[B" (.ref lsat)) (pa5 : Fld Z h0 lsa "java/lang/String" "coder" "B" (.int 0)) (pa6 : Arv Z h0 lsat lsak .byte (Int32.ofNat (own_L0).length) (own_sv own_L0) (.int 0)) (pb1 : Exa Z h0 kdb "com/example/persephone/persephone/lucene/FieldKind") (pb2 : Fld Z h0 kdb "com/example/persephone/persephone/lucene/FieldKind" "label" "Ljava/lang/String;" (.ref lsb)) (pb3 : Exa Z h0 lsb "java/lang/String") (pb4 : Fld Z h0 lsb "java/lang/String" "value" "[B" (.ref lsbt)) (pb5 : Fld Z h0 lsb "java/lang/String" "coder" "B" (.int 0)) (pb6 : Arv Z h0 lsbt lsbk .byte (Int32.ofNat (own_L1).length) (own_sv own_L1) (.int 0)) (pc1 : Exa Z h0 kdc "com/example/persephone/persephone/lucene/FieldKind") (pc2 : Fld Z h0 kdc "com/example/persephone/persephone/lucene/FieldKind" "label" "Ljava/lang/String;" (.ref lsc)) (pc3 : Exa Z h0 lsc "java/lang/String") (pc4 : Fld Z h0 lsc "java/lang/String" "value" "[B" (.ref lsct)) (pc5 : Fld Z h0 lsc "java/lang/String" "coder" "B" (.int 0)) (pc6 : Arv Z h0 lsct lsck .byte (Int32.ofNat (own_L2).length) (own_sv own_L2) (.int 0)) (pd1 : Exa Z h0 kdd "com/example/persephone/persephone/lucene/FieldKind") (pd2 : Fld Z h0 kdd "com/example/persephone/persephone/lucene/FieldKind" "label" "Ljava/lang/String;" (.ref lsd)) (pd3 : Exa Z h0 lsd "java/lang/String") (pd4 : Fld Z h0 lsd "java/lang/String" "value" "[B" (.ref lsdt)) (pd5 : Fld Z h0 lsd "java/lang/String" "coder" "B" (.int 0)) (pd6 : Arv Z h0 lsdt lsdk .byte (Int32.ofNat (own_L3).length) (own_sv own_L3) (.int 0)) (pe1 : Exa Z h0 kde "com/example/persephone/persephone/lucene/FieldKind") (pe2 : Fld Z h0 kde "com/example/persephone/persephone/lucene/FieldKind" "label" "Ljava/lang/String;" (.ref lse)) (pe3 : Exa Z h0 lse "java/lang/String") (pe4 : Fld Z h0 lse "java/lang/String" "value" "[B" (.ref lset)) (pe5 : Fld Z h0 lse "java/lang/String" "coder" "B" (.int 0)) (pe6 : Arv Z h0 lset lsek .byte (Int32.ofNat (own_L4).length) (own_sv own_L4) (.int 0)) (pV1 : Exa Z h0 VA "[Lcom/example/persephone/persephone/lucene/FieldKind;") (pV2 : Arv Z h0 VA VAk (.object "com/example/persephone/persephone/lucene/FieldKind") (5 : Int32) ([(.ref kda), (.ref kdb), (.ref kdc), (.ref kdd), (.ref kde)]) .null) (O2 : Sta Z Z.heap "java/lang/String" "COMPACT_STRINGS" "Z" (.int G1)) (O4 : Sta Z Z.heap "jdk/internal/util/Preconditions" "SIOOBE_FORMATTER" "Ljava/util/function/BiFunction;" G3) (P5 : ¬ G1 = (0 : Int32)) (rG3 : G3.isRef = true) (xhp : ∀ c ∈ xcs, ¬ c < 0 ∧ ¬ (255 : Int32) < c) (xhl : xcs.length ≤ 8) (OV : Sta Z Z.heap "com/example/persephone/persephone/lucene/FieldKind" "$VALUES" "[Lcom/example/persephone/persephone/lucene/FieldKind;" (.ref VA)) (hv : xcs = own_L4) :
    own_Met l Z (⟨"com/example/persephone/persephone/lucene/FieldKind", "labelled", "(Ljava/lang/String;)Lcom/example/persephone/persephone/lucene/FieldKind;"⟩ : MethodName) prog_17_method_4_code 6 (some (.object "com/example/persephone/persephone/lucene/FieldKind")) ({ frames := 2, cells := 1, slots := 5, locals := 28 } : Room) n0 #[(.ref x)] h0 (fun v h => v = some (.ref kde) ∧ Keep h0 h []) := by
  refine own_met (by decide +kernel) #[.val (.ref x), .unset, .unset, .unset, .unset, .unset] (fun m => by first | (simp [entryFrame, mkF, argsToLocals, Value.category]; done) | rfl) ?_
  intro p e s m below meth c T0 C S0
  refine own_seg C S0 [(0, .aconst_null, 1), (1, .astore_n 1, 1)] (by decide +kernel) 2 #[.val (.ref x), .val .null, .unset, .unset, .unset, .unset] [] rfl ?_
  refine own_callS C S0 (own_wd hw 86 rfl) (own_wd hw 87 rfl) (own_wd hw 6 rfl) (own_wd hw 88 rfl) (by decide) (own_Met.pay (own_vs l Z a0 hw G1 G3 kda kdb kdc kdd kde VA VAk h0 n0 z0 X00 pV1 pV2 O2 O4 P5 rG3 OV) C 0 (own_wd hw 88 rfl) (own_wd hw 6 rfl) (by decide) (by decide)) (fun _ _ _ q => q.2) [] [] rfl own_pd4 rfl rfl rfl (Nat.le_of_ble_eq_true rfl) (by decide) (by decide) (by decide +kernel) ?_
  rintro T1324 h1325 v1326 L1327 S1328 ⟨⟨a1320, rfl, g1321, K1322, f1323⟩, -⟩
  show own_Go p e below _ T1324 (mkF m 5 #[.val (.ref x), .val .null, .unset, .unset, .unset, .unset] [(.ref a1320)])
  refine own_seg C S1328 [(5, .astore_n 2, 1), (6, .aload_n 2, 1)] (by decide +kernel) 7 #[.val (.ref x), .val .null, .val (.ref a1320), .unset, .unset, .unset] [(.ref a1320)] rfl ?_
  refine own_alen C S1328 f1323 (by decide +kernel) ?_
  refine own_seg C S1328 [(8, .istore_n 3, 1), (9, .iconst 0, 1), (10, .istore 4, 2), (12, .iload 4, 2), (14, .iload_n 3, 1)] (by decide +kernel) 15 #[.val (.ref x), .val .null, .val (.ref a1320), .val (.int 5), .val (.int 0), .unset] [(.int 5), (.int 0)] rfl ?_
  refine own_icmp C S1328 (q := .ge) (o := 30) (by decide +kernel) 45 (by decide) (by decide) (fun (hq : ¬ (0 : Int32) < (5 : Int32)) => False.elim (by revert hq; decide)) (fun (q1329 : (0 : Int32) < (5 : Int32)) => ?_)
  refine own_seg C S1328 [(18, .aload_n 2, 1), (19, .iload 4, 2)] (by decide +kernel) 21 #[.val (.ref x), .val .null, .val (.ref a1320), .val (.int 5), .val (.int 0), .unset] [(.int 0), (.ref a1320)] rfl ?_
  refine own_aaload C S1328 f1323 rfl ⟨(by decide), (by decide)⟩ (.ref kda) rfl (by decide +kernel) ?_
  refine own_seg C S1328 [(22, .astore 5, 2), (24, .aload 5, 2)] (by decide +kernel) 26 #[.val (.ref x), .val .null, .val (.ref a1320), .val (.int 5), .val (.int 0), .val (.ref kda)] [(.ref kda)] rfl ?_
  have f1330 := (pa2.keep K1322 nin0)
  refine own_getF C S1328 (host := "") (Or.inl (own_wd hw 13 rfl)) Via.refl f1330 (by decide +kernel) ?_
  intro T1331 S1332
  refine own_seg C S1332 [(29, .aload_n 0, 1)] (by decide +kernel) 30 #[.val (.ref x), .val .null, .val (.ref a1320), .val (.int 5), .val (.int 0), .val (.ref kda)] [(.ref x), (.ref lsa)] rfl ?_
  have f1333 := (pa3.keep K1322)
  have f1334 := (pa4.keep K1322 nin0)
  have f1335 := (pa5.keep K1322 nin0)
  have f1336 := (pa6.keep K1322 nin0)
  have f1337 := (xE.keep K1322)
  have f1338 := (xV.keep K1322 nin0)
  have f1339 := (xC.keep K1322 nin0)
  have f1340 := (xK.keep K1322 nin0)
  have f1341 := (X00.keep K1322 all0)
  refine own_callV C S1332 (own_wd hw 105 rfl) (own_wd hw 106 rfl) (own_wd hw 108 rfl) (own_wd hw 108 rfl) rfl (own_wd hw 107 rfl) (by decide) (Q := (fun v h' L => ((v = some (.int 1) ∧ own_L0 = xcs) ∨ (v = some (.int 0) ∧ ¬ own_L0 = xcs)) ∧ L = [] ∧ h' = h1325)) (StrChars.Road.eqW (W := 0) C.2.2.2.2.2.2.2 (fun d hd => hw d (own_heq d hd)) (kI := 4) (own_wd hw 61 rfl) f1333 f1334 f1335 f1336 (own_codG own_Lp0) (own_up _ own_Lp0) (by decide) f1337 f1338 f1339 f1340 (own_codG xhp) (own_up _ xhp) (Nat.le_trans xhl (by decide)) (O2.ext f1341.2) P5 (by decide) (by decide)) (fun _ _ L q => by rw [q.2.1]; exact Fr.nil _) f1333 [(.ref x)] [] rfl own_pd5 rfl rfl rfl (Nat.le_of_ble_eq_true rfl) (by decide) (by decide) (by decide +kernel) ?_
  rintro T1346 h1347 v1348 L1349 S1350 ⟨d1345, -, e1342⟩
  rw [e1342] at S1350; clear e1342
  obtain rfl : v1348 = some (.int 0) := d1345.elim (fun q => absurd q.2 (by rw [hv]; decide)) (fun q => q.1)
  show own_Go p e below _ T1346 (mkF m 33 #[.val (.ref x), .val .null, .val (.ref a1320), .val (.int 5), .val (.int 0), .val (.ref kda)] [(.int 0)])
  refine own_if C S1350 (q := .eq) (o := 6) (by decide +kernel) 39 (by decide) (by decide) (fun (q1351 : (0 : Int32) = (0 : Int32)) => ?_) (fun (hq : ¬ (0 : Int32) = (0 : Int32)) => False.elim (by revert hq; decide))
  refine own_seg C S1350 [(39, .iinc 4 1, 3), (42, .goto (-30), 3), (12, .iload 4, 2), (14, .iload_n 3, 1)] (by decide +kernel) 15 #[.val (.ref x), .val .null, .val (.ref a1320), .val (.int 5), .val (.int ((0 : Int32) + (1 : Int32))), .val (.ref kda)] [(.int 5), (.int ((0 : Int32) + (1 : Int32)))] rfl ?_
  show own_Go p e below _ T1346 (mkF m 15 #[.val (.ref x), .val .null, .val (.ref a1320), .val (.int 5), .val (.int 1), .val (.ref kda)] [(.int 5), (.int 1)])
  refine own_icmp C S1350 (q := .ge) (o := 30) (by decide +kernel) 45 (by decide) (by decide) (fun (hq : ¬ (1 : Int32) < (5 : Int32)) => False.elim (by revert hq; decide)) (fun (q1352 : (1 : Int32) < (5 : Int32)) => ?_)
  refine own_seg C S1350 [(18, .aload_n 2, 1), (19, .iload 4, 2)] (by decide +kernel) 21 #[.val (.ref x), .val .null, .val (.ref a1320), .val (.int 5), .val (.int 1), .val (.ref kda)] [(.int 1), (.ref a1320)] rfl ?_
  refine own_aaload C S1350 f1323 rfl ⟨(by decide), (by decide)⟩ (.ref kdb) rfl (by decide +kernel) ?_
  refine own_seg C S1350 [(22, .astore 5, 2), (24, .aload 5, 2)] (by decide +kernel) 26 #[.val (.ref x), .val .null, .val (.ref a1320), .val (.int 5), .val (.int 1), .val (.ref kdb)] [(.ref kdb)] rfl ?_
  have f1353 := (pb2.keep K1322 nin0)
  refine own_getF C S1350 (host := "") (Or.inl (own_wd hw 13 rfl)) Via.refl f1353 (by decide +kernel) ?_
  intro T1354 S1355
  refine own_seg C S1355 [(29, .aload_n 0, 1)] (by decide +kernel) 30 #[.val (.ref x), .val .null, .val (.ref a1320), .val (.int 5), .val (.int 1), .val (.ref kdb)] [(.ref x), (.ref lsb)] rfl ?_
  have f1356 := (pb3.keep K1322)
  have f1357 := (pb4.keep K1322 nin0)
  have f1358 := (pb5.keep K1322 nin0)
  have f1359 := (pb6.keep K1322 nin0)
  refine own_callV C S1355 (own_wd hw 105 rfl) (own_wd hw 106 rfl) (own_wd hw 108 rfl) (own_wd hw 108 rfl) rfl (own_wd hw 107 rfl) (by decide) (Q := (fun v h' L => ((v = some (.int 1) ∧ own_L1 = xcs) ∨ (v = some (.int 0) ∧ ¬ own_L1 = xcs)) ∧ L = [] ∧ h' = h1325)) (StrChars.Road.eqW (W := 0) C.2.2.2.2.2.2.2 (fun d hd => hw d (own_heq d hd)) (kI := 4) (own_wd hw 61 rfl) f1356 f1357 f1358 f1359 (own_codG own_Lp1) (own_up _ own_Lp1) (by decide) f1337 f1338 f1339 f1340 (own_codG xhp) (own_up _ xhp) (Nat.le_trans xhl (by decide)) (O2.ext f1341.2) P5 (by decide) (by decide)) (fun _ _ L q => by rw [q.2.1]; exact Fr.nil _) f1356 [(.ref x)] [] rfl own_pd5 rfl rfl rfl (Nat.le_of_ble_eq_true rfl) (by decide) (by decide) (by decide +kernel) ?_
  rintro T1364 h1365 v1366 L1367 S1368 ⟨d1363, -, e1360⟩
  rw [e1360] at S1368; clear e1360
  obtain rfl : v1366 = some (.int 0) := d1363.elim (fun q => absurd q.2 (by rw [hv]; decide)) (fun q => q.1)
  show own_Go p e below _ T1364 (mkF m 33 #[.val (.ref x), .val .null, .val (.ref a1320), .val (.int 5), .val (.int 1), .val (.ref kdb)] [(.int 0)])
  refine own_if C S1368 (q := .eq) (o := 6) (by decide +kernel) 39 (by decide) (by decide) (fun (q1369 : (0 : Int32) = (0 : Int32)) => ?_) (fun (hq : ¬ (0 : Int32) = (0 : Int32)) => False.elim (by revert hq; decide))
  refine own_seg C S1368 [(39, .iinc 4 1, 3), (42, .goto (-30), 3), (12, .iload 4, 2), (14, .iload_n 3, 1)] (by decide +kernel) 15 #[.val (.ref x), .val .null, .val (.ref a1320), .val (.int 5), .val (.int ((1 : Int32) + (1 : Int32))), .val (.ref kdb)] [(.int 5), (.int ((1 : Int32) + (1 : Int32)))] rfl ?_
  show own_Go p e below _ T1364 (mkF m 15 #[.val (.ref x), .val .null, .val (.ref a1320), .val (.int 5), .val (.int 2), .val (.ref kdb)] [(.int 5), (.int 2)])
  refine own_icmp C S1368 (q := .ge) (o := 30) (by decide +kernel) 45 (by decide) (by decide) (fun (hq : ¬ (2 : Int32) < (5 : Int32)) => False.elim (by revert hq; decide)) (fun (q1370 : (2 : Int32) < (5 : Int32)) => ?_)
  refine own_seg C S1368 [(18, .aload_n 2, 1), (19, .iload 4, 2)] (by decide +kernel) 21 #[.val (.ref x), .val .null, .val (.ref a1320), .val (.int 5), .val (.int 2), .val (.ref kdb)] [(.int 2), (.ref a1320)] rfl ?_
  refine own_aaload C S1368 f1323 rfl ⟨(by decide), (by decide)⟩ (.ref kdc) rfl (by decide +kernel) ?_
  refine own_seg C S1368 [(22, .astore 5, 2), (24, .aload 5, 2)] (by decide +kernel) 26 #[.val (.ref x), .val .null, .val (.ref a1320), .val (.int 5), .val (.int 2), .val (.ref kdc)] [(.ref kdc)] rfl ?_
  have f1371 := (pc2.keep K1322 nin0)
  refine own_getF C S1368 (host := "") (Or.inl (own_wd hw 13 rfl)) Via.refl f1371 (by decide +kernel) ?_
  intro T1372 S1373
  refine own_seg C S1373 [(29, .aload_n 0, 1)] (by decide +kernel) 30 #[.val (.ref x), .val .null, .val (.ref a1320), .val (.int 5), .val (.int 2), .val (.ref kdc)] [(.ref x), (.ref lsc)] rfl ?_
  have f1374 := (pc3.keep K1322)
  have f1375 := (pc4.keep K1322 nin0)
  have f1376 := (pc5.keep K1322 nin0)
  have f1377 := (pc6.keep K1322 nin0)
  refine own_callV C S1373 (own_wd hw 105 rfl) (own_wd hw 106 rfl) (own_wd hw 108 rfl) (own_wd hw 108 rfl) rfl (own_wd hw 107 rfl) (by decide) (Q := (fun v h' L => ((v = some (.int 1) ∧ own_L2 = xcs) ∨ (v = some (.int 0) ∧ ¬ own_L2 = xcs)) ∧ L = [] ∧ h' = h1325)) (StrChars.Road.eqW (W := 0) C.2.2.2.2.2.2.2 (fun d hd => hw d (own_heq d hd)) (kI := 4) (own_wd hw 61 rfl) f1374 f1375 f1376 f1377 (own_codG own_Lp2) (own_up _ own_Lp2) (by decide) f1337 f1338 f1339 f1340 (own_codG xhp) (own_up _ xhp) (Nat.le_trans xhl (by decide)) (O2.ext f1341.2) P5 (by decide) (by decide)) (fun _ _ L q => by rw [q.2.1]; exact Fr.nil _) f1374 [(.ref x)] [] rfl own_pd5 rfl rfl rfl (Nat.le_of_ble_eq_true rfl) (by decide) (by decide) (by decide +kernel) ?_
  rintro T1382 h1383 v1384 L1385 S1386 ⟨d1381, -, e1378⟩
  rw [e1378] at S1386; clear e1378
  obtain rfl : v1384 = some (.int 0) := d1381.elim (fun q => absurd q.2 (by rw [hv]; decide)) (fun q => q.1)
  show own_Go p e below _ T1382 (mkF m 33 #[.val (.ref x), .val .null, .val (.ref a1320), .val (.int 5), .val (.int 2), .val (.ref kdc)] [(.int 0)])
  refine own_if C S1386 (q := .eq) (o := 6) (by decide +kernel) 39 (by decide) (by decide) (fun (q1387 : (0 : Int32) = (0 : Int32)) => ?_) (fun (hq : ¬ (0 : Int32) = (0 : Int32)) => False.elim (by revert hq; decide))
  refine own_seg C S1386 [(39, .iinc 4 1, 3), (42, .goto (-30), 3), (12, .iload 4, 2), (14, .iload_n 3, 1)] (by decide +kernel) 15 #[.val (.ref x), .val .null, .val (.ref a1320), .val (.int 5), .val (.int ((2 : Int32) + (1 : Int32))), .val (.ref kdc)] [(.int 5), (.int ((2 : Int32) + (1 : Int32)))] rfl ?_
  show own_Go p e below _ T1382 (mkF m 15 #[.val (.ref x), .val .null, .val (.ref a1320), .val (.int 5), .val (.int 3), .val (.ref kdc)] [(.int 5), (.int 3)])
  refine own_icmp C S1386 (q := .ge) (o := 30) (by decide +kernel) 45 (by decide) (by decide) (fun (hq : ¬ (3 : Int32) < (5 : Int32)) => False.elim (by revert hq; decide)) (fun (q1388 : (3 : Int32) < (5 : Int32)) => ?_)
  refine own_seg C S1386 [(18, .aload_n 2, 1), (19, .iload 4, 2)] (by decide +kernel) 21 #[.val (.ref x), .val .null, .val (.ref a1320), .val (.int 5), .val (.int 3), .val (.ref kdc)] [(.int 3), (.ref a1320)] rfl ?_
  refine own_aaload C S1386 f1323 rfl ⟨(by decide), (by decide)⟩ (.ref kdd) rfl (by decide +kernel) ?_
  refine own_seg C S1386 [(22, .astore 5, 2), (24, .aload 5, 2)] (by decide +kernel) 26 #[.val (.ref x), .val .null, .val (.ref a1320), .val (.int 5), .val (.int 3), .val (.ref kdd)] [(.ref kdd)] rfl ?_
  have f1389 := (pd2.keep K1322 nin0)
  refine own_getF C S1386 (host := "") (Or.inl (own_wd hw 13 rfl)) Via.refl f1389 (by decide +kernel) ?_
  intro T1390 S1391
  refine own_seg C S1391 [(29, .aload_n 0, 1)] (by decide +kernel) 30 #[.val (.ref x), .val .null, .val (.ref a1320), .val (.int 5), .val (.int 3), .val (.ref kdd)] [(.ref x), (.ref lsd)] rfl ?_
  have f1392 := (pd3.keep K1322)
  have f1393 := (pd4.keep K1322 nin0)
  have f1394 := (pd5.keep K1322 nin0)
  have f1395 := (pd6.keep K1322 nin0)
  refine own_callV C S1391 (own_wd hw 105 rfl) (own_wd hw 106 rfl) (own_wd hw 108 rfl) (own_wd hw 108 rfl) rfl (own_wd hw 107 rfl) (by decide) (Q := (fun v h' L => ((v = some (.int 1) ∧ own_L3 = xcs) ∨ (v = some (.int 0) ∧ ¬ own_L3 = xcs)) ∧ L = [] ∧ h' = h1325)) (StrChars.Road.eqW (W := 0) C.2.2.2.2.2.2.2 (fun d hd => hw d (own_heq d hd)) (kI := 4) (own_wd hw 61 rfl) f1392 f1393 f1394 f1395 (own_codG own_Lp3) (own_up _ own_Lp3) (by decide) f1337 f1338 f1339 f1340 (own_codG xhp) (own_up _ xhp) (Nat.le_trans xhl (by decide)) (O2.ext f1341.2) P5 (by decide) (by decide)) (fun _ _ L q => by rw [q.2.1]; exact Fr.nil _) f1392 [(.ref x)] [] rfl own_pd5 rfl rfl rfl (Nat.le_of_ble_eq_true rfl) (by decide) (by decide) (by decide +kernel) ?_
  rintro T1400 h1401 v1402 L1403 S1404 ⟨d1399, -, e1396⟩
  rw [e1396] at S1404; clear e1396
  obtain rfl : v1402 = some (.int 0) := d1399.elim (fun q => absurd q.2 (by rw [hv]; decide)) (fun q => q.1)
  show own_Go p e below _ T1400 (mkF m 33 #[.val (.ref x), .val .null, .val (.ref a1320), .val (.int 5), .val (.int 3), .val (.ref kdd)] [(.int 0)])
  refine own_if C S1404 (q := .eq) (o := 6) (by decide +kernel) 39 (by decide) (by decide) (fun (q1405 : (0 : Int32) = (0 : Int32)) => ?_) (fun (hq : ¬ (0 : Int32) = (0 : Int32)) => False.elim (by revert hq; decide))
  refine own_seg C S1404 [(39, .iinc 4 1, 3), (42, .goto (-30), 3), (12, .iload 4, 2), (14, .iload_n 3, 1)] (by decide +kernel) 15 #[.val (.ref x), .val .null, .val (.ref a1320), .val (.int 5), .val (.int ((3 : Int32) + (1 : Int32))), .val (.ref kdd)] [(.int 5), (.int ((3 : Int32) + (1 : Int32)))] rfl ?_
  show own_Go p e below _ T1400 (mkF m 15 #[.val (.ref x), .val .null, .val (.ref a1320), .val (.int 5), .val (.int 4), .val (.ref kdd)] [(.int 5), (.int 4)])
  refine own_icmp C S1404 (q := .ge) (o := 30) (by decide +kernel) 45 (by decide) (by decide) (fun (hq : ¬ (4 : Int32) < (5 : Int32)) => False.elim (by revert hq; decide)) (fun (q1406 : (4 : Int32) < (5 : Int32)) => ?_)
  refine own_seg C S1404 [(18, .aload_n 2, 1), (19, .iload 4, 2)] (by decide +kernel) 21 #[.val (.ref x), .val .null, .val (.ref a1320), .val (.int 5), .val (.int 4), .val (.ref kdd)] [(.int 4), (.ref a1320)] rfl ?_
  refine own_aaload C S1404 f1323 rfl ⟨(by decide), (by decide)⟩ (.ref kde) rfl (by decide +kernel) ?_
  refine own_seg C S1404 [(22, .astore 5, 2), (24, .aload 5, 2)] (by decide +kernel) 26 #[.val (.ref x), .val .null, .val (.ref a1320), .val (.int 5), .val (.int 4), .val (.ref kde)] [(.ref kde)] rfl ?_
  have f1407 := (pe2.keep K1322 nin0)
  refine own_getF C S1404 (host := "") (Or.inl (own_wd hw 13 rfl)) Via.refl f1407 (by decide +kernel) ?_
  intro T1408 S1409
  refine own_seg C S1409 [(29, .aload_n 0, 1)] (by decide +kernel) 30 #[.val (.ref x), .val .null, .val (.ref a1320), .val (.int 5), .val (.int 4), .val (.ref kde)] [(.ref x), (.ref lse)] rfl ?_
  have f1410 := (pe3.keep K1322)
  have f1411 := (pe4.keep K1322 nin0)
  have f1412 := (pe5.keep K1322 nin0)
  have f1413 := (pe6.keep K1322 nin0)
  refine own_callV C S1409 (own_wd hw 105 rfl) (own_wd hw 106 rfl) (own_wd hw 108 rfl) (own_wd hw 108 rfl) rfl (own_wd hw 107 rfl) (by decide) (Q := (fun v h' L => ((v = some (.int 1) ∧ own_L4 = xcs) ∨ (v = some (.int 0) ∧ ¬ own_L4 = xcs)) ∧ L = [] ∧ h' = h1325)) (StrChars.Road.eqW (W := 0) C.2.2.2.2.2.2.2 (fun d hd => hw d (own_heq d hd)) (kI := 4) (own_wd hw 61 rfl) f1410 f1411 f1412 f1413 (own_codG own_Lp4) (own_up _ own_Lp4) (by decide) f1337 f1338 f1339 f1340 (own_codG xhp) (own_up _ xhp) (Nat.le_trans xhl (by decide)) (O2.ext f1341.2) P5 (by decide) (by decide)) (fun _ _ L q => by rw [q.2.1]; exact Fr.nil _) f1410 [(.ref x)] [] rfl own_pd5 rfl rfl rfl (Nat.le_of_ble_eq_true rfl) (by decide) (by decide) (by decide +kernel) ?_
  rintro T1418 h1419 v1420 L1421 S1422 ⟨d1417, -, e1414⟩
  rw [e1414] at S1422; clear e1414
  obtain rfl : v1420 = some (.int 1) := d1417.elim (fun q => q.1) (fun q => absurd hv.symm q.2)
  show own_Go p e below _ T1418 (mkF m 33 #[.val (.ref x), .val .null, .val (.ref a1320), .val (.int 5), .val (.int 4), .val (.ref kde)] [(.int 1)])
  refine own_if C S1422 (q := .eq) (o := 6) (by decide +kernel) 39 (by decide) (by decide) (fun (hq : (1 : Int32) = (0 : Int32)) => False.elim (by revert hq; decide)) (fun (q1423 : ¬ (1 : Int32) = (0 : Int32)) => ?_)
  refine own_seg C S1422 [(36, .aload 5, 2), (38, .astore_n 1, 1), (39, .iinc 4 1, 3), (42, .goto (-30), 3), (12, .iload 4, 2), (14, .iload_n 3, 1)] (by decide +kernel) 15 #[.val (.ref x), .val (.ref kde), .val (.ref a1320), .val (.int 5), .val (.int ((4 : Int32) + (1 : Int32))), .val (.ref kde)] [(.int 5), (.int ((4 : Int32) + (1 : Int32)))] rfl ?_
  show own_Go p e below _ T1418 (mkF m 15 #[.val (.ref x), .val (.ref kde), .val (.ref a1320), .val (.int 5), .val (.int 5), .val (.ref kde)] [(.int 5), (.int 5)])
  refine own_icmp C S1422 (q := .ge) (o := 30) (by decide +kernel) 45 (by decide) (by decide) (fun (q1424 : ¬ (5 : Int32) < (5 : Int32)) => ?_) (fun (hq : (5 : Int32) < (5 : Int32)) => False.elim (by revert hq; decide))
  refine own_seg C S1422 [(45, .aload_n 1, 1)] (by decide +kernel) 46 #[.val (.ref x), .val (.ref kde), .val (.ref a1320), .val (.int 5), .val (.int 5), .val (.ref kde)] [(.ref kde)] rfl ?_
  refine own_retA C S1422 rfl rfl (by decide +kernel) (by decide) (by decide) ?_
  exact ⟨rfl, ((Keep.refl _ _).trans K1322 all0)⟩
theorem own_lb5 (l : Launch) (Z : State) (a0 : Array Value) (hw : ∀ d ∈ tables_1, d.before a0 Z = true) (G1 : Int32) (G3 : Value) (kda : Addr) (kdb : Addr) (kdc : Addr) (kdd : Addr) (kde : Addr) (lsa : Addr) (lsat : Addr) (lsak : ClassId) (lsb : Addr) (lsbt : Addr) (lsbk : ClassId) (lsc : Addr) (lsct : Addr) (lsck : ClassId) (lsd : Addr) (lsdt : Addr) (lsdk : ClassId) (lse : Addr) (lset : Addr) (lsek : ClassId) (VA : Addr) (VAk : ClassId) (x : Addr) (xt : Addr) (xk : ClassId) (xcs : List Int32) (h0 : Heap) (n0 : Nat) (z0 : n0 ≤ h0.size) (X00 : Old Z n0 h0) (xE : Exa Z h0 x "java/lang/String") (xV : Fld Z h0 x "java/lang/String" "value" "[B" (.ref xt)) (xC : Fld Z h0 x "java/lang/String" "coder" "B" (.int 0)) (xK : Arv Z h0 xt xk .byte (Int32.ofNat (xcs).length) (own_sv xcs) (.int 0)) (pa1 : Exa Z h0 kda "com/example/persephone/persephone/lucene/FieldKind") (pa2 : Fld Z h0 kda "com/example/persephone/persephone/lucene/FieldKind" "label" "Ljava/lang/String;" (.ref lsa)) (pa3 : Exa Z h0 lsa "java/lang/String") (pa4 : Fld Z h0 lsa "java/lang/String" "value" "[B" (.ref lsat)) (pa5 : Fld Z h0 lsa "java/lang/String" "coder" "B" (.int 0)) (pa6 : Arv Z h0 lsat lsak .byte (Int32.ofNat (own_L0).length) (own_sv own_L0) (.int 0)) (pb1 : Exa Z h0 kdb "com/example/persephone/persephone/lucene/FieldKind") (pb2 : Fld Z h0 kdb "com/example/persephone/persephone/lucene/FieldKind" "label" "Ljava/lang/String;" (.ref lsb)) (pb3 : Exa Z h0 lsb "java/lang/String") (pb4 : Fld Z h0 lsb "java/lang/String" "value" "[B" (.ref lsbt)) (pb5 : Fld Z h0 lsb "java/lang/String" "coder" "B" (.int 0)) (pb6 : Arv Z h0 lsbt lsbk .byte (Int32.ofNat (own_L1).length) (own_sv own_L1) (.int 0)) (pc1 : Exa Z h0 kdc "com/example/persephone/persephone/lucene/FieldKind") (pc2 : Fld Z h0 kdc "com/example/persephone/persephone/lucene/FieldKind" "label" "Ljava/lang/String;" (.ref lsc)) (pc3 : Exa Z h0 lsc "java/lang/String") (pc4 : Fld Z h0 lsc "java/lang/String" "value" "[B" (.ref lsct)) (pc5 : Fld Z h0 lsc "java/lang/String" "coder" "B" (.int 0)) (pc6 : Arv Z h0 lsct lsck .byte (Int32.ofNat (own_L2).length) (own_sv own_L2) (.int 0)) (pd1 : Exa Z h0 kdd "com/example/persephone/persephone/lucene/FieldKind") (pd2 : Fld Z h0 kdd "com/example/persephone/persephone/lucene/FieldKind" "label" "Ljava/lang/String;" (.ref lsd)) (pd3 : Exa Z h0 lsd "java/lang/String") (pd4 : Fld Z h0 lsd "java/lang/String" "value" "[B" (.ref lsdt)) (pd5 : Fld Z h0 lsd "java/lang/String" "coder" "B" (.int 0)) (pd6 : Arv Z h0 lsdt lsdk .byte (Int32.ofNat (own_L3).length) (own_sv own_L3) (.int 0)) (pe1 : Exa Z h0 kde "com/example/persephone/persephone/lucene/FieldKind") (pe2 : Fld Z h0 kde "com/example/persephone/persephone/lucene/FieldKind" "label" "Ljava/lang/String;" (.ref lse)) (pe3 : Exa Z h0 lse "java/lang/String") (pe4 : Fld Z h0 lse "java/lang/String" "value" "[B" (.ref lset)) (pe5 : Fld Z h0 lse "java/lang/String" "coder" "B" (.int 0)) (pe6 : Arv Z h0 lset lsek .byte (Int32.ofNat (own_L4).length) (own_sv own_L4) (.int 0)) (pV1 : Exa Z h0 VA "[Lcom/example/persephone/persephone/lucene/FieldKind;") (pV2 : Arv Z h0 VA VAk (.object "com/example/persephone/persephone/lucene/FieldKind") (5 : Int32) ([(.ref kda), (.ref kdb), (.ref kdc), (.ref kdd), (.ref kde)]) .null) (O2 : Sta Z Z.heap "java/lang/String" "COMPACT_STRINGS" "Z" (.int G1)) (O4 : Sta Z Z.heap "jdk/internal/util/Preconditions" "SIOOBE_FORMATTER" "Ljava/util/function/BiFunction;" G3) (P5 : ¬ G1 = (0 : Int32)) (rG3 : G3.isRef = true) (xhp : ∀ c ∈ xcs, ¬ c < 0 ∧ ¬ (255 : Int32) < c) (xhl : xcs.length ≤ 8) (OV : Sta Z Z.heap "com/example/persephone/persephone/lucene/FieldKind" "$VALUES" "[Lcom/example/persephone/persephone/lucene/FieldKind;" (.ref VA)) (hv : ¬ xcs = own_L0 ∧ ¬ xcs = own_L1 ∧ ¬ xcs = own_L2 ∧ ¬ xcs = own_L3 ∧ ¬ xcs = own_L4) :
    own_Met l Z (⟨"com/example/persephone/persephone/lucene/FieldKind", "labelled", "(Ljava/lang/String;)Lcom/example/persephone/persephone/lucene/FieldKind;"⟩ : MethodName) prog_17_method_4_code 6 (some (.object "com/example/persephone/persephone/lucene/FieldKind")) ({ frames := 2, cells := 1, slots := 5, locals := 28 } : Room) n0 #[(.ref x)] h0 (fun v h => v = some .null ∧ Keep h0 h []) := by
  refine own_met (by decide +kernel) #[.val (.ref x), .unset, .unset, .unset, .unset, .unset] (fun m => by first | (simp [entryFrame, mkF, argsToLocals, Value.category]; done) | rfl) ?_
  intro p e s m below meth c T0 C S0
  refine own_seg C S0 [(0, .aconst_null, 1), (1, .astore_n 1, 1)] (by decide +kernel) 2 #[.val (.ref x), .val .null, .unset, .unset, .unset, .unset] [] rfl ?_
  refine own_callS C S0 (own_wd hw 86 rfl) (own_wd hw 87 rfl) (own_wd hw 6 rfl) (own_wd hw 88 rfl) (by decide) (own_Met.pay (own_vs l Z a0 hw G1 G3 kda kdb kdc kdd kde VA VAk h0 n0 z0 X00 pV1 pV2 O2 O4 P5 rG3 OV) C 0 (own_wd hw 88 rfl) (own_wd hw 6 rfl) (by decide) (by decide)) (fun _ _ _ q => q.2) [] [] rfl own_pd4 rfl rfl rfl (Nat.le_of_ble_eq_true rfl) (by decide) (by decide) (by decide +kernel) ?_
  rintro T1429 h1430 v1431 L1432 S1433 ⟨⟨a1425, rfl, g1426, K1427, f1428⟩, -⟩
  show own_Go p e below _ T1429 (mkF m 5 #[.val (.ref x), .val .null, .unset, .unset, .unset, .unset] [(.ref a1425)])
  refine own_seg C S1433 [(5, .astore_n 2, 1), (6, .aload_n 2, 1)] (by decide +kernel) 7 #[.val (.ref x), .val .null, .val (.ref a1425), .unset, .unset, .unset] [(.ref a1425)] rfl ?_
  refine own_alen C S1433 f1428 (by decide +kernel) ?_
  refine own_seg C S1433 [(8, .istore_n 3, 1), (9, .iconst 0, 1), (10, .istore 4, 2), (12, .iload 4, 2), (14, .iload_n 3, 1)] (by decide +kernel) 15 #[.val (.ref x), .val .null, .val (.ref a1425), .val (.int 5), .val (.int 0), .unset] [(.int 5), (.int 0)] rfl ?_
  refine own_icmp C S1433 (q := .ge) (o := 30) (by decide +kernel) 45 (by decide) (by decide) (fun (hq : ¬ (0 : Int32) < (5 : Int32)) => False.elim (by revert hq; decide)) (fun (q1434 : (0 : Int32) < (5 : Int32)) => ?_)
  refine own_seg C S1433 [(18, .aload_n 2, 1), (19, .iload 4, 2)] (by decide +kernel) 21 #[.val (.ref x), .val .null, .val (.ref a1425), .val (.int 5), .val (.int 0), .unset] [(.int 0), (.ref a1425)] rfl ?_
  refine own_aaload C S1433 f1428 rfl ⟨(by decide), (by decide)⟩ (.ref kda) rfl (by decide +kernel) ?_
  refine own_seg C S1433 [(22, .astore 5, 2), (24, .aload 5, 2)] (by decide +kernel) 26 #[.val (.ref x), .val .null, .val (.ref a1425), .val (.int 5), .val (.int 0), .val (.ref kda)] [(.ref kda)] rfl ?_
  have f1435 := (pa2.keep K1427 nin0)
  refine own_getF C S1433 (host := "") (Or.inl (own_wd hw 13 rfl)) Via.refl f1435 (by decide +kernel) ?_
  intro T1436 S1437
  refine own_seg C S1437 [(29, .aload_n 0, 1)] (by decide +kernel) 30 #[.val (.ref x), .val .null, .val (.ref a1425), .val (.int 5), .val (.int 0), .val (.ref kda)] [(.ref x), (.ref lsa)] rfl ?_
  have f1438 := (pa3.keep K1427)
  have f1439 := (pa4.keep K1427 nin0)
  have f1440 := (pa5.keep K1427 nin0)
  have f1441 := (pa6.keep K1427 nin0)
  have f1442 := (xE.keep K1427)
  have f1443 := (xV.keep K1427 nin0)
  have f1444 := (xC.keep K1427 nin0)
  have f1445 := (xK.keep K1427 nin0)
  have f1446 := (X00.keep K1427 all0)
  refine own_callV C S1437 (own_wd hw 105 rfl) (own_wd hw 106 rfl) (own_wd hw 108 rfl) (own_wd hw 108 rfl) rfl (own_wd hw 107 rfl) (by decide) (Q := (fun v h' L => ((v = some (.int 1) ∧ own_L0 = xcs) ∨ (v = some (.int 0) ∧ ¬ own_L0 = xcs)) ∧ L = [] ∧ h' = h1430)) (StrChars.Road.eqW (W := 0) C.2.2.2.2.2.2.2 (fun d hd => hw d (own_heq d hd)) (kI := 4) (own_wd hw 61 rfl) f1438 f1439 f1440 f1441 (own_codG own_Lp0) (own_up _ own_Lp0) (by decide) f1442 f1443 f1444 f1445 (own_codG xhp) (own_up _ xhp) (Nat.le_trans xhl (by decide)) (O2.ext f1446.2) P5 (by decide) (by decide)) (fun _ _ L q => by rw [q.2.1]; exact Fr.nil _) f1438 [(.ref x)] [] rfl own_pd5 rfl rfl rfl (Nat.le_of_ble_eq_true rfl) (by decide) (by decide) (by decide +kernel) ?_
  rintro T1451 h1452 v1453 L1454 S1455 ⟨d1450, -, e1447⟩
  rw [e1447] at S1455; clear e1447
  obtain rfl : v1453 = some (.int 0) := d1450.elim (fun q => absurd q.2 (fun q => hv.1 q.symm)) (fun q => q.1)
  show own_Go p e below _ T1451 (mkF m 33 #[.val (.ref x), .val .null, .val (.ref a1425), .val (.int 5), .val (.int 0), .val (.ref kda)] [(.int 0)])
  refine own_if C S1455 (q := .eq) (o := 6) (by decide +kernel) 39 (by decide) (by decide) (fun (q1456 : (0 : Int32) = (0 : Int32)) => ?_) (fun (hq : ¬ (0 : Int32) = (0 : Int32)) => False.elim (by revert hq; decide))
  refine own_seg C S1455 [(39, .iinc 4 1, 3), (42, .goto (-30), 3), (12, .iload 4, 2), (14, .iload_n 3, 1)] (by decide +kernel) 15 #[.val (.ref x), .val .null, .val (.ref a1425), .val (.int 5), .val (.int ((0 : Int32) + (1 : Int32))), .val (.ref kda)] [(.int 5), (.int ((0 : Int32) + (1 : Int32)))] rfl ?_
  show own_Go p e below _ T1451 (mkF m 15 #[.val (.ref x), .val .null, .val (.ref a1425), .val (.int 5), .val (.int 1), .val (.ref kda)] [(.int 5), (.int 1)])
  refine own_icmp C S1455 (q := .ge) (o := 30) (by decide +kernel) 45 (by decide) (by decide) (fun (hq : ¬ (1 : Int32) < (5 : Int32)) => False.elim (by revert hq; decide)) (fun (q1457 : (1 : Int32) < (5 : Int32)) => ?_)
  refine own_seg C S1455 [(18, .aload_n 2, 1), (19, .iload 4, 2)] (by decide +kernel) 21 #[.val (.ref x), .val .null, .val (.ref a1425), .val (.int 5), .val (.int 1), .val (.ref kda)] [(.int 1), (.ref a1425)] rfl ?_
  refine own_aaload C S1455 f1428 rfl ⟨(by decide), (by decide)⟩ (.ref kdb) rfl (by decide +kernel) ?_
  refine own_seg C S1455 [(22, .astore 5, 2), (24, .aload 5, 2)] (by decide +kernel) 26 #[.val (.ref x), .val .null, .val (.ref a1425), .val (.int 5), .val (.int 1), .val (.ref kdb)] [(.ref kdb)] rfl ?_
  have f1458 := (pb2.keep K1427 nin0)
  refine own_getF C S1455 (host := "") (Or.inl (own_wd hw 13 rfl)) Via.refl f1458 (by decide +kernel) ?_
  intro T1459 S1460
  refine own_seg C S1460 [(29, .aload_n 0, 1)] (by decide +kernel) 30 #[.val (.ref x), .val .null, .val (.ref a1425), .val (.int 5), .val (.int 1), .val (.ref kdb)] [(.ref x), (.ref lsb)] rfl ?_
  have f1461 := (pb3.keep K1427)
  have f1462 := (pb4.keep K1427 nin0)
  have f1463 := (pb5.keep K1427 nin0)
  have f1464 := (pb6.keep K1427 nin0)
  refine own_callV C S1460 (own_wd hw 105 rfl) (own_wd hw 106 rfl) (own_wd hw 108 rfl) (own_wd hw 108 rfl) rfl (own_wd hw 107 rfl) (by decide) (Q := (fun v h' L => ((v = some (.int 1) ∧ own_L1 = xcs) ∨ (v = some (.int 0) ∧ ¬ own_L1 = xcs)) ∧ L = [] ∧ h' = h1430)) (StrChars.Road.eqW (W := 0) C.2.2.2.2.2.2.2 (fun d hd => hw d (own_heq d hd)) (kI := 4) (own_wd hw 61 rfl) f1461 f1462 f1463 f1464 (own_codG own_Lp1) (own_up _ own_Lp1) (by decide) f1442 f1443 f1444 f1445 (own_codG xhp) (own_up _ xhp) (Nat.le_trans xhl (by decide)) (O2.ext f1446.2) P5 (by decide) (by decide)) (fun _ _ L q => by rw [q.2.1]; exact Fr.nil _) f1461 [(.ref x)] [] rfl own_pd5 rfl rfl rfl (Nat.le_of_ble_eq_true rfl) (by decide) (by decide) (by decide +kernel) ?_
  rintro T1469 h1470 v1471 L1472 S1473 ⟨d1468, -, e1465⟩
  rw [e1465] at S1473; clear e1465
  obtain rfl : v1471 = some (.int 0) := d1468.elim (fun q => absurd q.2 (fun q => hv.2.1 q.symm)) (fun q => q.1)
  show own_Go p e below _ T1469 (mkF m 33 #[.val (.ref x), .val .null, .val (.ref a1425), .val (.int 5), .val (.int 1), .val (.ref kdb)] [(.int 0)])
  refine own_if C S1473 (q := .eq) (o := 6) (by decide +kernel) 39 (by decide) (by decide) (fun (q1474 : (0 : Int32) = (0 : Int32)) => ?_) (fun (hq : ¬ (0 : Int32) = (0 : Int32)) => False.elim (by revert hq; decide))
  refine own_seg C S1473 [(39, .iinc 4 1, 3), (42, .goto (-30), 3), (12, .iload 4, 2), (14, .iload_n 3, 1)] (by decide +kernel) 15 #[.val (.ref x), .val .null, .val (.ref a1425), .val (.int 5), .val (.int ((1 : Int32) + (1 : Int32))), .val (.ref kdb)] [(.int 5), (.int ((1 : Int32) + (1 : Int32)))] rfl ?_
  show own_Go p e below _ T1469 (mkF m 15 #[.val (.ref x), .val .null, .val (.ref a1425), .val (.int 5), .val (.int 2), .val (.ref kdb)] [(.int 5), (.int 2)])
  refine own_icmp C S1473 (q := .ge) (o := 30) (by decide +kernel) 45 (by decide) (by decide) (fun (hq : ¬ (2 : Int32) < (5 : Int32)) => False.elim (by revert hq; decide)) (fun (q1475 : (2 : Int32) < (5 : Int32)) => ?_)
  refine own_seg C S1473 [(18, .aload_n 2, 1), (19, .iload 4, 2)] (by decide +kernel) 21 #[.val (.ref x), .val .null, .val (.ref a1425), .val (.int 5), .val (.int 2), .val (.ref kdb)] [(.int 2), (.ref a1425)] rfl ?_
  refine own_aaload C S1473 f1428 rfl ⟨(by decide), (by decide)⟩ (.ref kdc) rfl (by decide +kernel) ?_
  refine own_seg C S1473 [(22, .astore 5, 2), (24, .aload 5, 2)] (by decide +kernel) 26 #[.val (.ref x), .val .null, .val (.ref a1425), .val (.int 5), .val (.int 2), .val (.ref kdc)] [(.ref kdc)] rfl ?_
  have f1476 := (pc2.keep K1427 nin0)
  refine own_getF C S1473 (host := "") (Or.inl (own_wd hw 13 rfl)) Via.refl f1476 (by decide +kernel) ?_
  intro T1477 S1478
  refine own_seg C S1478 [(29, .aload_n 0, 1)] (by decide +kernel) 30 #[.val (.ref x), .val .null, .val (.ref a1425), .val (.int 5), .val (.int 2), .val (.ref kdc)] [(.ref x), (.ref lsc)] rfl ?_
  have f1479 := (pc3.keep K1427)
  have f1480 := (pc4.keep K1427 nin0)
  have f1481 := (pc5.keep K1427 nin0)
  have f1482 := (pc6.keep K1427 nin0)
  refine own_callV C S1478 (own_wd hw 105 rfl) (own_wd hw 106 rfl) (own_wd hw 108 rfl) (own_wd hw 108 rfl) rfl (own_wd hw 107 rfl) (by decide) (Q := (fun v h' L => ((v = some (.int 1) ∧ own_L2 = xcs) ∨ (v = some (.int 0) ∧ ¬ own_L2 = xcs)) ∧ L = [] ∧ h' = h1430)) (StrChars.Road.eqW (W := 0) C.2.2.2.2.2.2.2 (fun d hd => hw d (own_heq d hd)) (kI := 4) (own_wd hw 61 rfl) f1479 f1480 f1481 f1482 (own_codG own_Lp2) (own_up _ own_Lp2) (by decide) f1442 f1443 f1444 f1445 (own_codG xhp) (own_up _ xhp) (Nat.le_trans xhl (by decide)) (O2.ext f1446.2) P5 (by decide) (by decide)) (fun _ _ L q => by rw [q.2.1]; exact Fr.nil _) f1479 [(.ref x)] [] rfl own_pd5 rfl rfl rfl (Nat.le_of_ble_eq_true rfl) (by decide) (by decide) (by decide +kernel) ?_
  rintro T1487 h1488 v1489 L1490 S1491 ⟨d1486, -, e1483⟩
  rw [e1483] at S1491; clear e1483
  obtain rfl : v1489 = some (.int 0) := d1486.elim (fun q => absurd q.2 (fun q => hv.2.2.1 q.symm)) (fun q => q.1)
  show own_Go p e below _ T1487 (mkF m 33 #[.val (.ref x), .val .null, .val (.ref a1425), .val (.int 5), .val (.int 2), .val (.ref kdc)] [(.int 0)])
  refine own_if C S1491 (q := .eq) (o := 6) (by decide +kernel) 39 (by decide) (by decide) (fun (q1492 : (0 : Int32) = (0 : Int32)) => ?_) (fun (hq : ¬ (0 : Int32) = (0 : Int32)) => False.elim (by revert hq; decide))
  refine own_seg C S1491 [(39, .iinc 4 1, 3), (42, .goto (-30), 3), (12, .iload 4, 2), (14, .iload_n 3, 1)] (by decide +kernel) 15 #[.val (.ref x), .val .null, .val (.ref a1425), .val (.int 5), .val (.int ((2 : Int32) + (1 : Int32))), .val (.ref kdc)] [(.int 5), (.int ((2 : Int32) + (1 : Int32)))] rfl ?_
  show own_Go p e below _ T1487 (mkF m 15 #[.val (.ref x), .val .null, .val (.ref a1425), .val (.int 5), .val (.int 3), .val (.ref kdc)] [(.int 5), (.int 3)])
  refine own_icmp C S1491 (q := .ge) (o := 30) (by decide +kernel) 45 (by decide) (by decide) (fun (hq : ¬ (3 : Int32) < (5 : Int32)) => False.elim (by revert hq; decide)) (fun (q1493 : (3 : Int32) < (5 : Int32)) => ?_)
  refine own_seg C S1491 [(18, .aload_n 2, 1), (19, .iload 4, 2)] (by decide +kernel) 21 #[.val (.ref x), .val .null, .val (.ref a1425), .val (.int 5), .val (.int 3), .val (.ref kdc)] [(.int 3), (.ref a1425)] rfl ?_
  refine own_aaload C S1491 f1428 rfl ⟨(by decide), (by decide)⟩ (.ref kdd) rfl (by decide +kernel) ?_
  refine own_seg C S1491 [(22, .astore 5, 2), (24, .aload 5, 2)] (by decide +kernel) 26 #[.val (.ref x), .val .null, .val (.ref a1425), .val (.int 5), .val (.int 3), .val (.ref kdd)] [(.ref kdd)] rfl ?_
  have f1494 := (pd2.keep K1427 nin0)
  refine own_getF C S1491 (host := "") (Or.inl (own_wd hw 13 rfl)) Via.refl f1494 (by decide +kernel) ?_
  intro T1495 S1496
  refine own_seg C S1496 [(29, .aload_n 0, 1)] (by decide +kernel) 30 #[.val (.ref x), .val .null, .val (.ref a1425), .val (.int 5), .val (.int 3), .val (.ref kdd)] [(.ref x), (.ref lsd)] rfl ?_
  have f1497 := (pd3.keep K1427)
  have f1498 := (pd4.keep K1427 nin0)
  have f1499 := (pd5.keep K1427 nin0)
  have f1500 := (pd6.keep K1427 nin0)
  refine own_callV C S1496 (own_wd hw 105 rfl) (own_wd hw 106 rfl) (own_wd hw 108 rfl) (own_wd hw 108 rfl) rfl (own_wd hw 107 rfl) (by decide) (Q := (fun v h' L => ((v = some (.int 1) ∧ own_L3 = xcs) ∨ (v = some (.int 0) ∧ ¬ own_L3 = xcs)) ∧ L = [] ∧ h' = h1430)) (StrChars.Road.eqW (W := 0) C.2.2.2.2.2.2.2 (fun d hd => hw d (own_heq d hd)) (kI := 4) (own_wd hw 61 rfl) f1497 f1498 f1499 f1500 (own_codG own_Lp3) (own_up _ own_Lp3) (by decide) f1442 f1443 f1444 f1445 (own_codG xhp) (own_up _ xhp) (Nat.le_trans xhl (by decide)) (O2.ext f1446.2) P5 (by decide) (by decide)) (fun _ _ L q => by rw [q.2.1]; exact Fr.nil _) f1497 [(.ref x)] [] rfl own_pd5 rfl rfl rfl (Nat.le_of_ble_eq_true rfl) (by decide) (by decide) (by decide +kernel) ?_
  rintro T1505 h1506 v1507 L1508 S1509 ⟨d1504, -, e1501⟩
  rw [e1501] at S1509; clear e1501
  obtain rfl : v1507 = some (.int 0) := d1504.elim (fun q => absurd q.2 (fun q => hv.2.2.2.1 q.symm)) (fun q => q.1)
  show own_Go p e below _ T1505 (mkF m 33 #[.val (.ref x), .val .null, .val (.ref a1425), .val (.int 5), .val (.int 3), .val (.ref kdd)] [(.int 0)])
  refine own_if C S1509 (q := .eq) (o := 6) (by decide +kernel) 39 (by decide) (by decide) (fun (q1510 : (0 : Int32) = (0 : Int32)) => ?_) (fun (hq : ¬ (0 : Int32) = (0 : Int32)) => False.elim (by revert hq; decide))
  refine own_seg C S1509 [(39, .iinc 4 1, 3), (42, .goto (-30), 3), (12, .iload 4, 2), (14, .iload_n 3, 1)] (by decide +kernel) 15 #[.val (.ref x), .val .null, .val (.ref a1425), .val (.int 5), .val (.int ((3 : Int32) + (1 : Int32))), .val (.ref kdd)] [(.int 5), (.int ((3 : Int32) + (1 : Int32)))] rfl ?_
  show own_Go p e below _ T1505 (mkF m 15 #[.val (.ref x), .val .null, .val (.ref a1425), .val (.int 5), .val (.int 4), .val (.ref kdd)] [(.int 5), (.int 4)])
  refine own_icmp C S1509 (q := .ge) (o := 30) (by decide +kernel) 45 (by decide) (by decide) (fun (hq : ¬ (4 : Int32) < (5 : Int32)) => False.elim (by revert hq; decide)) (fun (q1511 : (4 : Int32) < (5 : Int32)) => ?_)
  refine own_seg C S1509 [(18, .aload_n 2, 1), (19, .iload 4, 2)] (by decide +kernel) 21 #[.val (.ref x), .val .null, .val (.ref a1425), .val (.int 5), .val (.int 4), .val (.ref kdd)] [(.int 4), (.ref a1425)] rfl ?_
  refine own_aaload C S1509 f1428 rfl ⟨(by decide), (by decide)⟩ (.ref kde) rfl (by decide +kernel) ?_
  refine own_seg C S1509 [(22, .astore 5, 2), (24, .aload 5, 2)] (by decide +kernel) 26 #[.val (.ref x), .val .null, .val (.ref a1425), .val (.int 5), .val (.int 4), .val (.ref kde)] [(.ref kde)] rfl ?_
  have f1512 := (pe2.keep K1427 nin0)
  refine own_getF C S1509 (host := "") (Or.inl (own_wd hw 13 rfl)) Via.refl f1512 (by decide +kernel) ?_
  intro T1513 S1514
  refine own_seg C S1514 [(29, .aload_n 0, 1)] (by decide +kernel) 30 #[.val (.ref x), .val .null, .val (.ref a1425), .val (.int 5), .val (.int 4), .val (.ref kde)] [(.ref x), (.ref lse)] rfl ?_
  have f1515 := (pe3.keep K1427)
  have f1516 := (pe4.keep K1427 nin0)
  have f1517 := (pe5.keep K1427 nin0)
  have f1518 := (pe6.keep K1427 nin0)
  refine own_callV C S1514 (own_wd hw 105 rfl) (own_wd hw 106 rfl) (own_wd hw 108 rfl) (own_wd hw 108 rfl) rfl (own_wd hw 107 rfl) (by decide) (Q := (fun v h' L => ((v = some (.int 1) ∧ own_L4 = xcs) ∨ (v = some (.int 0) ∧ ¬ own_L4 = xcs)) ∧ L = [] ∧ h' = h1430)) (StrChars.Road.eqW (W := 0) C.2.2.2.2.2.2.2 (fun d hd => hw d (own_heq d hd)) (kI := 4) (own_wd hw 61 rfl) f1515 f1516 f1517 f1518 (own_codG own_Lp4) (own_up _ own_Lp4) (by decide) f1442 f1443 f1444 f1445 (own_codG xhp) (own_up _ xhp) (Nat.le_trans xhl (by decide)) (O2.ext f1446.2) P5 (by decide) (by decide)) (fun _ _ L q => by rw [q.2.1]; exact Fr.nil _) f1515 [(.ref x)] [] rfl own_pd5 rfl rfl rfl (Nat.le_of_ble_eq_true rfl) (by decide) (by decide) (by decide +kernel) ?_
  rintro T1523 h1524 v1525 L1526 S1527 ⟨d1522, -, e1519⟩
  rw [e1519] at S1527; clear e1519
  obtain rfl : v1525 = some (.int 0) := d1522.elim (fun q => absurd q.2 (fun q => hv.2.2.2.2 q.symm)) (fun q => q.1)
  show own_Go p e below _ T1523 (mkF m 33 #[.val (.ref x), .val .null, .val (.ref a1425), .val (.int 5), .val (.int 4), .val (.ref kde)] [(.int 0)])
  refine own_if C S1527 (q := .eq) (o := 6) (by decide +kernel) 39 (by decide) (by decide) (fun (q1528 : (0 : Int32) = (0 : Int32)) => ?_) (fun (hq : ¬ (0 : Int32) = (0 : Int32)) => False.elim (by revert hq; decide))
  refine own_seg C S1527 [(39, .iinc 4 1, 3), (42, .goto (-30), 3), (12, .iload 4, 2), (14, .iload_n 3, 1)] (by decide +kernel) 15 #[.val (.ref x), .val .null, .val (.ref a1425), .val (.int 5), .val (.int ((4 : Int32) + (1 : Int32))), .val (.ref kde)] [(.int 5), (.int ((4 : Int32) + (1 : Int32)))] rfl ?_
  show own_Go p e below _ T1523 (mkF m 15 #[.val (.ref x), .val .null, .val (.ref a1425), .val (.int 5), .val (.int 5), .val (.ref kde)] [(.int 5), (.int 5)])
  refine own_icmp C S1527 (q := .ge) (o := 30) (by decide +kernel) 45 (by decide) (by decide) (fun (q1529 : ¬ (5 : Int32) < (5 : Int32)) => ?_) (fun (hq : (5 : Int32) < (5 : Int32)) => False.elim (by revert hq; decide))
  refine own_seg C S1527 [(45, .aload_n 1, 1)] (by decide +kernel) 46 #[.val (.ref x), .val .null, .val (.ref a1425), .val (.int 5), .val (.int 5), .val (.ref kde)] [.null] rfl ?_
  refine own_retA C S1527 rfl rfl (by decide +kernel) (by decide) (by decide) ?_
  exact ⟨rfl, ((Keep.refl _ _).trans K1427 all0)⟩
theorem own_lbN (l : Launch) (Z : State) (a0 : Array Value) (hw : ∀ d ∈ tables_1, d.before a0 Z = true) (G1 : Int32) (G3 : Value) (kda : Addr) (kdb : Addr) (kdc : Addr) (kdd : Addr) (kde : Addr) (lsa : Addr) (lsat : Addr) (lsak : ClassId) (lsb : Addr) (lsbt : Addr) (lsbk : ClassId) (lsc : Addr) (lsct : Addr) (lsck : ClassId) (lsd : Addr) (lsdt : Addr) (lsdk : ClassId) (lse : Addr) (lset : Addr) (lsek : ClassId) (VA : Addr) (VAk : ClassId) (h0 : Heap) (n0 : Nat) (z0 : n0 ≤ h0.size) (X00 : Old Z n0 h0) (pa1 : Exa Z h0 kda "com/example/persephone/persephone/lucene/FieldKind") (pa2 : Fld Z h0 kda "com/example/persephone/persephone/lucene/FieldKind" "label" "Ljava/lang/String;" (.ref lsa)) (pa3 : Exa Z h0 lsa "java/lang/String") (pa4 : Fld Z h0 lsa "java/lang/String" "value" "[B" (.ref lsat)) (pa5 : Fld Z h0 lsa "java/lang/String" "coder" "B" (.int 0)) (pa6 : Arv Z h0 lsat lsak .byte (Int32.ofNat (own_L0).length) (own_sv own_L0) (.int 0)) (pb1 : Exa Z h0 kdb "com/example/persephone/persephone/lucene/FieldKind") (pb2 : Fld Z h0 kdb "com/example/persephone/persephone/lucene/FieldKind" "label" "Ljava/lang/String;" (.ref lsb)) (pb3 : Exa Z h0 lsb "java/lang/String") (pb4 : Fld Z h0 lsb "java/lang/String" "value" "[B" (.ref lsbt)) (pb5 : Fld Z h0 lsb "java/lang/String" "coder" "B" (.int 0)) (pb6 : Arv Z h0 lsbt lsbk .byte (Int32.ofNat (own_L1).length) (own_sv own_L1) (.int 0)) (pc1 : Exa Z h0 kdc "com/example/persephone/persephone/lucene/FieldKind") (pc2 : Fld Z h0 kdc "com/example/persephone/persephone/lucene/FieldKind" "label" "Ljava/lang/String;" (.ref lsc)) (pc3 : Exa Z h0 lsc "java/lang/String") (pc4 : Fld Z h0 lsc "java/lang/String" "value" "[B" (.ref lsct)) (pc5 : Fld Z h0 lsc "java/lang/String" "coder" "B" (.int 0)) (pc6 : Arv Z h0 lsct lsck .byte (Int32.ofNat (own_L2).length) (own_sv own_L2) (.int 0)) (pd1 : Exa Z h0 kdd "com/example/persephone/persephone/lucene/FieldKind") (pd2 : Fld Z h0 kdd "com/example/persephone/persephone/lucene/FieldKind" "label" "Ljava/lang/String;" (.ref lsd)) (pd3 : Exa Z h0 lsd "java/lang/String") (pd4 : Fld Z h0 lsd "java/lang/String" "value" "[B" (.ref lsdt)) (pd5 : Fld Z h0 lsd "java/lang/String" "coder" "B" (.int 0)) (pd6 : Arv Z h0 lsdt lsdk .byte (Int32.ofNat (own_L3).length) (own_sv own_L3) (.int 0)) (pe1 : Exa Z h0 kde "com/example/persephone/persephone/lucene/FieldKind") (pe2 : Fld Z h0 kde "com/example/persephone/persephone/lucene/FieldKind" "label" "Ljava/lang/String;" (.ref lse)) (pe3 : Exa Z h0 lse "java/lang/String") (pe4 : Fld Z h0 lse "java/lang/String" "value" "[B" (.ref lset)) (pe5 : Fld Z h0 lse "java/lang/String" "coder" "B" (.int 0)) (pe6 : Arv Z h0 lset lsek .byte (Int32.ofNat (own_L4).length) (own_sv own_L4) (.int 0)) (pV1 : Exa Z h0 VA "[Lcom/example/persephone/persephone/lucene/FieldKind;") (pV2 : Arv Z h0 VA VAk (.object "com/example/persephone/persephone/lucene/FieldKind") (5 : Int32) ([(.ref kda), (.ref kdb), (.ref kdc), (.ref kdd), (.ref kde)]) .null) (O2 : Sta Z Z.heap "java/lang/String" "COMPACT_STRINGS" "Z" (.int G1)) (O4 : Sta Z Z.heap "jdk/internal/util/Preconditions" "SIOOBE_FORMATTER" "Ljava/util/function/BiFunction;" G3) (P5 : ¬ G1 = (0 : Int32)) (rG3 : G3.isRef = true) (OV : Sta Z Z.heap "com/example/persephone/persephone/lucene/FieldKind" "$VALUES" "[Lcom/example/persephone/persephone/lucene/FieldKind;" (.ref VA)) :
    own_Met l Z (⟨"com/example/persephone/persephone/lucene/FieldKind", "labelled", "(Ljava/lang/String;)Lcom/example/persephone/persephone/lucene/FieldKind;"⟩ : MethodName) prog_17_method_4_code 6 (some (.object "com/example/persephone/persephone/lucene/FieldKind")) ({ frames := 2, cells := 1, slots := 5, locals := 25 } : Room) n0 #[.null] h0 (fun v h => v = some .null ∧ Keep h0 h []) := by
  refine own_met (by decide +kernel) #[.val .null, .unset, .unset, .unset, .unset, .unset] (fun m => by first | (simp [entryFrame, mkF, argsToLocals, Value.category]; done) | rfl) ?_
  intro p e s m below meth c T0 C S0
  refine own_seg C S0 [(0, .aconst_null, 1), (1, .astore_n 1, 1)] (by decide +kernel) 2 #[.val .null, .val .null, .unset, .unset, .unset, .unset] [] rfl ?_
  refine own_callS C S0 (own_wd hw 86 rfl) (own_wd hw 87 rfl) (own_wd hw 6 rfl) (own_wd hw 88 rfl) (by decide) (own_Met.pay (own_vs l Z a0 hw G1 G3 kda kdb kdc kdd kde VA VAk h0 n0 z0 X00 pV1 pV2 O2 O4 P5 rG3 OV) C 0 (own_wd hw 88 rfl) (own_wd hw 6 rfl) (by decide) (by decide)) (fun _ _ _ q => q.2) [] [] rfl own_pd4 rfl rfl rfl (Nat.le_of_ble_eq_true rfl) (by decide) (by decide) (by decide +kernel) ?_
  rintro T1534 h1535 v1536 L1537 S1538 ⟨⟨a1530, rfl, g1531, K1532, f1533⟩, -⟩
  show own_Go p e below _ T1534 (mkF m 5 #[.val .null, .val .null, .unset, .unset, .unset, .unset] [(.ref a1530)])
  refine own_seg C S1538 [(5, .astore_n 2, 1), (6, .aload_n 2, 1)] (by decide +kernel) 7 #[.val .null, .val .null, .val (.ref a1530), .unset, .unset, .unset] [(.ref a1530)] rfl ?_
  refine own_alen C S1538 f1533 (by decide +kernel) ?_
  refine own_seg C S1538 [(8, .istore_n 3, 1), (9, .iconst 0, 1), (10, .istore 4, 2), (12, .iload 4, 2), (14, .iload_n 3, 1)] (by decide +kernel) 15 #[.val .null, .val .null, .val (.ref a1530), .val (.int 5), .val (.int 0), .unset] [(.int 5), (.int 0)] rfl ?_
  refine own_icmp C S1538 (q := .ge) (o := 30) (by decide +kernel) 45 (by decide) (by decide) (fun (hq : ¬ (0 : Int32) < (5 : Int32)) => False.elim (by revert hq; decide)) (fun (q1539 : (0 : Int32) < (5 : Int32)) => ?_)
  refine own_seg C S1538 [(18, .aload_n 2, 1), (19, .iload 4, 2)] (by decide +kernel) 21 #[.val .null, .val .null, .val (.ref a1530), .val (.int 5), .val (.int 0), .unset] [(.int 0), (.ref a1530)] rfl ?_
  refine own_aaload C S1538 f1533 rfl ⟨(by decide), (by decide)⟩ (.ref kda) rfl (by decide +kernel) ?_
  refine own_seg C S1538 [(22, .astore 5, 2), (24, .aload 5, 2)] (by decide +kernel) 26 #[.val .null, .val .null, .val (.ref a1530), .val (.int 5), .val (.int 0), .val (.ref kda)] [(.ref kda)] rfl ?_
  have f1540 := (pa2.keep K1532 nin0)
  refine own_getF C S1538 (host := "") (Or.inl (own_wd hw 13 rfl)) Via.refl f1540 (by decide +kernel) ?_
  intro T1541 S1542
  refine own_seg C S1542 [(29, .aload_n 0, 1)] (by decide +kernel) 30 #[.val .null, .val .null, .val (.ref a1530), .val (.int 5), .val (.int 0), .val (.ref kda)] [.null, (.ref lsa)] rfl ?_
  have f1543 := (pa3.keep K1532)
  have f1544 : n0 ≤ h1535.size := (Nat.le_trans z0 K1532.1)
  refine own_callV C S1542 (own_wd hw 105 rfl) (own_wd hw 106 rfl) (own_wd hw 108 rfl) (own_wd hw 108 rfl) rfl (own_wd hw 107 rfl) (by decide) (own_Met.pay (own_eqN l Z a0 hw lsa h1535 n0 f1544 f1543) C 0 (own_wd hw 109 rfl) (own_wd hw 23 rfl) (by decide) (by decide)) (fun _ _ _ q => q.2) f1543 [.null] [] rfl own_pd5 rfl rfl rfl (Nat.le_of_ble_eq_true rfl) (by decide) (by decide) (by decide +kernel) ?_
  rintro T1546 h1547 v1548 L1549 S1550 ⟨⟨rfl, e1545⟩, -⟩
  rw [e1545] at S1550; clear e1545
  show own_Go p e below _ T1546 (mkF m 33 #[.val .null, .val .null, .val (.ref a1530), .val (.int 5), .val (.int 0), .val (.ref kda)] [(.int 0)])
  refine own_if C S1550 (q := .eq) (o := 6) (by decide +kernel) 39 (by decide) (by decide) (fun (q1551 : (0 : Int32) = (0 : Int32)) => ?_) (fun (hq : ¬ (0 : Int32) = (0 : Int32)) => False.elim (by revert hq; decide))
  refine own_seg C S1550 [(39, .iinc 4 1, 3), (42, .goto (-30), 3), (12, .iload 4, 2), (14, .iload_n 3, 1)] (by decide +kernel) 15 #[.val .null, .val .null, .val (.ref a1530), .val (.int 5), .val (.int ((0 : Int32) + (1 : Int32))), .val (.ref kda)] [(.int 5), (.int ((0 : Int32) + (1 : Int32)))] rfl ?_
  show own_Go p e below _ T1546 (mkF m 15 #[.val .null, .val .null, .val (.ref a1530), .val (.int 5), .val (.int 1), .val (.ref kda)] [(.int 5), (.int 1)])
  refine own_icmp C S1550 (q := .ge) (o := 30) (by decide +kernel) 45 (by decide) (by decide) (fun (hq : ¬ (1 : Int32) < (5 : Int32)) => False.elim (by revert hq; decide)) (fun (q1552 : (1 : Int32) < (5 : Int32)) => ?_)
  refine own_seg C S1550 [(18, .aload_n 2, 1), (19, .iload 4, 2)] (by decide +kernel) 21 #[.val .null, .val .null, .val (.ref a1530), .val (.int 5), .val (.int 1), .val (.ref kda)] [(.int 1), (.ref a1530)] rfl ?_
  refine own_aaload C S1550 f1533 rfl ⟨(by decide), (by decide)⟩ (.ref kdb) rfl (by decide +kernel) ?_
  refine own_seg C S1550 [(22, .astore 5, 2), (24, .aload 5, 2)] (by decide +kernel) 26 #[.val .null, .val .null, .val (.ref a1530), .val (.int 5), .val (.int 1), .val (.ref kdb)] [(.ref kdb)] rfl ?_
  have f1553 := (pb2.keep K1532 nin0)
  refine own_getF C S1550 (host := "") (Or.inl (own_wd hw 13 rfl)) Via.refl f1553 (by decide +kernel) ?_
  intro T1554 S1555
  refine own_seg C S1555 [(29, .aload_n 0, 1)] (by decide +kernel) 30 #[.val .null, .val .null, .val (.ref a1530), .val (.int 5), .val (.int 1), .val (.ref kdb)] [.null, (.ref lsb)] rfl ?_
  have f1556 := (pb3.keep K1532)
  refine own_callV C S1555 (own_wd hw 105 rfl) (own_wd hw 106 rfl) (own_wd hw 108 rfl) (own_wd hw 108 rfl) rfl (own_wd hw 107 rfl) (by decide) (own_Met.pay (own_eqN l Z a0 hw lsb h1535 n0 f1544 f1556) C 0 (own_wd hw 109 rfl) (own_wd hw 23 rfl) (by decide) (by decide)) (fun _ _ _ q => q.2) f1556 [.null] [] rfl own_pd5 rfl rfl rfl (Nat.le_of_ble_eq_true rfl) (by decide) (by decide) (by decide +kernel) ?_
  rintro T1558 h1559 v1560 L1561 S1562 ⟨⟨rfl, e1557⟩, -⟩
  rw [e1557] at S1562; clear e1557
  show own_Go p e below _ T1558 (mkF m 33 #[.val .null, .val .null, .val (.ref a1530), .val (.int 5), .val (.int 1), .val (.ref kdb)] [(.int 0)])
  refine own_if C S1562 (q := .eq) (o := 6) (by decide +kernel) 39 (by decide) (by decide) (fun (q1563 : (0 : Int32) = (0 : Int32)) => ?_) (fun (hq : ¬ (0 : Int32) = (0 : Int32)) => False.elim (by revert hq; decide))
  refine own_seg C S1562 [(39, .iinc 4 1, 3), (42, .goto (-30), 3), (12, .iload 4, 2), (14, .iload_n 3, 1)] (by decide +kernel) 15 #[.val .null, .val .null, .val (.ref a1530), .val (.int 5), .val (.int ((1 : Int32) + (1 : Int32))), .val (.ref kdb)] [(.int 5), (.int ((1 : Int32) + (1 : Int32)))] rfl ?_
  show own_Go p e below _ T1558 (mkF m 15 #[.val .null, .val .null, .val (.ref a1530), .val (.int 5), .val (.int 2), .val (.ref kdb)] [(.int 5), (.int 2)])
  refine own_icmp C S1562 (q := .ge) (o := 30) (by decide +kernel) 45 (by decide) (by decide) (fun (hq : ¬ (2 : Int32) < (5 : Int32)) => False.elim (by revert hq; decide)) (fun (q1564 : (2 : Int32) < (5 : Int32)) => ?_)
  refine own_seg C S1562 [(18, .aload_n 2, 1), (19, .iload 4, 2)] (by decide +kernel) 21 #[.val .null, .val .null, .val (.ref a1530), .val (.int 5), .val (.int 2), .val (.ref kdb)] [(.int 2), (.ref a1530)] rfl ?_
  refine own_aaload C S1562 f1533 rfl ⟨(by decide), (by decide)⟩ (.ref kdc) rfl (by decide +kernel) ?_
  refine own_seg C S1562 [(22, .astore 5, 2), (24, .aload 5, 2)] (by decide +kernel) 26 #[.val .null, .val .null, .val (.ref a1530), .val (.int 5), .val (.int 2), .val (.ref kdc)] [(.ref kdc)] rfl ?_
  have f1565 := (pc2.keep K1532 nin0)
  refine own_getF C S1562 (host := "") (Or.inl (own_wd hw 13 rfl)) Via.refl f1565 (by decide +kernel) ?_
  intro T1566 S1567
  refine own_seg C S1567 [(29, .aload_n 0, 1)] (by decide +kernel) 30 #[.val .null, .val .null, .val (.ref a1530), .val (.int 5), .val (.int 2), .val (.ref kdc)] [.null, (.ref lsc)] rfl ?_
  have f1568 := (pc3.keep K1532)
  refine own_callV C S1567 (own_wd hw 105 rfl) (own_wd hw 106 rfl) (own_wd hw 108 rfl) (own_wd hw 108 rfl) rfl (own_wd hw 107 rfl) (by decide) (own_Met.pay (own_eqN l Z a0 hw lsc h1535 n0 f1544 f1568) C 0 (own_wd hw 109 rfl) (own_wd hw 23 rfl) (by decide) (by decide)) (fun _ _ _ q => q.2) f1568 [.null] [] rfl own_pd5 rfl rfl rfl (Nat.le_of_ble_eq_true rfl) (by decide) (by decide) (by decide +kernel) ?_
  rintro T1570 h1571 v1572 L1573 S1574 ⟨⟨rfl, e1569⟩, -⟩
  rw [e1569] at S1574; clear e1569
  show own_Go p e below _ T1570 (mkF m 33 #[.val .null, .val .null, .val (.ref a1530), .val (.int 5), .val (.int 2), .val (.ref kdc)] [(.int 0)])
  refine own_if C S1574 (q := .eq) (o := 6) (by decide +kernel) 39 (by decide) (by decide) (fun (q1575 : (0 : Int32) = (0 : Int32)) => ?_) (fun (hq : ¬ (0 : Int32) = (0 : Int32)) => False.elim (by revert hq; decide))
  refine own_seg C S1574 [(39, .iinc 4 1, 3), (42, .goto (-30), 3), (12, .iload 4, 2), (14, .iload_n 3, 1)] (by decide +kernel) 15 #[.val .null, .val .null, .val (.ref a1530), .val (.int 5), .val (.int ((2 : Int32) + (1 : Int32))), .val (.ref kdc)] [(.int 5), (.int ((2 : Int32) + (1 : Int32)))] rfl ?_
  show own_Go p e below _ T1570 (mkF m 15 #[.val .null, .val .null, .val (.ref a1530), .val (.int 5), .val (.int 3), .val (.ref kdc)] [(.int 5), (.int 3)])
  refine own_icmp C S1574 (q := .ge) (o := 30) (by decide +kernel) 45 (by decide) (by decide) (fun (hq : ¬ (3 : Int32) < (5 : Int32)) => False.elim (by revert hq; decide)) (fun (q1576 : (3 : Int32) < (5 : Int32)) => ?_)
  refine own_seg C S1574 [(18, .aload_n 2, 1), (19, .iload 4, 2)] (by decide +kernel) 21 #[.val .null, .val .null, .val (.ref a1530), .val (.int 5), .val (.int 3), .val (.ref kdc)] [(.int 3), (.ref a1530)] rfl ?_
  refine own_aaload C S1574 f1533 rfl ⟨(by decide), (by decide)⟩ (.ref kdd) rfl (by decide +kernel) ?_
  refine own_seg C S1574 [(22, .astore 5, 2), (24, .aload 5, 2)] (by decide +kernel) 26 #[.val .null, .val .null, .val (.ref a1530), .val (.int 5), .val (.int 3), .val (.ref kdd)] [(.ref kdd)] rfl ?_
  have f1577 := (pd2.keep K1532 nin0)
  refine own_getF C S1574 (host := "") (Or.inl (own_wd hw 13 rfl)) Via.refl f1577 (by decide +kernel) ?_
  intro T1578 S1579
  refine own_seg C S1579 [(29, .aload_n 0, 1)] (by decide +kernel) 30 #[.val .null, .val .null, .val (.ref a1530), .val (.int 5), .val (.int 3), .val (.ref kdd)] [.null, (.ref lsd)] rfl ?_
  have f1580 := (pd3.keep K1532)
  refine own_callV C S1579 (own_wd hw 105 rfl) (own_wd hw 106 rfl) (own_wd hw 108 rfl) (own_wd hw 108 rfl) rfl (own_wd hw 107 rfl) (by decide) (own_Met.pay (own_eqN l Z a0 hw lsd h1535 n0 f1544 f1580) C 0 (own_wd hw 109 rfl) (own_wd hw 23 rfl) (by decide) (by decide)) (fun _ _ _ q => q.2) f1580 [.null] [] rfl own_pd5 rfl rfl rfl (Nat.le_of_ble_eq_true rfl) (by decide) (by decide) (by decide +kernel) ?_
  rintro T1582 h1583 v1584 L1585 S1586 ⟨⟨rfl, e1581⟩, -⟩
  rw [e1581] at S1586; clear e1581
  show own_Go p e below _ T1582 (mkF m 33 #[.val .null, .val .null, .val (.ref a1530), .val (.int 5), .val (.int 3), .val (.ref kdd)] [(.int 0)])
  refine own_if C S1586 (q := .eq) (o := 6) (by decide +kernel) 39 (by decide) (by decide) (fun (q1587 : (0 : Int32) = (0 : Int32)) => ?_) (fun (hq : ¬ (0 : Int32) = (0 : Int32)) => False.elim (by revert hq; decide))
  refine own_seg C S1586 [(39, .iinc 4 1, 3), (42, .goto (-30), 3), (12, .iload 4, 2), (14, .iload_n 3, 1)] (by decide +kernel) 15 #[.val .null, .val .null, .val (.ref a1530), .val (.int 5), .val (.int ((3 : Int32) + (1 : Int32))), .val (.ref kdd)] [(.int 5), (.int ((3 : Int32) + (1 : Int32)))] rfl ?_
  show own_Go p e below _ T1582 (mkF m 15 #[.val .null, .val .null, .val (.ref a1530), .val (.int 5), .val (.int 4), .val (.ref kdd)] [(.int 5), (.int 4)])
  refine own_icmp C S1586 (q := .ge) (o := 30) (by decide +kernel) 45 (by decide) (by decide) (fun (hq : ¬ (4 : Int32) < (5 : Int32)) => False.elim (by revert hq; decide)) (fun (q1588 : (4 : Int32) < (5 : Int32)) => ?_)
  refine own_seg C S1586 [(18, .aload_n 2, 1), (19, .iload 4, 2)] (by decide +kernel) 21 #[.val .null, .val .null, .val (.ref a1530), .val (.int 5), .val (.int 4), .val (.ref kdd)] [(.int 4), (.ref a1530)] rfl ?_
  refine own_aaload C S1586 f1533 rfl ⟨(by decide), (by decide)⟩ (.ref kde) rfl (by decide +kernel) ?_
  refine own_seg C S1586 [(22, .astore 5, 2), (24, .aload 5, 2)] (by decide +kernel) 26 #[.val .null, .val .null, .val (.ref a1530), .val (.int 5), .val (.int 4), .val (.ref kde)] [(.ref kde)] rfl ?_
  have f1589 := (pe2.keep K1532 nin0)
  refine own_getF C S1586 (host := "") (Or.inl (own_wd hw 13 rfl)) Via.refl f1589 (by decide +kernel) ?_
  intro T1590 S1591
  refine own_seg C S1591 [(29, .aload_n 0, 1)] (by decide +kernel) 30 #[.val .null, .val .null, .val (.ref a1530), .val (.int 5), .val (.int 4), .val (.ref kde)] [.null, (.ref lse)] rfl ?_
  have f1592 := (pe3.keep K1532)
  refine own_callV C S1591 (own_wd hw 105 rfl) (own_wd hw 106 rfl) (own_wd hw 108 rfl) (own_wd hw 108 rfl) rfl (own_wd hw 107 rfl) (by decide) (own_Met.pay (own_eqN l Z a0 hw lse h1535 n0 f1544 f1592) C 0 (own_wd hw 109 rfl) (own_wd hw 23 rfl) (by decide) (by decide)) (fun _ _ _ q => q.2) f1592 [.null] [] rfl own_pd5 rfl rfl rfl (Nat.le_of_ble_eq_true rfl) (by decide) (by decide) (by decide +kernel) ?_
  rintro T1594 h1595 v1596 L1597 S1598 ⟨⟨rfl, e1593⟩, -⟩
  rw [e1593] at S1598; clear e1593
  show own_Go p e below _ T1594 (mkF m 33 #[.val .null, .val .null, .val (.ref a1530), .val (.int 5), .val (.int 4), .val (.ref kde)] [(.int 0)])
  refine own_if C S1598 (q := .eq) (o := 6) (by decide +kernel) 39 (by decide) (by decide) (fun (q1599 : (0 : Int32) = (0 : Int32)) => ?_) (fun (hq : ¬ (0 : Int32) = (0 : Int32)) => False.elim (by revert hq; decide))
  refine own_seg C S1598 [(39, .iinc 4 1, 3), (42, .goto (-30), 3), (12, .iload 4, 2), (14, .iload_n 3, 1)] (by decide +kernel) 15 #[.val .null, .val .null, .val (.ref a1530), .val (.int 5), .val (.int ((4 : Int32) + (1 : Int32))), .val (.ref kde)] [(.int 5), (.int ((4 : Int32) + (1 : Int32)))] rfl ?_
  show own_Go p e below _ T1594 (mkF m 15 #[.val .null, .val .null, .val (.ref a1530), .val (.int 5), .val (.int 5), .val (.ref kde)] [(.int 5), (.int 5)])
  refine own_icmp C S1598 (q := .ge) (o := 30) (by decide +kernel) 45 (by decide) (by decide) (fun (q1600 : ¬ (5 : Int32) < (5 : Int32)) => ?_) (fun (hq : (5 : Int32) < (5 : Int32)) => False.elim (by revert hq; decide))
  refine own_seg C S1598 [(45, .aload_n 1, 1)] (by decide +kernel) 46 #[.val .null, .val .null, .val (.ref a1530), .val (.int 5), .val (.int 5), .val (.ref kde)] [.null] rfl ?_
  refine own_retA C S1598 rfl rfl (by decide +kernel) (by decide) (by decide) ?_
  exact ⟨rfl, ((Keep.refl _ _).trans K1532 all0)⟩
abbrev own_lv0 : List Value := [(.int 116), (.int 101), (.int 120), (.int 116)]
theorem own_ex0 (l : Launch) (Z : State) (a0 : Array Value) (hw : ∀ d ∈ tables_1, d.before a0 Z = true) (hEL : EW Z a0 own_EL) (wS : ∀ a ∈ Bundle.stringAtoms, a.before a0 Z = true) (G1 : Int32) (G3 : Value) (kda : Addr) (kdb : Addr) (kdc : Addr) (kdd : Addr) (kde : Addr) (x : Addr) (xt : Addr) (xk : ClassId) (xcs : List Int32) (h0 : Heap) (n0 : Nat) (z0 : n0 ≤ h0.size) (X00 : Old Z n0 h0) (xE : Exa Z h0 x "java/lang/String") (xV : Fld Z h0 x "java/lang/String" "value" "[B" (.ref xt)) (xC : Fld Z h0 x "java/lang/String" "coder" "B" (.int 0)) (xK : Arv Z h0 xt xk .byte (Int32.ofNat (xcs).length) (own_sv xcs) (.int 0)) (O2 : Sta Z Z.heap "java/lang/String" "COMPACT_STRINGS" "Z" (.int G1)) (O4 : Sta Z Z.heap "jdk/internal/util/Preconditions" "SIOOBE_FORMATTER" "Ljava/util/function/BiFunction;" G3) (P5 : ¬ G1 = (0 : Int32)) (rG3 : G3.isRef = true) (xhp : ∀ c ∈ xcs, ¬ c < 0 ∧ ¬ (255 : Int32) < c) (xhl : xcs.length ≤ 8) (Oa : Sta Z Z.heap "com/example/persephone/persephone/lucene/FieldKind" "TEXT" "Lcom/example/persephone/persephone/lucene/FieldKind;" (.ref kda)) (Ob : Sta Z Z.heap "com/example/persephone/persephone/lucene/FieldKind" "KEYWORD" "Lcom/example/persephone/persephone/lucene/FieldKind;" (.ref kdb)) (Oc : Sta Z Z.heap "com/example/persephone/persephone/lucene/FieldKind" "NUMBER" "Lcom/example/persephone/persephone/lucene/FieldKind;" (.ref kdc)) (Od : Sta Z Z.heap "com/example/persephone/persephone/lucene/FieldKind" "DATE" "Lcom/example/persephone/persephone/lucene/FieldKind;" (.ref kdd)) (Oe : Sta Z Z.heap "com/example/persephone/persephone/lucene/FieldKind" "POINT" "Lcom/example/persephone/persephone/lucene/FieldKind;" (.ref kde)) (hv : xcs = own_L0) :
    own_MetW l Z own_EL (⟨"com/example/persephone/persephone/lucene/FieldKindLabelledPinLaw", "expected", "(Ljava/lang/String;)Lcom/example/persephone/persephone/lucene/FieldKind;"⟩ : MethodName) method_6_code 1 (some (.object "com/example/persephone/persephone/lucene/FieldKind")) ({ frames := 2, cells := 2, slots := 20, locals := 28 } : Room) n0 #[(.ref x)] h0 [] (fun v h => v = some (.ref kda) ∧ Keep h0 h []) := by
  refine own_metW hEL wS (by decide +kernel) #[.val (.ref x)] (fun m => by first | (simp [entryFrame, mkF, argsToLocals, Value.category]; done) | rfl) ?_
  intro p e s m below meth c T0 CW SW0
  refine own_lift CW SW0 ?_
  intro vm1601 C S1602 rb1603
  refine own_seg C S1602 [(0, .aload_n 0, 1), (1, .ifnonnull 5, 3), (6, .aload_n 0, 1)] (by decide +kernel) 7 #[.val (.ref x)] [(.ref x)] rfl ?_
  have SW1604 := rb1603 _ _ _ _ [] [] S1602 (Keep.refl _ _) all0 all0
  refine own_ldcW CW SW1604 (own_wd hw 117 rfl) (List.mem_of_getElem? (i := 0) rfl) (z := (4 : Int32)) (vs := own_lv0) ⟨by decide, by decide⟩ (by decide) rfl (by decide +kernel) 16 (by decide) (by decide) (by decide) (by decide) ?_
  intro T1605 h1606 a1607 b1608 k1609 SW1610 E1611 x1612 f1613 f1614 f1615 ne1616 
  have hp1617 : ∀ c ∈ ([116, 101, 120, 116] : List Int32), ¬ c < 0 ∧ ¬ (255 : Int32) < c := by decide
  have hcd1618 : StrChars.Road.CodA ([116, 101, 120, 116] : List Int32) 0 (4 : Int32) own_lv0 := StrChars.Road.codOf (cs := ([116, 101, 120, 116] : List Int32)) (n := 4) rfl (fun c hc => (hp1617 c hc).2)
  refine own_lift CW SW1610 ?_
  intro vm1619 C S1620 rb1621
  have f1622 := (Exa.ext E1611 xE)
  have f1623 := (Fld.ext E1611 xV)
  have f1624 := (Fld.ext E1611 xC)
  have f1625 := (xK.ext E1611)
  have f1626 := (X00.ext E1611)
  refine own_callV C S1620 (own_wd hw 120 rfl) (own_wd hw 106 rfl) (own_wd hw 108 rfl) (own_wd hw 108 rfl) rfl (own_wd hw 107 rfl) (by decide) (Q := (fun v h' L => ((v = some (.int 1) ∧ xcs = ([116, 101, 120, 116] : List Int32)) ∨ (v = some (.int 0) ∧ ¬ xcs = ([116, 101, 120, 116] : List Int32))) ∧ L = [] ∧ h' = h1606)) (StrChars.Road.eqW (W := 0) C.2.2.2.2.2.2.2 (fun d hd => hw d (own_heq d hd)) (kI := 4) (own_wd hw 61 rfl) f1622 f1623 f1624 f1625 (own_codG xhp) (own_up _ xhp) (Nat.le_trans xhl (by decide)) x1612 f1614 f1613 f1615 hcd1618 (own_up _ hp1617) (Nat.le_of_ble_eq_true rfl) (O2.ext f1626.2) P5 (by decide) (by decide)) (fun _ _ L q => by rw [q.2.1]; exact Fr.nil _) f1622 [(.ref a1607)] [] rfl own_pd5 rfl rfl rfl (Nat.le_of_ble_eq_true rfl) (by decide) (by decide) (by decide +kernel) ?_
  rintro T1631 h1632 v1633 L1634 S1635 ⟨d1630, -, e1627⟩
  rw [e1627] at S1635; clear e1627
  obtain rfl : v1633 = some (.int 1) := d1630.elim (fun q => q.1) (fun q => absurd hv q.2)
  show own_Go p e below _ T1631 (mkF m 12 #[.val (.ref x)] [(.int 1)])
  refine own_if C S1635 (q := .eq) (o := 7) (by decide +kernel) 19 (by decide) (by decide) (fun (hq : (1 : Int32) = (0 : Int32)) => False.elim (by revert hq; decide)) (fun (q1636 : ¬ (1 : Int32) = (0 : Int32)) => ?_)
  refine own_getS C S1635 (own_wd hw 5 rfl) Via.refl (Oa.ext f1626.2) (by decide +kernel) ?_
  intro T1637 S1638
  have SW1639 := rb1621 _ _ _ _ [] [] S1638 (Keep.refl _ _) all0 all0
  refine own_retAW CW SW1639 rfl rfl (by decide +kernel) (by decide) (by decide) ?_
  exact ⟨rfl, ((Keep.refl _ _).ext E1611)⟩
abbrev own_lv1 : List Value := [(.int 107), (.int 101), (.int 121), (.int 119), (.int 111), (.int 114), (.int 100)]
theorem own_ex1 (l : Launch) (Z : State) (a0 : Array Value) (hw : ∀ d ∈ tables_1, d.before a0 Z = true) (hEL : EW Z a0 own_EL) (wS : ∀ a ∈ Bundle.stringAtoms, a.before a0 Z = true) (G1 : Int32) (G3 : Value) (kda : Addr) (kdb : Addr) (kdc : Addr) (kdd : Addr) (kde : Addr) (x : Addr) (xt : Addr) (xk : ClassId) (xcs : List Int32) (h0 : Heap) (n0 : Nat) (z0 : n0 ≤ h0.size) (X00 : Old Z n0 h0) (xE : Exa Z h0 x "java/lang/String") (xV : Fld Z h0 x "java/lang/String" "value" "[B" (.ref xt)) (xC : Fld Z h0 x "java/lang/String" "coder" "B" (.int 0)) (xK : Arv Z h0 xt xk .byte (Int32.ofNat (xcs).length) (own_sv xcs) (.int 0)) (O2 : Sta Z Z.heap "java/lang/String" "COMPACT_STRINGS" "Z" (.int G1)) (O4 : Sta Z Z.heap "jdk/internal/util/Preconditions" "SIOOBE_FORMATTER" "Ljava/util/function/BiFunction;" G3) (P5 : ¬ G1 = (0 : Int32)) (rG3 : G3.isRef = true) (xhp : ∀ c ∈ xcs, ¬ c < 0 ∧ ¬ (255 : Int32) < c) (xhl : xcs.length ≤ 8) (Oa : Sta Z Z.heap "com/example/persephone/persephone/lucene/FieldKind" "TEXT" "Lcom/example/persephone/persephone/lucene/FieldKind;" (.ref kda)) (Ob : Sta Z Z.heap "com/example/persephone/persephone/lucene/FieldKind" "KEYWORD" "Lcom/example/persephone/persephone/lucene/FieldKind;" (.ref kdb)) (Oc : Sta Z Z.heap "com/example/persephone/persephone/lucene/FieldKind" "NUMBER" "Lcom/example/persephone/persephone/lucene/FieldKind;" (.ref kdc)) (Od : Sta Z Z.heap "com/example/persephone/persephone/lucene/FieldKind" "DATE" "Lcom/example/persephone/persephone/lucene/FieldKind;" (.ref kdd)) (Oe : Sta Z Z.heap "com/example/persephone/persephone/lucene/FieldKind" "POINT" "Lcom/example/persephone/persephone/lucene/FieldKind;" (.ref kde)) (hv : xcs = own_L1) :
    own_MetW l Z own_EL (⟨"com/example/persephone/persephone/lucene/FieldKindLabelledPinLaw", "expected", "(Ljava/lang/String;)Lcom/example/persephone/persephone/lucene/FieldKind;"⟩ : MethodName) method_6_code 1 (some (.object "com/example/persephone/persephone/lucene/FieldKind")) ({ frames := 2, cells := 4, slots := 52, locals := 28 } : Room) n0 #[(.ref x)] h0 [] (fun v h => v = some (.ref kdb) ∧ Keep h0 h []) := by
  refine own_metW hEL wS (by decide +kernel) #[.val (.ref x)] (fun m => by first | (simp [entryFrame, mkF, argsToLocals, Value.category]; done) | rfl) ?_
  intro p e s m below meth c T0 CW SW0
  refine own_lift CW SW0 ?_
  intro vm1640 C S1641 rb1642
  refine own_seg C S1641 [(0, .aload_n 0, 1), (1, .ifnonnull 5, 3), (6, .aload_n 0, 1)] (by decide +kernel) 7 #[.val (.ref x)] [(.ref x)] rfl ?_
  have SW1643 := rb1642 _ _ _ _ [] [] S1641 (Keep.refl _ _) all0 all0
  refine own_ldcW CW SW1643 (own_wd hw 117 rfl) (List.mem_of_getElem? (i := 0) rfl) (z := (4 : Int32)) (vs := own_lv0) ⟨by decide, by decide⟩ (by decide) rfl (by decide +kernel) 16 (by decide) (by decide) (by decide) (by decide) ?_
  intro T1644 h1645 a1646 b1647 k1648 SW1649 E1650 x1651 f1652 f1653 f1654 ne1655 
  have hp1656 : ∀ c ∈ ([116, 101, 120, 116] : List Int32), ¬ c < 0 ∧ ¬ (255 : Int32) < c := by decide
  have hcd1657 : StrChars.Road.CodA ([116, 101, 120, 116] : List Int32) 0 (4 : Int32) own_lv0 := StrChars.Road.codOf (cs := ([116, 101, 120, 116] : List Int32)) (n := 4) rfl (fun c hc => (hp1656 c hc).2)
  refine own_lift CW SW1649 ?_
  intro vm1658 C S1659 rb1660
  have f1661 := (Exa.ext E1650 xE)
  have f1662 := (Fld.ext E1650 xV)
  have f1663 := (Fld.ext E1650 xC)
  have f1664 := (xK.ext E1650)
  have f1665 := (X00.ext E1650)
  refine own_callV C S1659 (own_wd hw 120 rfl) (own_wd hw 106 rfl) (own_wd hw 108 rfl) (own_wd hw 108 rfl) rfl (own_wd hw 107 rfl) (by decide) (Q := (fun v h' L => ((v = some (.int 1) ∧ xcs = ([116, 101, 120, 116] : List Int32)) ∨ (v = some (.int 0) ∧ ¬ xcs = ([116, 101, 120, 116] : List Int32))) ∧ L = [] ∧ h' = h1645)) (StrChars.Road.eqW (W := 0) C.2.2.2.2.2.2.2 (fun d hd => hw d (own_heq d hd)) (kI := 4) (own_wd hw 61 rfl) f1661 f1662 f1663 f1664 (own_codG xhp) (own_up _ xhp) (Nat.le_trans xhl (by decide)) x1651 f1653 f1652 f1654 hcd1657 (own_up _ hp1656) (Nat.le_of_ble_eq_true rfl) (O2.ext f1665.2) P5 (by decide) (by decide)) (fun _ _ L q => by rw [q.2.1]; exact Fr.nil _) f1661 [(.ref a1646)] [] rfl own_pd5 rfl rfl rfl (Nat.le_of_ble_eq_true rfl) (by decide) (by decide) (by decide +kernel) ?_
  rintro T1670 h1671 v1672 L1673 S1674 ⟨d1669, -, e1666⟩
  rw [e1666] at S1674; clear e1666
  obtain rfl : v1672 = some (.int 0) := d1669.elim (fun q => absurd q.2 (by rw [hv]; decide)) (fun q => q.1)
  show own_Go p e below _ T1670 (mkF m 12 #[.val (.ref x)] [(.int 0)])
  refine own_if C S1674 (q := .eq) (o := 7) (by decide +kernel) 19 (by decide) (by decide) (fun (q1675 : (0 : Int32) = (0 : Int32)) => ?_) (fun (hq : ¬ (0 : Int32) = (0 : Int32)) => False.elim (by revert hq; decide))
  refine own_seg C S1674 [(19, .aload_n 0, 1)] (by decide +kernel) 20 #[.val (.ref x)] [(.ref x)] rfl ?_
  have SW1676 := rb1660 _ _ _ _ [] [] S1674 (Keep.refl _ _) all0 all0
  refine own_ldcW CW SW1676 (own_wd hw 121 rfl) (List.mem_of_getElem? (i := 1) rfl) (z := (7 : Int32)) (vs := own_lv1) ⟨by decide, by decide⟩ (by decide) rfl (by decide +kernel) 28 (by decide) (by decide) (by decide) (by decide) ?_
  intro T1677 h1678 a1679 b1680 k1681 SW1682 E1683 x1684 f1685 f1686 f1687 ne1688 
  have hp1689 : ∀ c ∈ ([107, 101, 121, 119, 111, 114, 100] : List Int32), ¬ c < 0 ∧ ¬ (255 : Int32) < c := by decide
  have hcd1690 : StrChars.Road.CodA ([107, 101, 121, 119, 111, 114, 100] : List Int32) 0 (7 : Int32) own_lv1 := StrChars.Road.codOf (cs := ([107, 101, 121, 119, 111, 114, 100] : List Int32)) (n := 7) rfl (fun c hc => (hp1689 c hc).2)
  refine own_lift CW SW1682 ?_
  intro vm1691 C S1692 rb1693
  have f1694 := (Exa.ext E1683 f1661)
  have f1695 := (Fld.ext E1683 f1662)
  have f1696 := (Fld.ext E1683 f1663)
  have f1697 := (f1664.ext E1683)
  have f1698 := (f1665.ext E1683)
  refine own_callV C S1692 (own_wd hw 120 rfl) (own_wd hw 106 rfl) (own_wd hw 108 rfl) (own_wd hw 108 rfl) rfl (own_wd hw 107 rfl) (by decide) (Q := (fun v h' L => ((v = some (.int 1) ∧ xcs = ([107, 101, 121, 119, 111, 114, 100] : List Int32)) ∨ (v = some (.int 0) ∧ ¬ xcs = ([107, 101, 121, 119, 111, 114, 100] : List Int32))) ∧ L = [] ∧ h' = h1678)) (StrChars.Road.eqW (W := 0) C.2.2.2.2.2.2.2 (fun d hd => hw d (own_heq d hd)) (kI := 4) (own_wd hw 61 rfl) f1694 f1695 f1696 f1697 (own_codG xhp) (own_up _ xhp) (Nat.le_trans xhl (by decide)) x1684 f1686 f1685 f1687 hcd1690 (own_up _ hp1689) (Nat.le_of_ble_eq_true rfl) (O2.ext f1698.2) P5 (by decide) (by decide)) (fun _ _ L q => by rw [q.2.1]; exact Fr.nil _) f1694 [(.ref a1679)] [] rfl own_pd5 rfl rfl rfl (Nat.le_of_ble_eq_true rfl) (by decide) (by decide) (by decide +kernel) ?_
  rintro T1703 h1704 v1705 L1706 S1707 ⟨d1702, -, e1699⟩
  rw [e1699] at S1707; clear e1699
  obtain rfl : v1705 = some (.int 1) := d1702.elim (fun q => q.1) (fun q => absurd hv q.2)
  show own_Go p e below _ T1703 (mkF m 25 #[.val (.ref x)] [(.int 1)])
  refine own_if C S1707 (q := .eq) (o := 7) (by decide +kernel) 32 (by decide) (by decide) (fun (hq : (1 : Int32) = (0 : Int32)) => False.elim (by revert hq; decide)) (fun (q1708 : ¬ (1 : Int32) = (0 : Int32)) => ?_)
  refine own_getS C S1707 (own_wd hw 129 rfl) Via.refl (Ob.ext f1698.2) (by decide +kernel) ?_
  intro T1709 S1710
  have SW1711 := rb1693 _ _ _ _ [] [] S1710 (Keep.refl _ _) all0 all0
  refine own_retAW CW SW1711 rfl rfl (by decide +kernel) (by decide) (by decide) ?_
  exact ⟨rfl, (((Keep.refl _ _).ext E1650).ext E1683)⟩
abbrev own_lv2 : List Value := [(.int 110), (.int 117), (.int 109), (.int 98), (.int 101), (.int 114)]
theorem own_ex2 (l : Launch) (Z : State) (a0 : Array Value) (hw : ∀ d ∈ tables_1, d.before a0 Z = true) (hEL : EW Z a0 own_EL) (wS : ∀ a ∈ Bundle.stringAtoms, a.before a0 Z = true) (G1 : Int32) (G3 : Value) (kda : Addr) (kdb : Addr) (kdc : Addr) (kdd : Addr) (kde : Addr) (x : Addr) (xt : Addr) (xk : ClassId) (xcs : List Int32) (h0 : Heap) (n0 : Nat) (z0 : n0 ≤ h0.size) (X00 : Old Z n0 h0) (xE : Exa Z h0 x "java/lang/String") (xV : Fld Z h0 x "java/lang/String" "value" "[B" (.ref xt)) (xC : Fld Z h0 x "java/lang/String" "coder" "B" (.int 0)) (xK : Arv Z h0 xt xk .byte (Int32.ofNat (xcs).length) (own_sv xcs) (.int 0)) (O2 : Sta Z Z.heap "java/lang/String" "COMPACT_STRINGS" "Z" (.int G1)) (O4 : Sta Z Z.heap "jdk/internal/util/Preconditions" "SIOOBE_FORMATTER" "Ljava/util/function/BiFunction;" G3) (P5 : ¬ G1 = (0 : Int32)) (rG3 : G3.isRef = true) (xhp : ∀ c ∈ xcs, ¬ c < 0 ∧ ¬ (255 : Int32) < c) (xhl : xcs.length ≤ 8) (Oa : Sta Z Z.heap "com/example/persephone/persephone/lucene/FieldKind" "TEXT" "Lcom/example/persephone/persephone/lucene/FieldKind;" (.ref kda)) (Ob : Sta Z Z.heap "com/example/persephone/persephone/lucene/FieldKind" "KEYWORD" "Lcom/example/persephone/persephone/lucene/FieldKind;" (.ref kdb)) (Oc : Sta Z Z.heap "com/example/persephone/persephone/lucene/FieldKind" "NUMBER" "Lcom/example/persephone/persephone/lucene/FieldKind;" (.ref kdc)) (Od : Sta Z Z.heap "com/example/persephone/persephone/lucene/FieldKind" "DATE" "Lcom/example/persephone/persephone/lucene/FieldKind;" (.ref kdd)) (Oe : Sta Z Z.heap "com/example/persephone/persephone/lucene/FieldKind" "POINT" "Lcom/example/persephone/persephone/lucene/FieldKind;" (.ref kde)) (hv : xcs = own_L2) :
    own_MetW l Z own_EL (⟨"com/example/persephone/persephone/lucene/FieldKindLabelledPinLaw", "expected", "(Ljava/lang/String;)Lcom/example/persephone/persephone/lucene/FieldKind;"⟩ : MethodName) method_6_code 1 (some (.object "com/example/persephone/persephone/lucene/FieldKind")) ({ frames := 2, cells := 6, slots := 80, locals := 28 } : Room) n0 #[(.ref x)] h0 [] (fun v h => v = some (.ref kdc) ∧ Keep h0 h []) := by
  refine own_metW hEL wS (by decide +kernel) #[.val (.ref x)] (fun m => by first | (simp [entryFrame, mkF, argsToLocals, Value.category]; done) | rfl) ?_
  intro p e s m below meth c T0 CW SW0
  refine own_lift CW SW0 ?_
  intro vm1712 C S1713 rb1714
  refine own_seg C S1713 [(0, .aload_n 0, 1), (1, .ifnonnull 5, 3), (6, .aload_n 0, 1)] (by decide +kernel) 7 #[.val (.ref x)] [(.ref x)] rfl ?_
  have SW1715 := rb1714 _ _ _ _ [] [] S1713 (Keep.refl _ _) all0 all0
  refine own_ldcW CW SW1715 (own_wd hw 117 rfl) (List.mem_of_getElem? (i := 0) rfl) (z := (4 : Int32)) (vs := own_lv0) ⟨by decide, by decide⟩ (by decide) rfl (by decide +kernel) 16 (by decide) (by decide) (by decide) (by decide) ?_
  intro T1716 h1717 a1718 b1719 k1720 SW1721 E1722 x1723 f1724 f1725 f1726 ne1727 
  have hp1728 : ∀ c ∈ ([116, 101, 120, 116] : List Int32), ¬ c < 0 ∧ ¬ (255 : Int32) < c := by decide
  have hcd1729 : StrChars.Road.CodA ([116, 101, 120, 116] : List Int32) 0 (4 : Int32) own_lv0 := StrChars.Road.codOf (cs := ([116, 101, 120, 116] : List Int32)) (n := 4) rfl (fun c hc => (hp1728 c hc).2)
  refine own_lift CW SW1721 ?_
  intro vm1730 C S1731 rb1732
  have f1733 := (Exa.ext E1722 xE)
  have f1734 := (Fld.ext E1722 xV)
  have f1735 := (Fld.ext E1722 xC)
  have f1736 := (xK.ext E1722)
  have f1737 := (X00.ext E1722)
  refine own_callV C S1731 (own_wd hw 120 rfl) (own_wd hw 106 rfl) (own_wd hw 108 rfl) (own_wd hw 108 rfl) rfl (own_wd hw 107 rfl) (by decide) (Q := (fun v h' L => ((v = some (.int 1) ∧ xcs = ([116, 101, 120, 116] : List Int32)) ∨ (v = some (.int 0) ∧ ¬ xcs = ([116, 101, 120, 116] : List Int32))) ∧ L = [] ∧ h' = h1717)) (StrChars.Road.eqW (W := 0) C.2.2.2.2.2.2.2 (fun d hd => hw d (own_heq d hd)) (kI := 4) (own_wd hw 61 rfl) f1733 f1734 f1735 f1736 (own_codG xhp) (own_up _ xhp) (Nat.le_trans xhl (by decide)) x1723 f1725 f1724 f1726 hcd1729 (own_up _ hp1728) (Nat.le_of_ble_eq_true rfl) (O2.ext f1737.2) P5 (by decide) (by decide)) (fun _ _ L q => by rw [q.2.1]; exact Fr.nil _) f1733 [(.ref a1718)] [] rfl own_pd5 rfl rfl rfl (Nat.le_of_ble_eq_true rfl) (by decide) (by decide) (by decide +kernel) ?_
  rintro T1742 h1743 v1744 L1745 S1746 ⟨d1741, -, e1738⟩
  rw [e1738] at S1746; clear e1738
  obtain rfl : v1744 = some (.int 0) := d1741.elim (fun q => absurd q.2 (by rw [hv]; decide)) (fun q => q.1)
  show own_Go p e below _ T1742 (mkF m 12 #[.val (.ref x)] [(.int 0)])
  refine own_if C S1746 (q := .eq) (o := 7) (by decide +kernel) 19 (by decide) (by decide) (fun (q1747 : (0 : Int32) = (0 : Int32)) => ?_) (fun (hq : ¬ (0 : Int32) = (0 : Int32)) => False.elim (by revert hq; decide))
  refine own_seg C S1746 [(19, .aload_n 0, 1)] (by decide +kernel) 20 #[.val (.ref x)] [(.ref x)] rfl ?_
  have SW1748 := rb1732 _ _ _ _ [] [] S1746 (Keep.refl _ _) all0 all0
  refine own_ldcW CW SW1748 (own_wd hw 121 rfl) (List.mem_of_getElem? (i := 1) rfl) (z := (7 : Int32)) (vs := own_lv1) ⟨by decide, by decide⟩ (by decide) rfl (by decide +kernel) 28 (by decide) (by decide) (by decide) (by decide) ?_
  intro T1749 h1750 a1751 b1752 k1753 SW1754 E1755 x1756 f1757 f1758 f1759 ne1760 
  have hp1761 : ∀ c ∈ ([107, 101, 121, 119, 111, 114, 100] : List Int32), ¬ c < 0 ∧ ¬ (255 : Int32) < c := by decide
  have hcd1762 : StrChars.Road.CodA ([107, 101, 121, 119, 111, 114, 100] : List Int32) 0 (7 : Int32) own_lv1 := StrChars.Road.codOf (cs := ([107, 101, 121, 119, 111, 114, 100] : List Int32)) (n := 7) rfl (fun c hc => (hp1761 c hc).2)
  refine own_lift CW SW1754 ?_
  intro vm1763 C S1764 rb1765
  have f1766 := (Exa.ext E1755 f1733)
  have f1767 := (Fld.ext E1755 f1734)
  have f1768 := (Fld.ext E1755 f1735)
  have f1769 := (f1736.ext E1755)
  have f1770 := (f1737.ext E1755)
  refine own_callV C S1764 (own_wd hw 120 rfl) (own_wd hw 106 rfl) (own_wd hw 108 rfl) (own_wd hw 108 rfl) rfl (own_wd hw 107 rfl) (by decide) (Q := (fun v h' L => ((v = some (.int 1) ∧ xcs = ([107, 101, 121, 119, 111, 114, 100] : List Int32)) ∨ (v = some (.int 0) ∧ ¬ xcs = ([107, 101, 121, 119, 111, 114, 100] : List Int32))) ∧ L = [] ∧ h' = h1750)) (StrChars.Road.eqW (W := 0) C.2.2.2.2.2.2.2 (fun d hd => hw d (own_heq d hd)) (kI := 4) (own_wd hw 61 rfl) f1766 f1767 f1768 f1769 (own_codG xhp) (own_up _ xhp) (Nat.le_trans xhl (by decide)) x1756 f1758 f1757 f1759 hcd1762 (own_up _ hp1761) (Nat.le_of_ble_eq_true rfl) (O2.ext f1770.2) P5 (by decide) (by decide)) (fun _ _ L q => by rw [q.2.1]; exact Fr.nil _) f1766 [(.ref a1751)] [] rfl own_pd5 rfl rfl rfl (Nat.le_of_ble_eq_true rfl) (by decide) (by decide) (by decide +kernel) ?_
  rintro T1775 h1776 v1777 L1778 S1779 ⟨d1774, -, e1771⟩
  rw [e1771] at S1779; clear e1771
  obtain rfl : v1777 = some (.int 0) := d1774.elim (fun q => absurd q.2 (by rw [hv]; decide)) (fun q => q.1)
  show own_Go p e below _ T1775 (mkF m 25 #[.val (.ref x)] [(.int 0)])
  refine own_if C S1779 (q := .eq) (o := 7) (by decide +kernel) 32 (by decide) (by decide) (fun (q1780 : (0 : Int32) = (0 : Int32)) => ?_) (fun (hq : ¬ (0 : Int32) = (0 : Int32)) => False.elim (by revert hq; decide))
  refine own_seg C S1779 [(32, .aload_n 0, 1)] (by decide +kernel) 33 #[.val (.ref x)] [(.ref x)] rfl ?_
  have SW1781 := rb1765 _ _ _ _ [] [] S1779 (Keep.refl _ _) all0 all0
  refine own_ldcW CW SW1781 (own_wd hw 122 rfl) (List.mem_of_getElem? (i := 2) rfl) (z := (6 : Int32)) (vs := own_lv2) ⟨by decide, by decide⟩ (by decide) rfl (by decide +kernel) 24 (by decide) (by decide) (by decide) (by decide) ?_
  intro T1782 h1783 a1784 b1785 k1786 SW1787 E1788 x1789 f1790 f1791 f1792 ne1793 
  have hp1794 : ∀ c ∈ ([110, 117, 109, 98, 101, 114] : List Int32), ¬ c < 0 ∧ ¬ (255 : Int32) < c := by decide
  have hcd1795 : StrChars.Road.CodA ([110, 117, 109, 98, 101, 114] : List Int32) 0 (6 : Int32) own_lv2 := StrChars.Road.codOf (cs := ([110, 117, 109, 98, 101, 114] : List Int32)) (n := 6) rfl (fun c hc => (hp1794 c hc).2)
  refine own_lift CW SW1787 ?_
  intro vm1796 C S1797 rb1798
  have f1799 := (Exa.ext E1788 f1766)
  have f1800 := (Fld.ext E1788 f1767)
  have f1801 := (Fld.ext E1788 f1768)
  have f1802 := (f1769.ext E1788)
  have f1803 := (f1770.ext E1788)
  refine own_callV C S1797 (own_wd hw 120 rfl) (own_wd hw 106 rfl) (own_wd hw 108 rfl) (own_wd hw 108 rfl) rfl (own_wd hw 107 rfl) (by decide) (Q := (fun v h' L => ((v = some (.int 1) ∧ xcs = ([110, 117, 109, 98, 101, 114] : List Int32)) ∨ (v = some (.int 0) ∧ ¬ xcs = ([110, 117, 109, 98, 101, 114] : List Int32))) ∧ L = [] ∧ h' = h1783)) (StrChars.Road.eqW (W := 0) C.2.2.2.2.2.2.2 (fun d hd => hw d (own_heq d hd)) (kI := 4) (own_wd hw 61 rfl) f1799 f1800 f1801 f1802 (own_codG xhp) (own_up _ xhp) (Nat.le_trans xhl (by decide)) x1789 f1791 f1790 f1792 hcd1795 (own_up _ hp1794) (Nat.le_of_ble_eq_true rfl) (O2.ext f1803.2) P5 (by decide) (by decide)) (fun _ _ L q => by rw [q.2.1]; exact Fr.nil _) f1799 [(.ref a1784)] [] rfl own_pd5 rfl rfl rfl (Nat.le_of_ble_eq_true rfl) (by decide) (by decide) (by decide +kernel) ?_
  rintro T1808 h1809 v1810 L1811 S1812 ⟨d1807, -, e1804⟩
  rw [e1804] at S1812; clear e1804
  obtain rfl : v1810 = some (.int 1) := d1807.elim (fun q => q.1) (fun q => absurd hv q.2)
  show own_Go p e below _ T1808 (mkF m 38 #[.val (.ref x)] [(.int 1)])
  refine own_if C S1812 (q := .eq) (o := 7) (by decide +kernel) 45 (by decide) (by decide) (fun (hq : (1 : Int32) = (0 : Int32)) => False.elim (by revert hq; decide)) (fun (q1813 : ¬ (1 : Int32) = (0 : Int32)) => ?_)
  refine own_getS C S1812 (own_wd hw 127 rfl) Via.refl (Oc.ext f1803.2) (by decide +kernel) ?_
  intro T1814 S1815
  have SW1816 := rb1798 _ _ _ _ [] [] S1815 (Keep.refl _ _) all0 all0
  refine own_retAW CW SW1816 rfl rfl (by decide +kernel) (by decide) (by decide) ?_
  exact ⟨rfl, ((((Keep.refl _ _).ext E1722).ext E1755).ext E1788)⟩
abbrev own_lv3 : List Value := [(.int 100), (.int 97), (.int 116), (.int 101)]
theorem own_ex3 (l : Launch) (Z : State) (a0 : Array Value) (hw : ∀ d ∈ tables_1, d.before a0 Z = true) (hEL : EW Z a0 own_EL) (wS : ∀ a ∈ Bundle.stringAtoms, a.before a0 Z = true) (G1 : Int32) (G3 : Value) (kda : Addr) (kdb : Addr) (kdc : Addr) (kdd : Addr) (kde : Addr) (x : Addr) (xt : Addr) (xk : ClassId) (xcs : List Int32) (h0 : Heap) (n0 : Nat) (z0 : n0 ≤ h0.size) (X00 : Old Z n0 h0) (xE : Exa Z h0 x "java/lang/String") (xV : Fld Z h0 x "java/lang/String" "value" "[B" (.ref xt)) (xC : Fld Z h0 x "java/lang/String" "coder" "B" (.int 0)) (xK : Arv Z h0 xt xk .byte (Int32.ofNat (xcs).length) (own_sv xcs) (.int 0)) (O2 : Sta Z Z.heap "java/lang/String" "COMPACT_STRINGS" "Z" (.int G1)) (O4 : Sta Z Z.heap "jdk/internal/util/Preconditions" "SIOOBE_FORMATTER" "Ljava/util/function/BiFunction;" G3) (P5 : ¬ G1 = (0 : Int32)) (rG3 : G3.isRef = true) (xhp : ∀ c ∈ xcs, ¬ c < 0 ∧ ¬ (255 : Int32) < c) (xhl : xcs.length ≤ 8) (Oa : Sta Z Z.heap "com/example/persephone/persephone/lucene/FieldKind" "TEXT" "Lcom/example/persephone/persephone/lucene/FieldKind;" (.ref kda)) (Ob : Sta Z Z.heap "com/example/persephone/persephone/lucene/FieldKind" "KEYWORD" "Lcom/example/persephone/persephone/lucene/FieldKind;" (.ref kdb)) (Oc : Sta Z Z.heap "com/example/persephone/persephone/lucene/FieldKind" "NUMBER" "Lcom/example/persephone/persephone/lucene/FieldKind;" (.ref kdc)) (Od : Sta Z Z.heap "com/example/persephone/persephone/lucene/FieldKind" "DATE" "Lcom/example/persephone/persephone/lucene/FieldKind;" (.ref kdd)) (Oe : Sta Z Z.heap "com/example/persephone/persephone/lucene/FieldKind" "POINT" "Lcom/example/persephone/persephone/lucene/FieldKind;" (.ref kde)) (hv : xcs = own_L3) :
    own_MetW l Z own_EL (⟨"com/example/persephone/persephone/lucene/FieldKindLabelledPinLaw", "expected", "(Ljava/lang/String;)Lcom/example/persephone/persephone/lucene/FieldKind;"⟩ : MethodName) method_6_code 1 (some (.object "com/example/persephone/persephone/lucene/FieldKind")) ({ frames := 2, cells := 8, slots := 100, locals := 28 } : Room) n0 #[(.ref x)] h0 [] (fun v h => v = some (.ref kdd) ∧ Keep h0 h []) := by
  refine own_metW hEL wS (by decide +kernel) #[.val (.ref x)] (fun m => by first | (simp [entryFrame, mkF, argsToLocals, Value.category]; done) | rfl) ?_
  intro p e s m below meth c T0 CW SW0
  refine own_lift CW SW0 ?_
  intro vm1817 C S1818 rb1819
  refine own_seg C S1818 [(0, .aload_n 0, 1), (1, .ifnonnull 5, 3), (6, .aload_n 0, 1)] (by decide +kernel) 7 #[.val (.ref x)] [(.ref x)] rfl ?_
  have SW1820 := rb1819 _ _ _ _ [] [] S1818 (Keep.refl _ _) all0 all0
  refine own_ldcW CW SW1820 (own_wd hw 117 rfl) (List.mem_of_getElem? (i := 0) rfl) (z := (4 : Int32)) (vs := own_lv0) ⟨by decide, by decide⟩ (by decide) rfl (by decide +kernel) 16 (by decide) (by decide) (by decide) (by decide) ?_
  intro T1821 h1822 a1823 b1824 k1825 SW1826 E1827 x1828 f1829 f1830 f1831 ne1832 
  have hp1833 : ∀ c ∈ ([116, 101, 120, 116] : List Int32), ¬ c < 0 ∧ ¬ (255 : Int32) < c := by decide
  have hcd1834 : StrChars.Road.CodA ([116, 101, 120, 116] : List Int32) 0 (4 : Int32) own_lv0 := StrChars.Road.codOf (cs := ([116, 101, 120, 116] : List Int32)) (n := 4) rfl (fun c hc => (hp1833 c hc).2)
  refine own_lift CW SW1826 ?_
  intro vm1835 C S1836 rb1837
  have f1838 := (Exa.ext E1827 xE)
  have f1839 := (Fld.ext E1827 xV)
  have f1840 := (Fld.ext E1827 xC)
  have f1841 := (xK.ext E1827)
  have f1842 := (X00.ext E1827)
  refine own_callV C S1836 (own_wd hw 120 rfl) (own_wd hw 106 rfl) (own_wd hw 108 rfl) (own_wd hw 108 rfl) rfl (own_wd hw 107 rfl) (by decide) (Q := (fun v h' L => ((v = some (.int 1) ∧ xcs = ([116, 101, 120, 116] : List Int32)) ∨ (v = some (.int 0) ∧ ¬ xcs = ([116, 101, 120, 116] : List Int32))) ∧ L = [] ∧ h' = h1822)) (StrChars.Road.eqW (W := 0) C.2.2.2.2.2.2.2 (fun d hd => hw d (own_heq d hd)) (kI := 4) (own_wd hw 61 rfl) f1838 f1839 f1840 f1841 (own_codG xhp) (own_up _ xhp) (Nat.le_trans xhl (by decide)) x1828 f1830 f1829 f1831 hcd1834 (own_up _ hp1833) (Nat.le_of_ble_eq_true rfl) (O2.ext f1842.2) P5 (by decide) (by decide)) (fun _ _ L q => by rw [q.2.1]; exact Fr.nil _) f1838 [(.ref a1823)] [] rfl own_pd5 rfl rfl rfl (Nat.le_of_ble_eq_true rfl) (by decide) (by decide) (by decide +kernel) ?_
  rintro T1847 h1848 v1849 L1850 S1851 ⟨d1846, -, e1843⟩
  rw [e1843] at S1851; clear e1843
  obtain rfl : v1849 = some (.int 0) := d1846.elim (fun q => absurd q.2 (by rw [hv]; decide)) (fun q => q.1)
  show own_Go p e below _ T1847 (mkF m 12 #[.val (.ref x)] [(.int 0)])
  refine own_if C S1851 (q := .eq) (o := 7) (by decide +kernel) 19 (by decide) (by decide) (fun (q1852 : (0 : Int32) = (0 : Int32)) => ?_) (fun (hq : ¬ (0 : Int32) = (0 : Int32)) => False.elim (by revert hq; decide))
  refine own_seg C S1851 [(19, .aload_n 0, 1)] (by decide +kernel) 20 #[.val (.ref x)] [(.ref x)] rfl ?_
  have SW1853 := rb1837 _ _ _ _ [] [] S1851 (Keep.refl _ _) all0 all0
  refine own_ldcW CW SW1853 (own_wd hw 121 rfl) (List.mem_of_getElem? (i := 1) rfl) (z := (7 : Int32)) (vs := own_lv1) ⟨by decide, by decide⟩ (by decide) rfl (by decide +kernel) 28 (by decide) (by decide) (by decide) (by decide) ?_
  intro T1854 h1855 a1856 b1857 k1858 SW1859 E1860 x1861 f1862 f1863 f1864 ne1865 
  have hp1866 : ∀ c ∈ ([107, 101, 121, 119, 111, 114, 100] : List Int32), ¬ c < 0 ∧ ¬ (255 : Int32) < c := by decide
  have hcd1867 : StrChars.Road.CodA ([107, 101, 121, 119, 111, 114, 100] : List Int32) 0 (7 : Int32) own_lv1 := StrChars.Road.codOf (cs := ([107, 101, 121, 119, 111, 114, 100] : List Int32)) (n := 7) rfl (fun c hc => (hp1866 c hc).2)
  refine own_lift CW SW1859 ?_
  intro vm1868 C S1869 rb1870
  have f1871 := (Exa.ext E1860 f1838)
  have f1872 := (Fld.ext E1860 f1839)
  have f1873 := (Fld.ext E1860 f1840)
  have f1874 := (f1841.ext E1860)
  have f1875 := (f1842.ext E1860)
  refine own_callV C S1869 (own_wd hw 120 rfl) (own_wd hw 106 rfl) (own_wd hw 108 rfl) (own_wd hw 108 rfl) rfl (own_wd hw 107 rfl) (by decide) (Q := (fun v h' L => ((v = some (.int 1) ∧ xcs = ([107, 101, 121, 119, 111, 114, 100] : List Int32)) ∨ (v = some (.int 0) ∧ ¬ xcs = ([107, 101, 121, 119, 111, 114, 100] : List Int32))) ∧ L = [] ∧ h' = h1855)) (StrChars.Road.eqW (W := 0) C.2.2.2.2.2.2.2 (fun d hd => hw d (own_heq d hd)) (kI := 4) (own_wd hw 61 rfl) f1871 f1872 f1873 f1874 (own_codG xhp) (own_up _ xhp) (Nat.le_trans xhl (by decide)) x1861 f1863 f1862 f1864 hcd1867 (own_up _ hp1866) (Nat.le_of_ble_eq_true rfl) (O2.ext f1875.2) P5 (by decide) (by decide)) (fun _ _ L q => by rw [q.2.1]; exact Fr.nil _) f1871 [(.ref a1856)] [] rfl own_pd5 rfl rfl rfl (Nat.le_of_ble_eq_true rfl) (by decide) (by decide) (by decide +kernel) ?_
  rintro T1880 h1881 v1882 L1883 S1884 ⟨d1879, -, e1876⟩
  rw [e1876] at S1884; clear e1876
  obtain rfl : v1882 = some (.int 0) := d1879.elim (fun q => absurd q.2 (by rw [hv]; decide)) (fun q => q.1)
  show own_Go p e below _ T1880 (mkF m 25 #[.val (.ref x)] [(.int 0)])
  refine own_if C S1884 (q := .eq) (o := 7) (by decide +kernel) 32 (by decide) (by decide) (fun (q1885 : (0 : Int32) = (0 : Int32)) => ?_) (fun (hq : ¬ (0 : Int32) = (0 : Int32)) => False.elim (by revert hq; decide))
  refine own_seg C S1884 [(32, .aload_n 0, 1)] (by decide +kernel) 33 #[.val (.ref x)] [(.ref x)] rfl ?_
  have SW1886 := rb1870 _ _ _ _ [] [] S1884 (Keep.refl _ _) all0 all0
  refine own_ldcW CW SW1886 (own_wd hw 122 rfl) (List.mem_of_getElem? (i := 2) rfl) (z := (6 : Int32)) (vs := own_lv2) ⟨by decide, by decide⟩ (by decide) rfl (by decide +kernel) 24 (by decide) (by decide) (by decide) (by decide) ?_
  intro T1887 h1888 a1889 b1890 k1891 SW1892 E1893 x1894 f1895 f1896 f1897 ne1898 
  have hp1899 : ∀ c ∈ ([110, 117, 109, 98, 101, 114] : List Int32), ¬ c < 0 ∧ ¬ (255 : Int32) < c := by decide
  have hcd1900 : StrChars.Road.CodA ([110, 117, 109, 98, 101, 114] : List Int32) 0 (6 : Int32) own_lv2 := StrChars.Road.codOf (cs := ([110, 117, 109, 98, 101, 114] : List Int32)) (n := 6) rfl (fun c hc => (hp1899 c hc).2)
  refine own_lift CW SW1892 ?_
  intro vm1901 C S1902 rb1903
  have f1904 := (Exa.ext E1893 f1871)
  have f1905 := (Fld.ext E1893 f1872)
  have f1906 := (Fld.ext E1893 f1873)
  have f1907 := (f1874.ext E1893)
  have f1908 := (f1875.ext E1893)
  refine own_callV C S1902 (own_wd hw 120 rfl) (own_wd hw 106 rfl) (own_wd hw 108 rfl) (own_wd hw 108 rfl) rfl (own_wd hw 107 rfl) (by decide) (Q := (fun v h' L => ((v = some (.int 1) ∧ xcs = ([110, 117, 109, 98, 101, 114] : List Int32)) ∨ (v = some (.int 0) ∧ ¬ xcs = ([110, 117, 109, 98, 101, 114] : List Int32))) ∧ L = [] ∧ h' = h1888)) (StrChars.Road.eqW (W := 0) C.2.2.2.2.2.2.2 (fun d hd => hw d (own_heq d hd)) (kI := 4) (own_wd hw 61 rfl) f1904 f1905 f1906 f1907 (own_codG xhp) (own_up _ xhp) (Nat.le_trans xhl (by decide)) x1894 f1896 f1895 f1897 hcd1900 (own_up _ hp1899) (Nat.le_of_ble_eq_true rfl) (O2.ext f1908.2) P5 (by decide) (by decide)) (fun _ _ L q => by rw [q.2.1]; exact Fr.nil _) f1904 [(.ref a1889)] [] rfl own_pd5 rfl rfl rfl (Nat.le_of_ble_eq_true rfl) (by decide) (by decide) (by decide +kernel) ?_
  rintro T1913 h1914 v1915 L1916 S1917 ⟨d1912, -, e1909⟩
  rw [e1909] at S1917; clear e1909
  obtain rfl : v1915 = some (.int 0) := d1912.elim (fun q => absurd q.2 (by rw [hv]; decide)) (fun q => q.1)
  show own_Go p e below _ T1913 (mkF m 38 #[.val (.ref x)] [(.int 0)])
  refine own_if C S1917 (q := .eq) (o := 7) (by decide +kernel) 45 (by decide) (by decide) (fun (q1918 : (0 : Int32) = (0 : Int32)) => ?_) (fun (hq : ¬ (0 : Int32) = (0 : Int32)) => False.elim (by revert hq; decide))
  refine own_seg C S1917 [(45, .aload_n 0, 1)] (by decide +kernel) 46 #[.val (.ref x)] [(.ref x)] rfl ?_
  have SW1919 := rb1903 _ _ _ _ [] [] S1917 (Keep.refl _ _) all0 all0
  refine own_ldcW CW SW1919 (own_wd hw 123 rfl) (List.mem_of_getElem? (i := 3) rfl) (z := (4 : Int32)) (vs := own_lv3) ⟨by decide, by decide⟩ (by decide) rfl (by decide +kernel) 16 (by decide) (by decide) (by decide) (by decide) ?_
  intro T1920 h1921 a1922 b1923 k1924 SW1925 E1926 x1927 f1928 f1929 f1930 ne1931 
  have hp1932 : ∀ c ∈ ([100, 97, 116, 101] : List Int32), ¬ c < 0 ∧ ¬ (255 : Int32) < c := by decide
  have hcd1933 : StrChars.Road.CodA ([100, 97, 116, 101] : List Int32) 0 (4 : Int32) own_lv3 := StrChars.Road.codOf (cs := ([100, 97, 116, 101] : List Int32)) (n := 4) rfl (fun c hc => (hp1932 c hc).2)
  refine own_lift CW SW1925 ?_
  intro vm1934 C S1935 rb1936
  have f1937 := (Exa.ext E1926 f1904)
  have f1938 := (Fld.ext E1926 f1905)
  have f1939 := (Fld.ext E1926 f1906)
  have f1940 := (f1907.ext E1926)
  have f1941 := (f1908.ext E1926)
  refine own_callV C S1935 (own_wd hw 120 rfl) (own_wd hw 106 rfl) (own_wd hw 108 rfl) (own_wd hw 108 rfl) rfl (own_wd hw 107 rfl) (by decide) (Q := (fun v h' L => ((v = some (.int 1) ∧ xcs = ([100, 97, 116, 101] : List Int32)) ∨ (v = some (.int 0) ∧ ¬ xcs = ([100, 97, 116, 101] : List Int32))) ∧ L = [] ∧ h' = h1921)) (StrChars.Road.eqW (W := 0) C.2.2.2.2.2.2.2 (fun d hd => hw d (own_heq d hd)) (kI := 4) (own_wd hw 61 rfl) f1937 f1938 f1939 f1940 (own_codG xhp) (own_up _ xhp) (Nat.le_trans xhl (by decide)) x1927 f1929 f1928 f1930 hcd1933 (own_up _ hp1932) (Nat.le_of_ble_eq_true rfl) (O2.ext f1941.2) P5 (by decide) (by decide)) (fun _ _ L q => by rw [q.2.1]; exact Fr.nil _) f1937 [(.ref a1922)] [] rfl own_pd5 rfl rfl rfl (Nat.le_of_ble_eq_true rfl) (by decide) (by decide) (by decide +kernel) ?_
  rintro T1946 h1947 v1948 L1949 S1950 ⟨d1945, -, e1942⟩
  rw [e1942] at S1950; clear e1942
  obtain rfl : v1948 = some (.int 1) := d1945.elim (fun q => q.1) (fun q => absurd hv q.2)
  show own_Go p e below _ T1946 (mkF m 51 #[.val (.ref x)] [(.int 1)])
  refine own_if C S1950 (q := .eq) (o := 7) (by decide +kernel) 58 (by decide) (by decide) (fun (hq : (1 : Int32) = (0 : Int32)) => False.elim (by revert hq; decide)) (fun (q1951 : ¬ (1 : Int32) = (0 : Int32)) => ?_)
  refine own_getS C S1950 (own_wd hw 126 rfl) Via.refl (Od.ext f1941.2) (by decide +kernel) ?_
  intro T1952 S1953
  have SW1954 := rb1936 _ _ _ _ [] [] S1953 (Keep.refl _ _) all0 all0
  refine own_retAW CW SW1954 rfl rfl (by decide +kernel) (by decide) (by decide) ?_
  exact ⟨rfl, (((((Keep.refl _ _).ext E1827).ext E1860).ext E1893).ext E1926)⟩
abbrev own_lv4 : List Value := [(.int 112), (.int 111), (.int 105), (.int 110), (.int 116)]
theorem own_ex4 (l : Launch) (Z : State) (a0 : Array Value) (hw : ∀ d ∈ tables_1, d.before a0 Z = true) (hEL : EW Z a0 own_EL) (wS : ∀ a ∈ Bundle.stringAtoms, a.before a0 Z = true) (G1 : Int32) (G3 : Value) (kda : Addr) (kdb : Addr) (kdc : Addr) (kdd : Addr) (kde : Addr) (x : Addr) (xt : Addr) (xk : ClassId) (xcs : List Int32) (h0 : Heap) (n0 : Nat) (z0 : n0 ≤ h0.size) (X00 : Old Z n0 h0) (xE : Exa Z h0 x "java/lang/String") (xV : Fld Z h0 x "java/lang/String" "value" "[B" (.ref xt)) (xC : Fld Z h0 x "java/lang/String" "coder" "B" (.int 0)) (xK : Arv Z h0 xt xk .byte (Int32.ofNat (xcs).length) (own_sv xcs) (.int 0)) (O2 : Sta Z Z.heap "java/lang/String" "COMPACT_STRINGS" "Z" (.int G1)) (O4 : Sta Z Z.heap "jdk/internal/util/Preconditions" "SIOOBE_FORMATTER" "Ljava/util/function/BiFunction;" G3) (P5 : ¬ G1 = (0 : Int32)) (rG3 : G3.isRef = true) (xhp : ∀ c ∈ xcs, ¬ c < 0 ∧ ¬ (255 : Int32) < c) (xhl : xcs.length ≤ 8) (Oa : Sta Z Z.heap "com/example/persephone/persephone/lucene/FieldKind" "TEXT" "Lcom/example/persephone/persephone/lucene/FieldKind;" (.ref kda)) (Ob : Sta Z Z.heap "com/example/persephone/persephone/lucene/FieldKind" "KEYWORD" "Lcom/example/persephone/persephone/lucene/FieldKind;" (.ref kdb)) (Oc : Sta Z Z.heap "com/example/persephone/persephone/lucene/FieldKind" "NUMBER" "Lcom/example/persephone/persephone/lucene/FieldKind;" (.ref kdc)) (Od : Sta Z Z.heap "com/example/persephone/persephone/lucene/FieldKind" "DATE" "Lcom/example/persephone/persephone/lucene/FieldKind;" (.ref kdd)) (Oe : Sta Z Z.heap "com/example/persephone/persephone/lucene/FieldKind" "POINT" "Lcom/example/persephone/persephone/lucene/FieldKind;" (.ref kde)) (hv : xcs = own_L4) :
    own_MetW l Z own_EL (⟨"com/example/persephone/persephone/lucene/FieldKindLabelledPinLaw", "expected", "(Ljava/lang/String;)Lcom/example/persephone/persephone/lucene/FieldKind;"⟩ : MethodName) method_6_code 1 (some (.object "com/example/persephone/persephone/lucene/FieldKind")) ({ frames := 2, cells := 10, slots := 124, locals := 28 } : Room) n0 #[(.ref x)] h0 [] (fun v h => v = some (.ref kde) ∧ Keep h0 h []) := by
  refine own_metW hEL wS (by decide +kernel) #[.val (.ref x)] (fun m => by first | (simp [entryFrame, mkF, argsToLocals, Value.category]; done) | rfl) ?_
  intro p e s m below meth c T0 CW SW0
  refine own_lift CW SW0 ?_
  intro vm1955 C S1956 rb1957
  refine own_seg C S1956 [(0, .aload_n 0, 1), (1, .ifnonnull 5, 3), (6, .aload_n 0, 1)] (by decide +kernel) 7 #[.val (.ref x)] [(.ref x)] rfl ?_
  have SW1958 := rb1957 _ _ _ _ [] [] S1956 (Keep.refl _ _) all0 all0
  refine own_ldcW CW SW1958 (own_wd hw 117 rfl) (List.mem_of_getElem? (i := 0) rfl) (z := (4 : Int32)) (vs := own_lv0) ⟨by decide, by decide⟩ (by decide) rfl (by decide +kernel) 16 (by decide) (by decide) (by decide) (by decide) ?_
  intro T1959 h1960 a1961 b1962 k1963 SW1964 E1965 x1966 f1967 f1968 f1969 ne1970 
  have hp1971 : ∀ c ∈ ([116, 101, 120, 116] : List Int32), ¬ c < 0 ∧ ¬ (255 : Int32) < c := by decide
  have hcd1972 : StrChars.Road.CodA ([116, 101, 120, 116] : List Int32) 0 (4 : Int32) own_lv0 := StrChars.Road.codOf (cs := ([116, 101, 120, 116] : List Int32)) (n := 4) rfl (fun c hc => (hp1971 c hc).2)
  refine own_lift CW SW1964 ?_
  intro vm1973 C S1974 rb1975
  have f1976 := (Exa.ext E1965 xE)
  have f1977 := (Fld.ext E1965 xV)
  have f1978 := (Fld.ext E1965 xC)
  have f1979 := (xK.ext E1965)
  have f1980 := (X00.ext E1965)
  refine own_callV C S1974 (own_wd hw 120 rfl) (own_wd hw 106 rfl) (own_wd hw 108 rfl) (own_wd hw 108 rfl) rfl (own_wd hw 107 rfl) (by decide) (Q := (fun v h' L => ((v = some (.int 1) ∧ xcs = ([116, 101, 120, 116] : List Int32)) ∨ (v = some (.int 0) ∧ ¬ xcs = ([116, 101, 120, 116] : List Int32))) ∧ L = [] ∧ h' = h1960)) (StrChars.Road.eqW (W := 0) C.2.2.2.2.2.2.2 (fun d hd => hw d (own_heq d hd)) (kI := 4) (own_wd hw 61 rfl) f1976 f1977 f1978 f1979 (own_codG xhp) (own_up _ xhp) (Nat.le_trans xhl (by decide)) x1966 f1968 f1967 f1969 hcd1972 (own_up _ hp1971) (Nat.le_of_ble_eq_true rfl) (O2.ext f1980.2) P5 (by decide) (by decide)) (fun _ _ L q => by rw [q.2.1]; exact Fr.nil _) f1976 [(.ref a1961)] [] rfl own_pd5 rfl rfl rfl (Nat.le_of_ble_eq_true rfl) (by decide) (by decide) (by decide +kernel) ?_
  rintro T1985 h1986 v1987 L1988 S1989 ⟨d1984, -, e1981⟩
  rw [e1981] at S1989; clear e1981
  obtain rfl : v1987 = some (.int 0) := d1984.elim (fun q => absurd q.2 (by rw [hv]; decide)) (fun q => q.1)
  show own_Go p e below _ T1985 (mkF m 12 #[.val (.ref x)] [(.int 0)])
  refine own_if C S1989 (q := .eq) (o := 7) (by decide +kernel) 19 (by decide) (by decide) (fun (q1990 : (0 : Int32) = (0 : Int32)) => ?_) (fun (hq : ¬ (0 : Int32) = (0 : Int32)) => False.elim (by revert hq; decide))
  refine own_seg C S1989 [(19, .aload_n 0, 1)] (by decide +kernel) 20 #[.val (.ref x)] [(.ref x)] rfl ?_
  have SW1991 := rb1975 _ _ _ _ [] [] S1989 (Keep.refl _ _) all0 all0
  refine own_ldcW CW SW1991 (own_wd hw 121 rfl) (List.mem_of_getElem? (i := 1) rfl) (z := (7 : Int32)) (vs := own_lv1) ⟨by decide, by decide⟩ (by decide) rfl (by decide +kernel) 28 (by decide) (by decide) (by decide) (by decide) ?_
  intro T1992 h1993 a1994 b1995 k1996 SW1997 E1998 x1999 f2000 f2001 f2002 ne2003 
  have hp2004 : ∀ c ∈ ([107, 101, 121, 119, 111, 114, 100] : List Int32), ¬ c < 0 ∧ ¬ (255 : Int32) < c := by decide
  have hcd2005 : StrChars.Road.CodA ([107, 101, 121, 119, 111, 114, 100] : List Int32) 0 (7 : Int32) own_lv1 := StrChars.Road.codOf (cs := ([107, 101, 121, 119, 111, 114, 100] : List Int32)) (n := 7) rfl (fun c hc => (hp2004 c hc).2)
  refine own_lift CW SW1997 ?_
  intro vm2006 C S2007 rb2008
  have f2009 := (Exa.ext E1998 f1976)
  have f2010 := (Fld.ext E1998 f1977)
  have f2011 := (Fld.ext E1998 f1978)
  have f2012 := (f1979.ext E1998)
  have f2013 := (f1980.ext E1998)
  refine own_callV C S2007 (own_wd hw 120 rfl) (own_wd hw 106 rfl) (own_wd hw 108 rfl) (own_wd hw 108 rfl) rfl (own_wd hw 107 rfl) (by decide) (Q := (fun v h' L => ((v = some (.int 1) ∧ xcs = ([107, 101, 121, 119, 111, 114, 100] : List Int32)) ∨ (v = some (.int 0) ∧ ¬ xcs = ([107, 101, 121, 119, 111, 114, 100] : List Int32))) ∧ L = [] ∧ h' = h1993)) (StrChars.Road.eqW (W := 0) C.2.2.2.2.2.2.2 (fun d hd => hw d (own_heq d hd)) (kI := 4) (own_wd hw 61 rfl) f2009 f2010 f2011 f2012 (own_codG xhp) (own_up _ xhp) (Nat.le_trans xhl (by decide)) x1999 f2001 f2000 f2002 hcd2005 (own_up _ hp2004) (Nat.le_of_ble_eq_true rfl) (O2.ext f2013.2) P5 (by decide) (by decide)) (fun _ _ L q => by rw [q.2.1]; exact Fr.nil _) f2009 [(.ref a1994)] [] rfl own_pd5 rfl rfl rfl (Nat.le_of_ble_eq_true rfl) (by decide) (by decide) (by decide +kernel) ?_
  rintro T2018 h2019 v2020 L2021 S2022 ⟨d2017, -, e2014⟩
  rw [e2014] at S2022; clear e2014
  obtain rfl : v2020 = some (.int 0) := d2017.elim (fun q => absurd q.2 (by rw [hv]; decide)) (fun q => q.1)
  show own_Go p e below _ T2018 (mkF m 25 #[.val (.ref x)] [(.int 0)])
  refine own_if C S2022 (q := .eq) (o := 7) (by decide +kernel) 32 (by decide) (by decide) (fun (q2023 : (0 : Int32) = (0 : Int32)) => ?_) (fun (hq : ¬ (0 : Int32) = (0 : Int32)) => False.elim (by revert hq; decide))
  refine own_seg C S2022 [(32, .aload_n 0, 1)] (by decide +kernel) 33 #[.val (.ref x)] [(.ref x)] rfl ?_
  have SW2024 := rb2008 _ _ _ _ [] [] S2022 (Keep.refl _ _) all0 all0
  refine own_ldcW CW SW2024 (own_wd hw 122 rfl) (List.mem_of_getElem? (i := 2) rfl) (z := (6 : Int32)) (vs := own_lv2) ⟨by decide, by decide⟩ (by decide) rfl (by decide +kernel) 24 (by decide) (by decide) (by decide) (by decide) ?_
  intro T2025 h2026 a2027 b2028 k2029 SW2030 E2031 x2032 f2033 f2034 f2035 ne2036 
  have hp2037 : ∀ c ∈ ([110, 117, 109, 98, 101, 114] : List Int32), ¬ c < 0 ∧ ¬ (255 : Int32) < c := by decide
  have hcd2038 : StrChars.Road.CodA ([110, 117, 109, 98, 101, 114] : List Int32) 0 (6 : Int32) own_lv2 := StrChars.Road.codOf (cs := ([110, 117, 109, 98, 101, 114] : List Int32)) (n := 6) rfl (fun c hc => (hp2037 c hc).2)
  refine own_lift CW SW2030 ?_
  intro vm2039 C S2040 rb2041
  have f2042 := (Exa.ext E2031 f2009)
  have f2043 := (Fld.ext E2031 f2010)
  have f2044 := (Fld.ext E2031 f2011)
  have f2045 := (f2012.ext E2031)
  have f2046 := (f2013.ext E2031)
  refine own_callV C S2040 (own_wd hw 120 rfl) (own_wd hw 106 rfl) (own_wd hw 108 rfl) (own_wd hw 108 rfl) rfl (own_wd hw 107 rfl) (by decide) (Q := (fun v h' L => ((v = some (.int 1) ∧ xcs = ([110, 117, 109, 98, 101, 114] : List Int32)) ∨ (v = some (.int 0) ∧ ¬ xcs = ([110, 117, 109, 98, 101, 114] : List Int32))) ∧ L = [] ∧ h' = h2026)) (StrChars.Road.eqW (W := 0) C.2.2.2.2.2.2.2 (fun d hd => hw d (own_heq d hd)) (kI := 4) (own_wd hw 61 rfl) f2042 f2043 f2044 f2045 (own_codG xhp) (own_up _ xhp) (Nat.le_trans xhl (by decide)) x2032 f2034 f2033 f2035 hcd2038 (own_up _ hp2037) (Nat.le_of_ble_eq_true rfl) (O2.ext f2046.2) P5 (by decide) (by decide)) (fun _ _ L q => by rw [q.2.1]; exact Fr.nil _) f2042 [(.ref a2027)] [] rfl own_pd5 rfl rfl rfl (Nat.le_of_ble_eq_true rfl) (by decide) (by decide) (by decide +kernel) ?_
  rintro T2051 h2052 v2053 L2054 S2055 ⟨d2050, -, e2047⟩
  rw [e2047] at S2055; clear e2047
  obtain rfl : v2053 = some (.int 0) := d2050.elim (fun q => absurd q.2 (by rw [hv]; decide)) (fun q => q.1)
  show own_Go p e below _ T2051 (mkF m 38 #[.val (.ref x)] [(.int 0)])
  refine own_if C S2055 (q := .eq) (o := 7) (by decide +kernel) 45 (by decide) (by decide) (fun (q2056 : (0 : Int32) = (0 : Int32)) => ?_) (fun (hq : ¬ (0 : Int32) = (0 : Int32)) => False.elim (by revert hq; decide))
  refine own_seg C S2055 [(45, .aload_n 0, 1)] (by decide +kernel) 46 #[.val (.ref x)] [(.ref x)] rfl ?_
  have SW2057 := rb2041 _ _ _ _ [] [] S2055 (Keep.refl _ _) all0 all0
  refine own_ldcW CW SW2057 (own_wd hw 123 rfl) (List.mem_of_getElem? (i := 3) rfl) (z := (4 : Int32)) (vs := own_lv3) ⟨by decide, by decide⟩ (by decide) rfl (by decide +kernel) 16 (by decide) (by decide) (by decide) (by decide) ?_
  intro T2058 h2059 a2060 b2061 k2062 SW2063 E2064 x2065 f2066 f2067 f2068 ne2069 
  have hp2070 : ∀ c ∈ ([100, 97, 116, 101] : List Int32), ¬ c < 0 ∧ ¬ (255 : Int32) < c := by decide
  have hcd2071 : StrChars.Road.CodA ([100, 97, 116, 101] : List Int32) 0 (4 : Int32) own_lv3 := StrChars.Road.codOf (cs := ([100, 97, 116, 101] : List Int32)) (n := 4) rfl (fun c hc => (hp2070 c hc).2)
  refine own_lift CW SW2063 ?_
  intro vm2072 C S2073 rb2074
  have f2075 := (Exa.ext E2064 f2042)
  have f2076 := (Fld.ext E2064 f2043)
  have f2077 := (Fld.ext E2064 f2044)
  have f2078 := (f2045.ext E2064)
  have f2079 := (f2046.ext E2064)
  refine own_callV C S2073 (own_wd hw 120 rfl) (own_wd hw 106 rfl) (own_wd hw 108 rfl) (own_wd hw 108 rfl) rfl (own_wd hw 107 rfl) (by decide) (Q := (fun v h' L => ((v = some (.int 1) ∧ xcs = ([100, 97, 116, 101] : List Int32)) ∨ (v = some (.int 0) ∧ ¬ xcs = ([100, 97, 116, 101] : List Int32))) ∧ L = [] ∧ h' = h2059)) (StrChars.Road.eqW (W := 0) C.2.2.2.2.2.2.2 (fun d hd => hw d (own_heq d hd)) (kI := 4) (own_wd hw 61 rfl) f2075 f2076 f2077 f2078 (own_codG xhp) (own_up _ xhp) (Nat.le_trans xhl (by decide)) x2065 f2067 f2066 f2068 hcd2071 (own_up _ hp2070) (Nat.le_of_ble_eq_true rfl) (O2.ext f2079.2) P5 (by decide) (by decide)) (fun _ _ L q => by rw [q.2.1]; exact Fr.nil _) f2075 [(.ref a2060)] [] rfl own_pd5 rfl rfl rfl (Nat.le_of_ble_eq_true rfl) (by decide) (by decide) (by decide +kernel) ?_
  rintro T2084 h2085 v2086 L2087 S2088 ⟨d2083, -, e2080⟩
  rw [e2080] at S2088; clear e2080
  obtain rfl : v2086 = some (.int 0) := d2083.elim (fun q => absurd q.2 (by rw [hv]; decide)) (fun q => q.1)
  show own_Go p e below _ T2084 (mkF m 51 #[.val (.ref x)] [(.int 0)])
  refine own_if C S2088 (q := .eq) (o := 7) (by decide +kernel) 58 (by decide) (by decide) (fun (q2089 : (0 : Int32) = (0 : Int32)) => ?_) (fun (hq : ¬ (0 : Int32) = (0 : Int32)) => False.elim (by revert hq; decide))
  refine own_seg C S2088 [(58, .aload_n 0, 1)] (by decide +kernel) 59 #[.val (.ref x)] [(.ref x)] rfl ?_
  have SW2090 := rb2074 _ _ _ _ [] [] S2088 (Keep.refl _ _) all0 all0
  refine own_ldcW CW SW2090 (own_wd hw 124 rfl) (List.mem_of_getElem? (i := 4) rfl) (z := (5 : Int32)) (vs := own_lv4) ⟨by decide, by decide⟩ (by decide) rfl (by decide +kernel) 20 (by decide) (by decide) (by decide) (by decide) ?_
  intro T2091 h2092 a2093 b2094 k2095 SW2096 E2097 x2098 f2099 f2100 f2101 ne2102 
  have hp2103 : ∀ c ∈ ([112, 111, 105, 110, 116] : List Int32), ¬ c < 0 ∧ ¬ (255 : Int32) < c := by decide
  have hcd2104 : StrChars.Road.CodA ([112, 111, 105, 110, 116] : List Int32) 0 (5 : Int32) own_lv4 := StrChars.Road.codOf (cs := ([112, 111, 105, 110, 116] : List Int32)) (n := 5) rfl (fun c hc => (hp2103 c hc).2)
  refine own_lift CW SW2096 ?_
  intro vm2105 C S2106 rb2107
  have f2108 := (Exa.ext E2097 f2075)
  have f2109 := (Fld.ext E2097 f2076)
  have f2110 := (Fld.ext E2097 f2077)
  have f2111 := (f2078.ext E2097)
  have f2112 := (f2079.ext E2097)
  refine own_callV C S2106 (own_wd hw 120 rfl) (own_wd hw 106 rfl) (own_wd hw 108 rfl) (own_wd hw 108 rfl) rfl (own_wd hw 107 rfl) (by decide) (Q := (fun v h' L => ((v = some (.int 1) ∧ xcs = ([112, 111, 105, 110, 116] : List Int32)) ∨ (v = some (.int 0) ∧ ¬ xcs = ([112, 111, 105, 110, 116] : List Int32))) ∧ L = [] ∧ h' = h2092)) (StrChars.Road.eqW (W := 0) C.2.2.2.2.2.2.2 (fun d hd => hw d (own_heq d hd)) (kI := 4) (own_wd hw 61 rfl) f2108 f2109 f2110 f2111 (own_codG xhp) (own_up _ xhp) (Nat.le_trans xhl (by decide)) x2098 f2100 f2099 f2101 hcd2104 (own_up _ hp2103) (Nat.le_of_ble_eq_true rfl) (O2.ext f2112.2) P5 (by decide) (by decide)) (fun _ _ L q => by rw [q.2.1]; exact Fr.nil _) f2108 [(.ref a2093)] [] rfl own_pd5 rfl rfl rfl (Nat.le_of_ble_eq_true rfl) (by decide) (by decide) (by decide +kernel) ?_
  rintro T2117 h2118 v2119 L2120 S2121 ⟨d2116, -, e2113⟩
  rw [e2113] at S2121; clear e2113
  obtain rfl : v2119 = some (.int 1) := d2116.elim (fun q => q.1) (fun q => absurd hv q.2)
  show own_Go p e below _ T2117 (mkF m 64 #[.val (.ref x)] [(.int 1)])
  refine own_if C S2121 (q := .eq) (o := 7) (by decide +kernel) 71 (by decide) (by decide) (fun (hq : (1 : Int32) = (0 : Int32)) => False.elim (by revert hq; decide)) (fun (q2122 : ¬ (1 : Int32) = (0 : Int32)) => ?_)
  refine own_getS C S2121 (own_wd hw 125 rfl) Via.refl (Oe.ext f2112.2) (by decide +kernel) ?_
  intro T2123 S2124
  have SW2125 := rb2107 _ _ _ _ [] [] S2124 (Keep.refl _ _) all0 all0
  refine own_retAW CW SW2125 rfl rfl (by decide +kernel) (by decide) (by decide) ?_
  exact ⟨rfl, ((((((Keep.refl _ _).ext E1965).ext E1998).ext E2031).ext E2064).ext E2097)⟩
theorem own_ex5 (l : Launch) (Z : State) (a0 : Array Value) (hw : ∀ d ∈ tables_1, d.before a0 Z = true) (hEL : EW Z a0 own_EL) (wS : ∀ a ∈ Bundle.stringAtoms, a.before a0 Z = true) (G1 : Int32) (G3 : Value) (kda : Addr) (kdb : Addr) (kdc : Addr) (kdd : Addr) (kde : Addr) (x : Addr) (xt : Addr) (xk : ClassId) (xcs : List Int32) (h0 : Heap) (n0 : Nat) (z0 : n0 ≤ h0.size) (X00 : Old Z n0 h0) (xE : Exa Z h0 x "java/lang/String") (xV : Fld Z h0 x "java/lang/String" "value" "[B" (.ref xt)) (xC : Fld Z h0 x "java/lang/String" "coder" "B" (.int 0)) (xK : Arv Z h0 xt xk .byte (Int32.ofNat (xcs).length) (own_sv xcs) (.int 0)) (O2 : Sta Z Z.heap "java/lang/String" "COMPACT_STRINGS" "Z" (.int G1)) (O4 : Sta Z Z.heap "jdk/internal/util/Preconditions" "SIOOBE_FORMATTER" "Ljava/util/function/BiFunction;" G3) (P5 : ¬ G1 = (0 : Int32)) (rG3 : G3.isRef = true) (xhp : ∀ c ∈ xcs, ¬ c < 0 ∧ ¬ (255 : Int32) < c) (xhl : xcs.length ≤ 8) (Oa : Sta Z Z.heap "com/example/persephone/persephone/lucene/FieldKind" "TEXT" "Lcom/example/persephone/persephone/lucene/FieldKind;" (.ref kda)) (Ob : Sta Z Z.heap "com/example/persephone/persephone/lucene/FieldKind" "KEYWORD" "Lcom/example/persephone/persephone/lucene/FieldKind;" (.ref kdb)) (Oc : Sta Z Z.heap "com/example/persephone/persephone/lucene/FieldKind" "NUMBER" "Lcom/example/persephone/persephone/lucene/FieldKind;" (.ref kdc)) (Od : Sta Z Z.heap "com/example/persephone/persephone/lucene/FieldKind" "DATE" "Lcom/example/persephone/persephone/lucene/FieldKind;" (.ref kdd)) (Oe : Sta Z Z.heap "com/example/persephone/persephone/lucene/FieldKind" "POINT" "Lcom/example/persephone/persephone/lucene/FieldKind;" (.ref kde)) (hv : ¬ xcs = own_L0 ∧ ¬ xcs = own_L1 ∧ ¬ xcs = own_L2 ∧ ¬ xcs = own_L3 ∧ ¬ xcs = own_L4) :
    own_MetW l Z own_EL (⟨"com/example/persephone/persephone/lucene/FieldKindLabelledPinLaw", "expected", "(Ljava/lang/String;)Lcom/example/persephone/persephone/lucene/FieldKind;"⟩ : MethodName) method_6_code 1 (some (.object "com/example/persephone/persephone/lucene/FieldKind")) ({ frames := 2, cells := 10, slots := 124, locals := 28 } : Room) n0 #[(.ref x)] h0 [] (fun v h => v = some .null ∧ Keep h0 h []) := by
  refine own_metW hEL wS (by decide +kernel) #[.val (.ref x)] (fun m => by first | (simp [entryFrame, mkF, argsToLocals, Value.category]; done) | rfl) ?_
  intro p e s m below meth c T0 CW SW0
  refine own_lift CW SW0 ?_
  intro vm2126 C S2127 rb2128
  refine own_seg C S2127 [(0, .aload_n 0, 1), (1, .ifnonnull 5, 3), (6, .aload_n 0, 1)] (by decide +kernel) 7 #[.val (.ref x)] [(.ref x)] rfl ?_
  have SW2129 := rb2128 _ _ _ _ [] [] S2127 (Keep.refl _ _) all0 all0
  refine own_ldcW CW SW2129 (own_wd hw 117 rfl) (List.mem_of_getElem? (i := 0) rfl) (z := (4 : Int32)) (vs := own_lv0) ⟨by decide, by decide⟩ (by decide) rfl (by decide +kernel) 16 (by decide) (by decide) (by decide) (by decide) ?_
  intro T2130 h2131 a2132 b2133 k2134 SW2135 E2136 x2137 f2138 f2139 f2140 ne2141 
  have hp2142 : ∀ c ∈ ([116, 101, 120, 116] : List Int32), ¬ c < 0 ∧ ¬ (255 : Int32) < c := by decide
  have hcd2143 : StrChars.Road.CodA ([116, 101, 120, 116] : List Int32) 0 (4 : Int32) own_lv0 := StrChars.Road.codOf (cs := ([116, 101, 120, 116] : List Int32)) (n := 4) rfl (fun c hc => (hp2142 c hc).2)
  refine own_lift CW SW2135 ?_
  intro vm2144 C S2145 rb2146
  have f2147 := (Exa.ext E2136 xE)
  have f2148 := (Fld.ext E2136 xV)
  have f2149 := (Fld.ext E2136 xC)
  have f2150 := (xK.ext E2136)
  have f2151 := (X00.ext E2136)
  refine own_callV C S2145 (own_wd hw 120 rfl) (own_wd hw 106 rfl) (own_wd hw 108 rfl) (own_wd hw 108 rfl) rfl (own_wd hw 107 rfl) (by decide) (Q := (fun v h' L => ((v = some (.int 1) ∧ xcs = ([116, 101, 120, 116] : List Int32)) ∨ (v = some (.int 0) ∧ ¬ xcs = ([116, 101, 120, 116] : List Int32))) ∧ L = [] ∧ h' = h2131)) (StrChars.Road.eqW (W := 0) C.2.2.2.2.2.2.2 (fun d hd => hw d (own_heq d hd)) (kI := 4) (own_wd hw 61 rfl) f2147 f2148 f2149 f2150 (own_codG xhp) (own_up _ xhp) (Nat.le_trans xhl (by decide)) x2137 f2139 f2138 f2140 hcd2143 (own_up _ hp2142) (Nat.le_of_ble_eq_true rfl) (O2.ext f2151.2) P5 (by decide) (by decide)) (fun _ _ L q => by rw [q.2.1]; exact Fr.nil _) f2147 [(.ref a2132)] [] rfl own_pd5 rfl rfl rfl (Nat.le_of_ble_eq_true rfl) (by decide) (by decide) (by decide +kernel) ?_
  rintro T2156 h2157 v2158 L2159 S2160 ⟨d2155, -, e2152⟩
  rw [e2152] at S2160; clear e2152
  obtain rfl : v2158 = some (.int 0) := d2155.elim (fun q => absurd q.2 hv.1) (fun q => q.1)
  show own_Go p e below _ T2156 (mkF m 12 #[.val (.ref x)] [(.int 0)])
  refine own_if C S2160 (q := .eq) (o := 7) (by decide +kernel) 19 (by decide) (by decide) (fun (q2161 : (0 : Int32) = (0 : Int32)) => ?_) (fun (hq : ¬ (0 : Int32) = (0 : Int32)) => False.elim (by revert hq; decide))
  refine own_seg C S2160 [(19, .aload_n 0, 1)] (by decide +kernel) 20 #[.val (.ref x)] [(.ref x)] rfl ?_
  have SW2162 := rb2146 _ _ _ _ [] [] S2160 (Keep.refl _ _) all0 all0
  refine own_ldcW CW SW2162 (own_wd hw 121 rfl) (List.mem_of_getElem? (i := 1) rfl) (z := (7 : Int32)) (vs := own_lv1) ⟨by decide, by decide⟩ (by decide) rfl (by decide +kernel) 28 (by decide) (by decide) (by decide) (by decide) ?_
  intro T2163 h2164 a2165 b2166 k2167 SW2168 E2169 x2170 f2171 f2172 f2173 ne2174 
  have hp2175 : ∀ c ∈ ([107, 101, 121, 119, 111, 114, 100] : List Int32), ¬ c < 0 ∧ ¬ (255 : Int32) < c := by decide
  have hcd2176 : StrChars.Road.CodA ([107, 101, 121, 119, 111, 114, 100] : List Int32) 0 (7 : Int32) own_lv1 := StrChars.Road.codOf (cs := ([107, 101, 121, 119, 111, 114, 100] : List Int32)) (n := 7) rfl (fun c hc => (hp2175 c hc).2)
  refine own_lift CW SW2168 ?_
  intro vm2177 C S2178 rb2179
  have f2180 := (Exa.ext E2169 f2147)
  have f2181 := (Fld.ext E2169 f2148)
  have f2182 := (Fld.ext E2169 f2149)
  have f2183 := (f2150.ext E2169)
  have f2184 := (f2151.ext E2169)
  refine own_callV C S2178 (own_wd hw 120 rfl) (own_wd hw 106 rfl) (own_wd hw 108 rfl) (own_wd hw 108 rfl) rfl (own_wd hw 107 rfl) (by decide) (Q := (fun v h' L => ((v = some (.int 1) ∧ xcs = ([107, 101, 121, 119, 111, 114, 100] : List Int32)) ∨ (v = some (.int 0) ∧ ¬ xcs = ([107, 101, 121, 119, 111, 114, 100] : List Int32))) ∧ L = [] ∧ h' = h2164)) (StrChars.Road.eqW (W := 0) C.2.2.2.2.2.2.2 (fun d hd => hw d (own_heq d hd)) (kI := 4) (own_wd hw 61 rfl) f2180 f2181 f2182 f2183 (own_codG xhp) (own_up _ xhp) (Nat.le_trans xhl (by decide)) x2170 f2172 f2171 f2173 hcd2176 (own_up _ hp2175) (Nat.le_of_ble_eq_true rfl) (O2.ext f2184.2) P5 (by decide) (by decide)) (fun _ _ L q => by rw [q.2.1]; exact Fr.nil _) f2180 [(.ref a2165)] [] rfl own_pd5 rfl rfl rfl (Nat.le_of_ble_eq_true rfl) (by decide) (by decide) (by decide +kernel) ?_
  rintro T2189 h2190 v2191 L2192 S2193 ⟨d2188, -, e2185⟩
  rw [e2185] at S2193; clear e2185
  obtain rfl : v2191 = some (.int 0) := d2188.elim (fun q => absurd q.2 hv.2.1) (fun q => q.1)
  show own_Go p e below _ T2189 (mkF m 25 #[.val (.ref x)] [(.int 0)])
  refine own_if C S2193 (q := .eq) (o := 7) (by decide +kernel) 32 (by decide) (by decide) (fun (q2194 : (0 : Int32) = (0 : Int32)) => ?_) (fun (hq : ¬ (0 : Int32) = (0 : Int32)) => False.elim (by revert hq; decide))
  refine own_seg C S2193 [(32, .aload_n 0, 1)] (by decide +kernel) 33 #[.val (.ref x)] [(.ref x)] rfl ?_
  have SW2195 := rb2179 _ _ _ _ [] [] S2193 (Keep.refl _ _) all0 all0
  refine own_ldcW CW SW2195 (own_wd hw 122 rfl) (List.mem_of_getElem? (i := 2) rfl) (z := (6 : Int32)) (vs := own_lv2) ⟨by decide, by decide⟩ (by decide) rfl (by decide +kernel) 24 (by decide) (by decide) (by decide) (by decide) ?_
  intro T2196 h2197 a2198 b2199 k2200 SW2201 E2202 x2203 f2204 f2205 f2206 ne2207 
  have hp2208 : ∀ c ∈ ([110, 117, 109, 98, 101, 114] : List Int32), ¬ c < 0 ∧ ¬ (255 : Int32) < c := by decide
  have hcd2209 : StrChars.Road.CodA ([110, 117, 109, 98, 101, 114] : List Int32) 0 (6 : Int32) own_lv2 := StrChars.Road.codOf (cs := ([110, 117, 109, 98, 101, 114] : List Int32)) (n := 6) rfl (fun c hc => (hp2208 c hc).2)
  refine own_lift CW SW2201 ?_
  intro vm2210 C S2211 rb2212
  have f2213 := (Exa.ext E2202 f2180)
  have f2214 := (Fld.ext E2202 f2181)
  have f2215 := (Fld.ext E2202 f2182)
  have f2216 := (f2183.ext E2202)
  have f2217 := (f2184.ext E2202)
  refine own_callV C S2211 (own_wd hw 120 rfl) (own_wd hw 106 rfl) (own_wd hw 108 rfl) (own_wd hw 108 rfl) rfl (own_wd hw 107 rfl) (by decide) (Q := (fun v h' L => ((v = some (.int 1) ∧ xcs = ([110, 117, 109, 98, 101, 114] : List Int32)) ∨ (v = some (.int 0) ∧ ¬ xcs = ([110, 117, 109, 98, 101, 114] : List Int32))) ∧ L = [] ∧ h' = h2197)) (StrChars.Road.eqW (W := 0) C.2.2.2.2.2.2.2 (fun d hd => hw d (own_heq d hd)) (kI := 4) (own_wd hw 61 rfl) f2213 f2214 f2215 f2216 (own_codG xhp) (own_up _ xhp) (Nat.le_trans xhl (by decide)) x2203 f2205 f2204 f2206 hcd2209 (own_up _ hp2208) (Nat.le_of_ble_eq_true rfl) (O2.ext f2217.2) P5 (by decide) (by decide)) (fun _ _ L q => by rw [q.2.1]; exact Fr.nil _) f2213 [(.ref a2198)] [] rfl own_pd5 rfl rfl rfl (Nat.le_of_ble_eq_true rfl) (by decide) (by decide) (by decide +kernel) ?_
  rintro T2222 h2223 v2224 L2225 S2226 ⟨d2221, -, e2218⟩
  rw [e2218] at S2226; clear e2218
  obtain rfl : v2224 = some (.int 0) := d2221.elim (fun q => absurd q.2 hv.2.2.1) (fun q => q.1)
  show own_Go p e below _ T2222 (mkF m 38 #[.val (.ref x)] [(.int 0)])
  refine own_if C S2226 (q := .eq) (o := 7) (by decide +kernel) 45 (by decide) (by decide) (fun (q2227 : (0 : Int32) = (0 : Int32)) => ?_) (fun (hq : ¬ (0 : Int32) = (0 : Int32)) => False.elim (by revert hq; decide))
  refine own_seg C S2226 [(45, .aload_n 0, 1)] (by decide +kernel) 46 #[.val (.ref x)] [(.ref x)] rfl ?_
  have SW2228 := rb2212 _ _ _ _ [] [] S2226 (Keep.refl _ _) all0 all0
  refine own_ldcW CW SW2228 (own_wd hw 123 rfl) (List.mem_of_getElem? (i := 3) rfl) (z := (4 : Int32)) (vs := own_lv3) ⟨by decide, by decide⟩ (by decide) rfl (by decide +kernel) 16 (by decide) (by decide) (by decide) (by decide) ?_
  intro T2229 h2230 a2231 b2232 k2233 SW2234 E2235 x2236 f2237 f2238 f2239 ne2240 
  have hp2241 : ∀ c ∈ ([100, 97, 116, 101] : List Int32), ¬ c < 0 ∧ ¬ (255 : Int32) < c := by decide
  have hcd2242 : StrChars.Road.CodA ([100, 97, 116, 101] : List Int32) 0 (4 : Int32) own_lv3 := StrChars.Road.codOf (cs := ([100, 97, 116, 101] : List Int32)) (n := 4) rfl (fun c hc => (hp2241 c hc).2)
  refine own_lift CW SW2234 ?_
  intro vm2243 C S2244 rb2245
  have f2246 := (Exa.ext E2235 f2213)
  have f2247 := (Fld.ext E2235 f2214)
  have f2248 := (Fld.ext E2235 f2215)
  have f2249 := (f2216.ext E2235)
  have f2250 := (f2217.ext E2235)
  refine own_callV C S2244 (own_wd hw 120 rfl) (own_wd hw 106 rfl) (own_wd hw 108 rfl) (own_wd hw 108 rfl) rfl (own_wd hw 107 rfl) (by decide) (Q := (fun v h' L => ((v = some (.int 1) ∧ xcs = ([100, 97, 116, 101] : List Int32)) ∨ (v = some (.int 0) ∧ ¬ xcs = ([100, 97, 116, 101] : List Int32))) ∧ L = [] ∧ h' = h2230)) (StrChars.Road.eqW (W := 0) C.2.2.2.2.2.2.2 (fun d hd => hw d (own_heq d hd)) (kI := 4) (own_wd hw 61 rfl) f2246 f2247 f2248 f2249 (own_codG xhp) (own_up _ xhp) (Nat.le_trans xhl (by decide)) x2236 f2238 f2237 f2239 hcd2242 (own_up _ hp2241) (Nat.le_of_ble_eq_true rfl) (O2.ext f2250.2) P5 (by decide) (by decide)) (fun _ _ L q => by rw [q.2.1]; exact Fr.nil _) f2246 [(.ref a2231)] [] rfl own_pd5 rfl rfl rfl (Nat.le_of_ble_eq_true rfl) (by decide) (by decide) (by decide +kernel) ?_
  rintro T2255 h2256 v2257 L2258 S2259 ⟨d2254, -, e2251⟩
  rw [e2251] at S2259; clear e2251
  obtain rfl : v2257 = some (.int 0) := d2254.elim (fun q => absurd q.2 hv.2.2.2.1) (fun q => q.1)
  show own_Go p e below _ T2255 (mkF m 51 #[.val (.ref x)] [(.int 0)])
  refine own_if C S2259 (q := .eq) (o := 7) (by decide +kernel) 58 (by decide) (by decide) (fun (q2260 : (0 : Int32) = (0 : Int32)) => ?_) (fun (hq : ¬ (0 : Int32) = (0 : Int32)) => False.elim (by revert hq; decide))
  refine own_seg C S2259 [(58, .aload_n 0, 1)] (by decide +kernel) 59 #[.val (.ref x)] [(.ref x)] rfl ?_
  have SW2261 := rb2245 _ _ _ _ [] [] S2259 (Keep.refl _ _) all0 all0
  refine own_ldcW CW SW2261 (own_wd hw 124 rfl) (List.mem_of_getElem? (i := 4) rfl) (z := (5 : Int32)) (vs := own_lv4) ⟨by decide, by decide⟩ (by decide) rfl (by decide +kernel) 20 (by decide) (by decide) (by decide) (by decide) ?_
  intro T2262 h2263 a2264 b2265 k2266 SW2267 E2268 x2269 f2270 f2271 f2272 ne2273 
  have hp2274 : ∀ c ∈ ([112, 111, 105, 110, 116] : List Int32), ¬ c < 0 ∧ ¬ (255 : Int32) < c := by decide
  have hcd2275 : StrChars.Road.CodA ([112, 111, 105, 110, 116] : List Int32) 0 (5 : Int32) own_lv4 := StrChars.Road.codOf (cs := ([112, 111, 105, 110, 116] : List Int32)) (n := 5) rfl (fun c hc => (hp2274 c hc).2)
  refine own_lift CW SW2267 ?_
  intro vm2276 C S2277 rb2278
  have f2279 := (Exa.ext E2268 f2246)
  have f2280 := (Fld.ext E2268 f2247)
  have f2281 := (Fld.ext E2268 f2248)
  have f2282 := (f2249.ext E2268)
  have f2283 := (f2250.ext E2268)
  refine own_callV C S2277 (own_wd hw 120 rfl) (own_wd hw 106 rfl) (own_wd hw 108 rfl) (own_wd hw 108 rfl) rfl (own_wd hw 107 rfl) (by decide) (Q := (fun v h' L => ((v = some (.int 1) ∧ xcs = ([112, 111, 105, 110, 116] : List Int32)) ∨ (v = some (.int 0) ∧ ¬ xcs = ([112, 111, 105, 110, 116] : List Int32))) ∧ L = [] ∧ h' = h2263)) (StrChars.Road.eqW (W := 0) C.2.2.2.2.2.2.2 (fun d hd => hw d (own_heq d hd)) (kI := 4) (own_wd hw 61 rfl) f2279 f2280 f2281 f2282 (own_codG xhp) (own_up _ xhp) (Nat.le_trans xhl (by decide)) x2269 f2271 f2270 f2272 hcd2275 (own_up _ hp2274) (Nat.le_of_ble_eq_true rfl) (O2.ext f2283.2) P5 (by decide) (by decide)) (fun _ _ L q => by rw [q.2.1]; exact Fr.nil _) f2279 [(.ref a2264)] [] rfl own_pd5 rfl rfl rfl (Nat.le_of_ble_eq_true rfl) (by decide) (by decide) (by decide +kernel) ?_
  rintro T2288 h2289 v2290 L2291 S2292 ⟨d2287, -, e2284⟩
  rw [e2284] at S2292; clear e2284
  obtain rfl : v2290 = some (.int 0) := d2287.elim (fun q => absurd q.2 hv.2.2.2.2) (fun q => q.1)
  show own_Go p e below _ T2288 (mkF m 64 #[.val (.ref x)] [(.int 0)])
  refine own_if C S2292 (q := .eq) (o := 7) (by decide +kernel) 71 (by decide) (by decide) (fun (q2293 : (0 : Int32) = (0 : Int32)) => ?_) (fun (hq : ¬ (0 : Int32) = (0 : Int32)) => False.elim (by revert hq; decide))
  refine own_seg C S2292 [(71, .aconst_null, 1)] (by decide +kernel) 72 #[.val (.ref x)] [.null] rfl ?_
  have SW2294 := rb2278 _ _ _ _ [] [] S2292 (Keep.refl _ _) all0 all0
  refine own_retAW CW SW2294 rfl rfl (by decide +kernel) (by decide) (by decide) ?_
  exact ⟨rfl, ((((((Keep.refl _ _).ext E2136).ext E2169).ext E2202).ext E2235).ext E2268)⟩
theorem own_exN (l : Launch) (Z : State) (a0 : Array Value) (hw : ∀ d ∈ tables_1, d.before a0 Z = true) (h0 : Heap) (n0 : Nat) (z0 : n0 ≤ h0.size) :
    own_Met l Z (⟨"com/example/persephone/persephone/lucene/FieldKindLabelledPinLaw", "expected", "(Ljava/lang/String;)Lcom/example/persephone/persephone/lucene/FieldKind;"⟩ : MethodName) method_6_code 1 (some (.object "com/example/persephone/persephone/lucene/FieldKind")) ({ frames := 0, cells := 0, slots := 0, locals := 0 } : Room) n0 #[.null] h0 (fun v h => v = some .null ∧ h = h0) := by
  refine own_met (by decide +kernel) #[.val .null] (fun m => by first | (simp [entryFrame, mkF, argsToLocals, Value.category]; done) | rfl) ?_
  intro p e s m below meth c T0 C S0
  refine own_seg C S0 [(0, .aload_n 0, 1), (1, .ifnonnull 5, 3), (4, .aconst_null, 1)] (by decide +kernel) 5 #[.val .null] [.null] rfl ?_
  refine own_retA C S0 rfl rfl (by decide +kernel) (by decide) (by decide) ?_
  exact ⟨rfl, rfl⟩
theorem own_pd6 : parseMethodDescriptor "(I)Lcom/example/persephone/persephone/lucene/FieldKind;" = some ⟨[.int], (some (.object "com/example/persephone/persephone/lucene/FieldKind"))⟩ := by decide +kernel
theorem own_pd7 : parseMethodDescriptor "()Ljava/lang/String;" = some ⟨[], (some (.object "java/lang/String"))⟩ := by decide +kernel
theorem own_pd8 : parseMethodDescriptor "(Ljava/lang/String;IC)C" = some ⟨[(.object "java/lang/String"), .int, .char], (some .char)⟩ := by decide +kernel
theorem own_pd9 : parseMethodDescriptor "([CI)Ljava/lang/String;" = some ⟨[(.array .char), .int], (some (.object "java/lang/String"))⟩ := by decide +kernel
theorem own_pd10 : parseMethodDescriptor "(Ljava/lang/String;)Lcom/example/persephone/persephone/lucene/FieldKind;" = some ⟨[(.object "java/lang/String")], (some (.object "com/example/persephone/persephone/lucene/FieldKind"))⟩ := by decide +kernel
theorem own_law (l : Launch) (Z : State) (a0 : Array Value) (hw : ∀ d ∈ tables_1, d.before a0 Z = true) (hEL : EW Z a0 own_EL) (wS : ∀ a ∈ Bundle.stringAtoms, a.before a0 Z = true) (G1 : Int32) (G3 : Value) (kda : Addr) (kdb : Addr) (kdc : Addr) (kdd : Addr) (kde : Addr) (lsa : Addr) (lsat : Addr) (lsak : ClassId) (lsb : Addr) (lsbt : Addr) (lsbk : ClassId) (lsc : Addr) (lsct : Addr) (lsck : ClassId) (lsd : Addr) (lsdt : Addr) (lsdk : ClassId) (lse : Addr) (lset : Addr) (lsek : ClassId) (VA : Addr) (VAk : ClassId) (i0 : Int32) (i1 : Int32) (i2 : Int32) (i3 : Int32) (i4 : Int32) (i5 : Int32) (h0 : Heap) (n0 : Nat) (z0 : n0 ≤ h0.size) (X00 : Old Z n0 h0) (pa1 : Exa Z h0 kda "com/example/persephone/persephone/lucene/FieldKind") (pa2 : Fld Z h0 kda "com/example/persephone/persephone/lucene/FieldKind" "label" "Ljava/lang/String;" (.ref lsa)) (pa3 : Exa Z h0 lsa "java/lang/String") (pa4 : Fld Z h0 lsa "java/lang/String" "value" "[B" (.ref lsat)) (pa5 : Fld Z h0 lsa "java/lang/String" "coder" "B" (.int 0)) (pa6 : Arv Z h0 lsat lsak .byte (Int32.ofNat (own_L0).length) (own_sv own_L0) (.int 0)) (pb1 : Exa Z h0 kdb "com/example/persephone/persephone/lucene/FieldKind") (pb2 : Fld Z h0 kdb "com/example/persephone/persephone/lucene/FieldKind" "label" "Ljava/lang/String;" (.ref lsb)) (pb3 : Exa Z h0 lsb "java/lang/String") (pb4 : Fld Z h0 lsb "java/lang/String" "value" "[B" (.ref lsbt)) (pb5 : Fld Z h0 lsb "java/lang/String" "coder" "B" (.int 0)) (pb6 : Arv Z h0 lsbt lsbk .byte (Int32.ofNat (own_L1).length) (own_sv own_L1) (.int 0)) (pc1 : Exa Z h0 kdc "com/example/persephone/persephone/lucene/FieldKind") (pc2 : Fld Z h0 kdc "com/example/persephone/persephone/lucene/FieldKind" "label" "Ljava/lang/String;" (.ref lsc)) (pc3 : Exa Z h0 lsc "java/lang/String") (pc4 : Fld Z h0 lsc "java/lang/String" "value" "[B" (.ref lsct)) (pc5 : Fld Z h0 lsc "java/lang/String" "coder" "B" (.int 0)) (pc6 : Arv Z h0 lsct lsck .byte (Int32.ofNat (own_L2).length) (own_sv own_L2) (.int 0)) (pd1 : Exa Z h0 kdd "com/example/persephone/persephone/lucene/FieldKind") (pd2 : Fld Z h0 kdd "com/example/persephone/persephone/lucene/FieldKind" "label" "Ljava/lang/String;" (.ref lsd)) (pd3 : Exa Z h0 lsd "java/lang/String") (pd4 : Fld Z h0 lsd "java/lang/String" "value" "[B" (.ref lsdt)) (pd5 : Fld Z h0 lsd "java/lang/String" "coder" "B" (.int 0)) (pd6 : Arv Z h0 lsdt lsdk .byte (Int32.ofNat (own_L3).length) (own_sv own_L3) (.int 0)) (pe1 : Exa Z h0 kde "com/example/persephone/persephone/lucene/FieldKind") (pe2 : Fld Z h0 kde "com/example/persephone/persephone/lucene/FieldKind" "label" "Ljava/lang/String;" (.ref lse)) (pe3 : Exa Z h0 lse "java/lang/String") (pe4 : Fld Z h0 lse "java/lang/String" "value" "[B" (.ref lset)) (pe5 : Fld Z h0 lse "java/lang/String" "coder" "B" (.int 0)) (pe6 : Arv Z h0 lset lsek .byte (Int32.ofNat (own_L4).length) (own_sv own_L4) (.int 0)) (pV1 : Exa Z h0 VA "[Lcom/example/persephone/persephone/lucene/FieldKind;") (pV2 : Arv Z h0 VA VAk (.object "com/example/persephone/persephone/lucene/FieldKind") (5 : Int32) ([(.ref kda), (.ref kdb), (.ref kdc), (.ref kdd), (.ref kde)]) .null) (O2 : Sta Z Z.heap "java/lang/String" "COMPACT_STRINGS" "Z" (.int G1)) (O4 : Sta Z Z.heap "jdk/internal/util/Preconditions" "SIOOBE_FORMATTER" "Ljava/util/function/BiFunction;" G3) (P5 : ¬ G1 = (0 : Int32)) (rG3 : G3.isRef = true) (Oa : Sta Z Z.heap "com/example/persephone/persephone/lucene/FieldKind" "TEXT" "Lcom/example/persephone/persephone/lucene/FieldKind;" (.ref kda)) (Ob : Sta Z Z.heap "com/example/persephone/persephone/lucene/FieldKind" "KEYWORD" "Lcom/example/persephone/persephone/lucene/FieldKind;" (.ref kdb)) (Oc : Sta Z Z.heap "com/example/persephone/persephone/lucene/FieldKind" "NUMBER" "Lcom/example/persephone/persephone/lucene/FieldKind;" (.ref kdc)) (Od : Sta Z Z.heap "com/example/persephone/persephone/lucene/FieldKind" "DATE" "Lcom/example/persephone/persephone/lucene/FieldKind;" (.ref kdd)) (Oe : Sta Z Z.heap "com/example/persephone/persephone/lucene/FieldKind" "POINT" "Lcom/example/persephone/persephone/lucene/FieldKind;" (.ref kde)) (OV : Sta Z Z.heap "com/example/persephone/persephone/lucene/FieldKind" "$VALUES" "[Lcom/example/persephone/persephone/lucene/FieldKind;" (.ref VA)) :
    own_MetW l Z own_EL x code maxLocals ret room_1 n0 #[(.int i0), (.int i1), (.int i2), (.int i3), (.int i4), (.int i5)] h0 [] (fun v h => v = some (.int 1)) := by
  refine own_metW hEL wS (by decide +kernel) #[.val (.int i0), .val (.int i1), .val (.int i2), .val (.int i3), .val (.int i4), .val (.int i5), .unset, .unset, .unset, .unset, .unset, .unset, .unset] (fun m => by first | (simp [entryFrame, mkF, argsToLocals, Value.category, maxLocals]; done) | rfl) ?_
  intro p e s m below meth c T0 CW SW0
  refine own_lift CW SW0 ?_
  intro vm2295 C S2296 rb2297
  refine own_seg C S2296 [(0, .iload_n 0, 1)] (by decide +kernel) 1 #[.val (.int i0), .val (.int i1), .val (.int i2), .val (.int i3), .val (.int i4), .val (.int i5), .unset, .unset, .unset, .unset, .unset, .unset, .unset] [(.int i0)] rfl ?_
  refine own_ldc C S2296 (own_wd hw 0 rfl) (by decide +kernel) ?_
  refine own_seg C S2296 [(3, .iand, 1), (4, .iconst 5, 1)] (by decide +kernel) 5 #[.val (.int i0), .val (.int i1), .val (.int i2), .val (.int i3), .val (.int i4), .val (.int i5), .unset, .unset, .unset, .unset, .unset, .unset, .unset] [(.int 5), (.int (i0 &&& 2147483647))] rfl ?_
  refine own_irem C S2296 (by decide +kernel) (by decide) ?_
  refine own_callS C S2296 (own_wd hw 1 rfl) (own_wd hw 2 rfl) (own_wd hw 3 rfl) (own_wd hw 4 rfl) (by decide) (own_Met.pay (own_kd l Z a0 hw G1 G3 kda kdb kdc kdd kde lsa lsat lsak lsb lsbt lsbk lsc lsct lsck lsd lsdt lsdk lse lset lsek ((i0 &&& 2147483647) % (5 : Int32)) h0 n0 z0 X00 pa1 pa2 pa3 pa4 pa5 pa6 pb1 pb2 pb3 pb4 pb5 pb6 pc1 pc2 pc3 pc4 pc5 pc6 pd1 pd2 pd3 pd4 pd5 pd6 pe1 pe2 pe3 pe4 pe5 pe6 O2 O4 P5 rG3 Oa Ob Oc Od Oe) C 0 (own_wd hw 4 rfl) (own_wd hw 3 rfl) (by decide) (by decide)) (fun _ _ _ q => q.2) [(.int ((i0 &&& 2147483647) % (5 : Int32)))] [] rfl own_pd6 rfl rfl rfl (Nat.le_of_ble_eq_true rfl) (by decide) (by decide) (by decide +kernel) ?_
  rintro T2312 h2313 v2314 L2315 S2316 ⟨⟨a2298, a2299, a2300, k2301, y2302, rfl, e2303, f2304, f2305, f2306, f2307, f2308, f2309, p2310, p2311⟩, -⟩
  rw [e2303] at f2304 f2305 f2306 f2307 f2308 f2309
  rw [e2303] at S2316; clear e2303
  show own_Go p e below _ T2312 (mkF m 9 #[.val (.int i0), .val (.int i1), .val (.int i2), .val (.int i3), .val (.int i4), .val (.int i5), .unset, .unset, .unset, .unset, .unset, .unset, .unset] [(.ref a2298)])
  refine own_seg C S2316 [(9, .astore 6, 2), (11, .aload 6, 2)] (by decide +kernel) 13 #[.val (.int i0), .val (.int i1), .val (.int i2), .val (.int i3), .val (.int i4), .val (.int i5), .val (.ref a2298), .unset, .unset, .unset, .unset, .unset, .unset] [(.ref a2298)] rfl ?_
  refine own_callV C S2316 (own_wd hw 8 rfl) (own_wd hw 9 rfl) (own_wd hw 11 rfl) (own_wd hw 11 rfl) rfl (own_wd hw 10 rfl) (by decide) (own_Met.pay (own_ks l Z a0 hw a2298 a2299 h0 n0 z0 f2305) C 0 (own_wd hw 12 rfl) (own_wd hw 6 rfl) (by decide) (by decide)) (fun _ _ _ q => q.2) f2304 [] [] rfl own_pd7 rfl rfl rfl (Nat.le_of_ble_eq_true rfl) (by decide) (by decide) (by decide +kernel) ?_
  rintro T2318 h2319 v2320 L2321 S2322 ⟨⟨rfl, e2317⟩, -⟩
  rw [e2317] at S2322; clear e2317
  show own_Go p e below _ T2318 (mkF m 16 #[.val (.int i0), .val (.int i1), .val (.int i2), .val (.int i3), .val (.int i4), .val (.int i5), .val (.ref a2298), .unset, .unset, .unset, .unset, .unset, .unset] [(.ref a2299)])
  refine own_seg C S2322 [(16, .astore 7, 2), (18, .iload 4, 2), (20, .sipush 255, 3), (23, .iand, 1), (24, .i2c, 1)] (by decide +kernel) 25 #[.val (.int i0), .val (.int i1), .val (.int i2), .val (.int i3), .val (.int i4), .val (.int i5), .val (.ref a2298), .val (.ref a2299), .unset, .unset, .unset, .unset, .unset] [(.int ((i4 &&& (255 : Int32)).toUInt32.toUInt16.toUInt32.toInt32))] rfl ?_
  rw [show (i4 &&& (255 : Int32)).toUInt32.toUInt16.toUInt32.toInt32 = (i4 &&& (255 : Int32)) from i2c_mask i4]
  obtain ⟨z2323, hz2323⟩ : ∃ y, y = (i4 &&& (255 : Int32)) := ⟨_, rfl⟩
  rw [← hz2323]
  have hf : own_R z2323 := by rw [hz2323]; exact own_and255 _
  refine own_seg C S2322 [(25, .istore 8, 2), (27, .bipush 8, 2)] (by decide +kernel) 29 #[.val (.int i0), .val (.int i1), .val (.int i2), .val (.int i3), .val (.int i4), .val (.int i5), .val (.ref a2298), .val (.ref a2299), .val (.int z2323), .unset, .unset, .unset, .unset] [(.int 8)] rfl ?_
  refine own_newP C S2322 (aty := .char) (own_wd hw 15 rfl) (by decide +kernel) (by decide) 8 (by decide) (by decide) (by decide) (by decide) ?_
  intro T2324 h2326 a2327 k2328 S2325 g2329 E2330 f2331 
  have f2332 : Arv Z h2326 a2327 k2328 .char (8 : Int32) ([(.int 0), (.int 0), (.int 0), (.int 0), (.int 0), (.int 0), (.int 0), (.int 0)]) (.int 0) := Arv.pad f2331 (pad_rep [] (.int 0) 8)
  refine own_seg C S2325 [(31, .astore 9, 2), (33, .aload 9, 2), (35, .iconst 0, 1), (36, .aload 7, 2), (38, .iconst 0, 1), (39, .iload 8, 2)] (by decide +kernel) 41 #[.val (.int i0), .val (.int i1), .val (.int i2), .val (.int i3), .val (.int i4), .val (.int i5), .val (.ref a2298), .val (.ref a2299), .val (.int z2323), .val (.ref a2327), .unset, .unset, .unset] [(.int z2323), (.int 0), (.ref a2299), (.int 0), (.ref a2327)] rfl ?_
  have f2333 := (X00.ext E2330)
  have f2334 := (Exa.ext E2330 f2306)
  have f2335 := (Fld.ext E2330 f2307)
  have f2336 := (Fld.ext E2330 f2308)
  have f2337 := (f2309.ext E2330)
  have f2338 : n0 ≤ h2326.size := (Nat.le_trans z0 E2330.1)
  refine own_callS C S2325 (own_wd hw 16 rfl) (own_wd hw 17 rfl) (own_wd hw 3 rfl) (own_wd hw 18 rfl) (by decide) (own_Met.pay (own_atc l Z a0 hw G1 G3 a2299 _ _ y2302 0 z2323 h2326 n0 f2338 f2333 f2334 f2335 f2336 f2337 O2 O4 P5 rG3 p2310 p2311 (by decide) hf) C 2 (own_wd hw 18 rfl) (own_wd hw 3 rfl) (by decide) (by decide)) (fun _ _ _ q => q.2) [(.ref a2299), (.int 0), (.int z2323)] [(.int 0), (.ref a2327)] rfl own_pd8 rfl rfl rfl (Nat.le_of_ble_eq_true rfl) (by decide) (by decide) (by decide +kernel) ?_
  rintro T2340 h2341 v2342 L2343 S2344 ⟨⟨rfl, e2339⟩, -⟩
  rw [e2339] at S2344; clear e2339
  show own_Go p e below _ T2340 (mkF m 44 #[.val (.int i0), .val (.int i1), .val (.int i2), .val (.int i3), .val (.int i4), .val (.int i5), .val (.ref a2298), .val (.ref a2299), .val (.int z2323), .val (.ref a2327), .unset, .unset, .unset] [(.int (own_at y2302 0 z2323)), (.int 0), (.ref a2327)])
  obtain ⟨z2345, hz2345⟩ : ∃ y, y = (own_at y2302 0 z2323) := ⟨_, rfl⟩
  rw [← hz2345]
  have r2346 : own_R z2345 := by rw [hz2345]; exact own_at_R p2310 hf
  have g2347 : n0 ≤ a2327 := by rw [g2329]; exact z0
  refine own_castore C S2344 f2332 ⟨(by decide), (by decide)⟩ 0 rfl (Nat.le_of_ble_eq_true rfl) z2345 (own_c16 r2346) g2347 (by decide +kernel) ?_
  intro T2348 h2350 S2349 W2351 f2352
  have f2353 : Arv Z h2350 a2327 k2328 .char (8 : Int32) ([(.int z2345), (.int 0), (.int 0), (.int 0), (.int 0), (.int 0), (.int 0), (.int 0)]) (.int 0) := f2352
  refine own_seg C S2349 [(45, .aload 9, 2), (47, .iconst 1, 1), (48, .aload 7, 2), (50, .iconst 1, 1), (51, .iload 8, 2)] (by decide +kernel) 53 #[.val (.int i0), .val (.int i1), .val (.int i2), .val (.int i3), .val (.int i4), .val (.int i5), .val (.ref a2298), .val (.ref a2299), .val (.int z2323), .val (.ref a2327), .unset, .unset, .unset] [(.int z2323), (.int 1), (.ref a2299), (.int 1), (.ref a2327)] rfl ?_
  have f2354 := (f2333.wr W2351 g2347)
  have f2355 := (Exa.wr W2351 f2334)
  have n2356 : a2299 ≠ a2327 := by rw [g2329]; exact Nat.ne_of_lt f2306.lt
  have f2357 := (Fld.other W2351 f2335 (Or.inl n2356))
  have f2358 := (Fld.other W2351 f2336 (Or.inl n2356))
  have n2359 : a2300 ≠ a2327 := by rw [g2329]; exact Nat.ne_of_lt f2309.lt
  have f2360 := (f2337.other W2351 n2359)
  have f2361 : n0 ≤ h2350.size := (by rw [W2351.size]; exact f2338)
  refine own_callS C S2349 (own_wd hw 16 rfl) (own_wd hw 17 rfl) (own_wd hw 3 rfl) (own_wd hw 18 rfl) (by decide) (own_Met.pay (own_atc l Z a0 hw G1 G3 a2299 _ _ y2302 1 z2323 h2350 n0 f2361 f2354 f2355 f2357 f2358 f2360 O2 O4 P5 rG3 p2310 p2311 (by decide) hf) C 2 (own_wd hw 18 rfl) (own_wd hw 3 rfl) (by decide) (by decide)) (fun _ _ _ q => q.2) [(.ref a2299), (.int 1), (.int z2323)] [(.int 1), (.ref a2327)] rfl own_pd8 rfl rfl rfl (Nat.le_of_ble_eq_true rfl) (by decide) (by decide) (by decide +kernel) ?_
  rintro T2363 h2364 v2365 L2366 S2367 ⟨⟨rfl, e2362⟩, -⟩
  rw [e2362] at S2367; clear e2362
  show own_Go p e below _ T2363 (mkF m 56 #[.val (.int i0), .val (.int i1), .val (.int i2), .val (.int i3), .val (.int i4), .val (.int i5), .val (.ref a2298), .val (.ref a2299), .val (.int z2323), .val (.ref a2327), .unset, .unset, .unset] [(.int (own_at y2302 1 z2323)), (.int 1), (.ref a2327)])
  obtain ⟨z2368, hz2368⟩ : ∃ y, y = (own_at y2302 1 z2323) := ⟨_, rfl⟩
  rw [← hz2368]
  have r2369 : own_R z2368 := by rw [hz2368]; exact own_at_R p2310 hf
  refine own_castore C S2367 f2353 ⟨(by decide), (by decide)⟩ 1 rfl (Nat.le_of_ble_eq_true rfl) z2368 (own_c16 r2369) g2347 (by decide +kernel) ?_
  intro T2370 h2372 S2371 W2373 f2374
  have f2375 : Arv Z h2372 a2327 k2328 .char (8 : Int32) ([(.int z2345), (.int z2368), (.int 0), (.int 0), (.int 0), (.int 0), (.int 0), (.int 0)]) (.int 0) := f2374
  refine own_seg C S2371 [(57, .aload 9, 2), (59, .iconst 2, 1), (60, .aload 7, 2), (62, .iconst 2, 1), (63, .iload 8, 2)] (by decide +kernel) 65 #[.val (.int i0), .val (.int i1), .val (.int i2), .val (.int i3), .val (.int i4), .val (.int i5), .val (.ref a2298), .val (.ref a2299), .val (.int z2323), .val (.ref a2327), .unset, .unset, .unset] [(.int z2323), (.int 2), (.ref a2299), (.int 2), (.ref a2327)] rfl ?_
  have f2376 := (f2354.wr W2373 g2347)
  have f2377 := (Exa.wr W2373 f2355)
  have f2378 := (Fld.other W2373 f2357 (Or.inl n2356))
  have f2379 := (Fld.other W2373 f2358 (Or.inl n2356))
  have f2380 := (f2360.other W2373 n2359)
  have f2381 : n0 ≤ h2372.size := (by rw [W2373.size]; exact f2361)
  refine own_callS C S2371 (own_wd hw 16 rfl) (own_wd hw 17 rfl) (own_wd hw 3 rfl) (own_wd hw 18 rfl) (by decide) (own_Met.pay (own_atc l Z a0 hw G1 G3 a2299 _ _ y2302 2 z2323 h2372 n0 f2381 f2376 f2377 f2378 f2379 f2380 O2 O4 P5 rG3 p2310 p2311 (by decide) hf) C 2 (own_wd hw 18 rfl) (own_wd hw 3 rfl) (by decide) (by decide)) (fun _ _ _ q => q.2) [(.ref a2299), (.int 2), (.int z2323)] [(.int 2), (.ref a2327)] rfl own_pd8 rfl rfl rfl (Nat.le_of_ble_eq_true rfl) (by decide) (by decide) (by decide +kernel) ?_
  rintro T2383 h2384 v2385 L2386 S2387 ⟨⟨rfl, e2382⟩, -⟩
  rw [e2382] at S2387; clear e2382
  show own_Go p e below _ T2383 (mkF m 68 #[.val (.int i0), .val (.int i1), .val (.int i2), .val (.int i3), .val (.int i4), .val (.int i5), .val (.ref a2298), .val (.ref a2299), .val (.int z2323), .val (.ref a2327), .unset, .unset, .unset] [(.int (own_at y2302 2 z2323)), (.int 2), (.ref a2327)])
  obtain ⟨z2388, hz2388⟩ : ∃ y, y = (own_at y2302 2 z2323) := ⟨_, rfl⟩
  rw [← hz2388]
  have r2389 : own_R z2388 := by rw [hz2388]; exact own_at_R p2310 hf
  refine own_castore C S2387 f2375 ⟨(by decide), (by decide)⟩ 2 rfl (Nat.le_of_ble_eq_true rfl) z2388 (own_c16 r2389) g2347 (by decide +kernel) ?_
  intro T2390 h2392 S2391 W2393 f2394
  have f2395 : Arv Z h2392 a2327 k2328 .char (8 : Int32) ([(.int z2345), (.int z2368), (.int z2388), (.int 0), (.int 0), (.int 0), (.int 0), (.int 0)]) (.int 0) := f2394
  refine own_seg C S2391 [(69, .aload 9, 2), (71, .iconst 3, 1), (72, .aload 7, 2), (74, .iconst 3, 1), (75, .iload 8, 2)] (by decide +kernel) 77 #[.val (.int i0), .val (.int i1), .val (.int i2), .val (.int i3), .val (.int i4), .val (.int i5), .val (.ref a2298), .val (.ref a2299), .val (.int z2323), .val (.ref a2327), .unset, .unset, .unset] [(.int z2323), (.int 3), (.ref a2299), (.int 3), (.ref a2327)] rfl ?_
  have f2396 := (f2376.wr W2393 g2347)
  have f2397 := (Exa.wr W2393 f2377)
  have f2398 := (Fld.other W2393 f2378 (Or.inl n2356))
  have f2399 := (Fld.other W2393 f2379 (Or.inl n2356))
  have f2400 := (f2380.other W2393 n2359)
  have f2401 : n0 ≤ h2392.size := (by rw [W2393.size]; exact f2381)
  refine own_callS C S2391 (own_wd hw 16 rfl) (own_wd hw 17 rfl) (own_wd hw 3 rfl) (own_wd hw 18 rfl) (by decide) (own_Met.pay (own_atc l Z a0 hw G1 G3 a2299 _ _ y2302 3 z2323 h2392 n0 f2401 f2396 f2397 f2398 f2399 f2400 O2 O4 P5 rG3 p2310 p2311 (by decide) hf) C 2 (own_wd hw 18 rfl) (own_wd hw 3 rfl) (by decide) (by decide)) (fun _ _ _ q => q.2) [(.ref a2299), (.int 3), (.int z2323)] [(.int 3), (.ref a2327)] rfl own_pd8 rfl rfl rfl (Nat.le_of_ble_eq_true rfl) (by decide) (by decide) (by decide +kernel) ?_
  rintro T2403 h2404 v2405 L2406 S2407 ⟨⟨rfl, e2402⟩, -⟩
  rw [e2402] at S2407; clear e2402
  show own_Go p e below _ T2403 (mkF m 80 #[.val (.int i0), .val (.int i1), .val (.int i2), .val (.int i3), .val (.int i4), .val (.int i5), .val (.ref a2298), .val (.ref a2299), .val (.int z2323), .val (.ref a2327), .unset, .unset, .unset] [(.int (own_at y2302 3 z2323)), (.int 3), (.ref a2327)])
  obtain ⟨z2408, hz2408⟩ : ∃ y, y = (own_at y2302 3 z2323) := ⟨_, rfl⟩
  rw [← hz2408]
  have r2409 : own_R z2408 := by rw [hz2408]; exact own_at_R p2310 hf
  refine own_castore C S2407 f2395 ⟨(by decide), (by decide)⟩ 3 rfl (Nat.le_of_ble_eq_true rfl) z2408 (own_c16 r2409) g2347 (by decide +kernel) ?_
  intro T2410 h2412 S2411 W2413 f2414
  have f2415 : Arv Z h2412 a2327 k2328 .char (8 : Int32) ([(.int z2345), (.int z2368), (.int z2388), (.int z2408), (.int 0), (.int 0), (.int 0), (.int 0)]) (.int 0) := f2414
  refine own_seg C S2411 [(81, .aload 9, 2), (83, .iconst 4, 1), (84, .aload 7, 2), (86, .iconst 4, 1), (87, .iload 8, 2)] (by decide +kernel) 89 #[.val (.int i0), .val (.int i1), .val (.int i2), .val (.int i3), .val (.int i4), .val (.int i5), .val (.ref a2298), .val (.ref a2299), .val (.int z2323), .val (.ref a2327), .unset, .unset, .unset] [(.int z2323), (.int 4), (.ref a2299), (.int 4), (.ref a2327)] rfl ?_
  have f2416 := (f2396.wr W2413 g2347)
  have f2417 := (Exa.wr W2413 f2397)
  have f2418 := (Fld.other W2413 f2398 (Or.inl n2356))
  have f2419 := (Fld.other W2413 f2399 (Or.inl n2356))
  have f2420 := (f2400.other W2413 n2359)
  have f2421 : n0 ≤ h2412.size := (by rw [W2413.size]; exact f2401)
  refine own_callS C S2411 (own_wd hw 16 rfl) (own_wd hw 17 rfl) (own_wd hw 3 rfl) (own_wd hw 18 rfl) (by decide) (own_Met.pay (own_atc l Z a0 hw G1 G3 a2299 _ _ y2302 4 z2323 h2412 n0 f2421 f2416 f2417 f2418 f2419 f2420 O2 O4 P5 rG3 p2310 p2311 (by decide) hf) C 2 (own_wd hw 18 rfl) (own_wd hw 3 rfl) (by decide) (by decide)) (fun _ _ _ q => q.2) [(.ref a2299), (.int 4), (.int z2323)] [(.int 4), (.ref a2327)] rfl own_pd8 rfl rfl rfl (Nat.le_of_ble_eq_true rfl) (by decide) (by decide) (by decide +kernel) ?_
  rintro T2423 h2424 v2425 L2426 S2427 ⟨⟨rfl, e2422⟩, -⟩
  rw [e2422] at S2427; clear e2422
  show own_Go p e below _ T2423 (mkF m 92 #[.val (.int i0), .val (.int i1), .val (.int i2), .val (.int i3), .val (.int i4), .val (.int i5), .val (.ref a2298), .val (.ref a2299), .val (.int z2323), .val (.ref a2327), .unset, .unset, .unset] [(.int (own_at y2302 4 z2323)), (.int 4), (.ref a2327)])
  obtain ⟨z2428, hz2428⟩ : ∃ y, y = (own_at y2302 4 z2323) := ⟨_, rfl⟩
  rw [← hz2428]
  have r2429 : own_R z2428 := by rw [hz2428]; exact own_at_R p2310 hf
  refine own_castore C S2427 f2415 ⟨(by decide), (by decide)⟩ 4 rfl (Nat.le_of_ble_eq_true rfl) z2428 (own_c16 r2429) g2347 (by decide +kernel) ?_
  intro T2430 h2432 S2431 W2433 f2434
  have f2435 : Arv Z h2432 a2327 k2328 .char (8 : Int32) ([(.int z2345), (.int z2368), (.int z2388), (.int z2408), (.int z2428), (.int 0), (.int 0), (.int 0)]) (.int 0) := f2434
  refine own_seg C S2431 [(93, .aload 9, 2), (95, .iconst 5, 1), (96, .aload 7, 2), (98, .iconst 5, 1), (99, .iload 8, 2)] (by decide +kernel) 101 #[.val (.int i0), .val (.int i1), .val (.int i2), .val (.int i3), .val (.int i4), .val (.int i5), .val (.ref a2298), .val (.ref a2299), .val (.int z2323), .val (.ref a2327), .unset, .unset, .unset] [(.int z2323), (.int 5), (.ref a2299), (.int 5), (.ref a2327)] rfl ?_
  have f2436 := (f2416.wr W2433 g2347)
  have f2437 := (Exa.wr W2433 f2417)
  have f2438 := (Fld.other W2433 f2418 (Or.inl n2356))
  have f2439 := (Fld.other W2433 f2419 (Or.inl n2356))
  have f2440 := (f2420.other W2433 n2359)
  have f2441 : n0 ≤ h2432.size := (by rw [W2433.size]; exact f2421)
  refine own_callS C S2431 (own_wd hw 16 rfl) (own_wd hw 17 rfl) (own_wd hw 3 rfl) (own_wd hw 18 rfl) (by decide) (own_Met.pay (own_atc l Z a0 hw G1 G3 a2299 _ _ y2302 5 z2323 h2432 n0 f2441 f2436 f2437 f2438 f2439 f2440 O2 O4 P5 rG3 p2310 p2311 (by decide) hf) C 2 (own_wd hw 18 rfl) (own_wd hw 3 rfl) (by decide) (by decide)) (fun _ _ _ q => q.2) [(.ref a2299), (.int 5), (.int z2323)] [(.int 5), (.ref a2327)] rfl own_pd8 rfl rfl rfl (Nat.le_of_ble_eq_true rfl) (by decide) (by decide) (by decide +kernel) ?_
  rintro T2443 h2444 v2445 L2446 S2447 ⟨⟨rfl, e2442⟩, -⟩
  rw [e2442] at S2447; clear e2442
  show own_Go p e below _ T2443 (mkF m 104 #[.val (.int i0), .val (.int i1), .val (.int i2), .val (.int i3), .val (.int i4), .val (.int i5), .val (.ref a2298), .val (.ref a2299), .val (.int z2323), .val (.ref a2327), .unset, .unset, .unset] [(.int (own_at y2302 5 z2323)), (.int 5), (.ref a2327)])
  obtain ⟨z2448, hz2448⟩ : ∃ y, y = (own_at y2302 5 z2323) := ⟨_, rfl⟩
  rw [← hz2448]
  have r2449 : own_R z2448 := by rw [hz2448]; exact own_at_R p2310 hf
  refine own_castore C S2447 f2435 ⟨(by decide), (by decide)⟩ 5 rfl (Nat.le_of_ble_eq_true rfl) z2448 (own_c16 r2449) g2347 (by decide +kernel) ?_
  intro T2450 h2452 S2451 W2453 f2454
  have f2455 : Arv Z h2452 a2327 k2328 .char (8 : Int32) ([(.int z2345), (.int z2368), (.int z2388), (.int z2408), (.int z2428), (.int z2448), (.int 0), (.int 0)]) (.int 0) := f2454
  refine own_seg C S2451 [(105, .aload 9, 2), (107, .bipush 6, 2), (109, .aload 7, 2), (111, .bipush 6, 2), (113, .iload 8, 2)] (by decide +kernel) 115 #[.val (.int i0), .val (.int i1), .val (.int i2), .val (.int i3), .val (.int i4), .val (.int i5), .val (.ref a2298), .val (.ref a2299), .val (.int z2323), .val (.ref a2327), .unset, .unset, .unset] [(.int z2323), (.int 6), (.ref a2299), (.int 6), (.ref a2327)] rfl ?_
  have f2456 := (f2436.wr W2453 g2347)
  have f2457 := (Exa.wr W2453 f2437)
  have f2458 := (Fld.other W2453 f2438 (Or.inl n2356))
  have f2459 := (Fld.other W2453 f2439 (Or.inl n2356))
  have f2460 := (f2440.other W2453 n2359)
  have f2461 : n0 ≤ h2452.size := (by rw [W2453.size]; exact f2441)
  refine own_callS C S2451 (own_wd hw 16 rfl) (own_wd hw 17 rfl) (own_wd hw 3 rfl) (own_wd hw 18 rfl) (by decide) (own_Met.pay (own_atc l Z a0 hw G1 G3 a2299 _ _ y2302 6 z2323 h2452 n0 f2461 f2456 f2457 f2458 f2459 f2460 O2 O4 P5 rG3 p2310 p2311 (by decide) hf) C 2 (own_wd hw 18 rfl) (own_wd hw 3 rfl) (by decide) (by decide)) (fun _ _ _ q => q.2) [(.ref a2299), (.int 6), (.int z2323)] [(.int 6), (.ref a2327)] rfl own_pd8 rfl rfl rfl (Nat.le_of_ble_eq_true rfl) (by decide) (by decide) (by decide +kernel) ?_
  rintro T2463 h2464 v2465 L2466 S2467 ⟨⟨rfl, e2462⟩, -⟩
  rw [e2462] at S2467; clear e2462
  show own_Go p e below _ T2463 (mkF m 118 #[.val (.int i0), .val (.int i1), .val (.int i2), .val (.int i3), .val (.int i4), .val (.int i5), .val (.ref a2298), .val (.ref a2299), .val (.int z2323), .val (.ref a2327), .unset, .unset, .unset] [(.int (own_at y2302 6 z2323)), (.int 6), (.ref a2327)])
  obtain ⟨z2468, hz2468⟩ : ∃ y, y = (own_at y2302 6 z2323) := ⟨_, rfl⟩
  rw [← hz2468]
  have r2469 : own_R z2468 := by rw [hz2468]; exact own_at_R p2310 hf
  refine own_castore C S2467 f2455 ⟨(by decide), (by decide)⟩ 6 rfl (Nat.le_of_ble_eq_true rfl) z2468 (own_c16 r2469) g2347 (by decide +kernel) ?_
  intro T2470 h2472 S2471 W2473 f2474
  have f2475 : Arv Z h2472 a2327 k2328 .char (8 : Int32) ([(.int z2345), (.int z2368), (.int z2388), (.int z2408), (.int z2428), (.int z2448), (.int z2468), (.int 0)]) (.int 0) := f2474
  refine own_seg C S2471 [(119, .aload 9, 2), (121, .bipush 7, 2), (123, .aload 7, 2), (125, .bipush 7, 2), (127, .iload 8, 2)] (by decide +kernel) 129 #[.val (.int i0), .val (.int i1), .val (.int i2), .val (.int i3), .val (.int i4), .val (.int i5), .val (.ref a2298), .val (.ref a2299), .val (.int z2323), .val (.ref a2327), .unset, .unset, .unset] [(.int z2323), (.int 7), (.ref a2299), (.int 7), (.ref a2327)] rfl ?_
  have f2476 := (f2456.wr W2473 g2347)
  have f2477 := (Exa.wr W2473 f2457)
  have f2478 := (Fld.other W2473 f2458 (Or.inl n2356))
  have f2479 := (Fld.other W2473 f2459 (Or.inl n2356))
  have f2480 := (f2460.other W2473 n2359)
  have f2481 : n0 ≤ h2472.size := (by rw [W2473.size]; exact f2461)
  refine own_callS C S2471 (own_wd hw 16 rfl) (own_wd hw 17 rfl) (own_wd hw 3 rfl) (own_wd hw 18 rfl) (by decide) (own_Met.pay (own_atc l Z a0 hw G1 G3 a2299 _ _ y2302 7 z2323 h2472 n0 f2481 f2476 f2477 f2478 f2479 f2480 O2 O4 P5 rG3 p2310 p2311 (by decide) hf) C 2 (own_wd hw 18 rfl) (own_wd hw 3 rfl) (by decide) (by decide)) (fun _ _ _ q => q.2) [(.ref a2299), (.int 7), (.int z2323)] [(.int 7), (.ref a2327)] rfl own_pd8 rfl rfl rfl (Nat.le_of_ble_eq_true rfl) (by decide) (by decide) (by decide +kernel) ?_
  rintro T2483 h2484 v2485 L2486 S2487 ⟨⟨rfl, e2482⟩, -⟩
  rw [e2482] at S2487; clear e2482
  show own_Go p e below _ T2483 (mkF m 132 #[.val (.int i0), .val (.int i1), .val (.int i2), .val (.int i3), .val (.int i4), .val (.int i5), .val (.ref a2298), .val (.ref a2299), .val (.int z2323), .val (.ref a2327), .unset, .unset, .unset] [(.int (own_at y2302 7 z2323)), (.int 7), (.ref a2327)])
  obtain ⟨z2488, hz2488⟩ : ∃ y, y = (own_at y2302 7 z2323) := ⟨_, rfl⟩
  rw [← hz2488]
  have r2489 : own_R z2488 := by rw [hz2488]; exact own_at_R p2310 hf
  refine own_castore C S2487 f2475 ⟨(by decide), (by decide)⟩ 7 rfl (Nat.le_of_ble_eq_true rfl) z2488 (own_c16 r2489) g2347 (by decide +kernel) ?_
  intro T2490 h2492 S2491 W2493 f2494
  have f2495 : Arv Z h2492 a2327 k2328 .char (8 : Int32) ([(.int z2345), (.int z2368), (.int z2388), (.int z2408), (.int z2428), (.int z2448), (.int z2468), (.int z2488)]) (.int 0) := f2494
  refine own_seg C S2491 [(133, .iload 5, 2), (135, .iconst 4, 1), (136, .iand, 1)] (by decide +kernel) 137 #[.val (.int i0), .val (.int i1), .val (.int i2), .val (.int i3), .val (.int i4), .val (.int i5), .val (.ref a2298), .val (.ref a2299), .val (.int z2323), .val (.ref a2327), .unset, .unset, .unset] [(.int (i5 &&& (4 : Int32)))] rfl ?_
  have hp2496 : ∀ c ∈ ([z2345, z2368, z2388, z2408, z2428, z2448, z2468, z2488] : List Int32), ¬ c < 0 ∧ ¬ (255 : Int32) < c := by
    intro c hc; simp only [List.mem_cons, List.not_mem_nil, or_false] at hc
    rcases hc with rfl | rfl | rfl | rfl | rfl | rfl | rfl | rfl
    · exact r2346
    · exact r2369
    · exact r2389
    · exact r2409
    · exact r2429
    · exact r2449
    · exact r2469
    · exact r2489
  have o2501 : h0.size ≤ a2327 := by rw [g2329]; exact (Nat.le_refl _)
  have J153 : ∀ (T2498 : State) (h2497 : Heap) (xs : List Int32), own_S p l e room_1 (s.setVm vm2295) m #[(.int i0), (.int i1), (.int i2), (.int i3), (.int i4), (.int i5)] below meth c n0 T2498 h2497 1 8 → Keep h0 h2497 [] → Arv Z h2497 a2327 k2328 .char (8 : Int32) (own_iv xs) (.int 0) → (∀ c ∈ xs, ¬ c < 0 ∧ ¬ (255 : Int32) < c) → (xs.length = 8) → own_Go p e below (own_EnW s n0 Z own_EL (fun v h => v = some (.int 1)) room_1.cells room_1.slots) T2498 (mkF m 153 #[.val (.int i0), .val (.int i1), .val (.int i2), .val (.int i3), .val (.int i4), .val (.int i5), .val (.ref a2298), .val (.ref a2299), .val (.int z2323), .val (.ref a2327), .unset, .unset, .unset] []) := by
    intro T2498 h2497 xs S2499 K2500 aK hx hx8
    refine own_seg C S2499 [(153, .iload 5, 2), (155, .bipush 8, 2), (157, .iand, 1)] (by decide +kernel) 158 #[.val (.int i0), .val (.int i1), .val (.int i2), .val (.int i3), .val (.int i4), .val (.int i5), .val (.ref a2298), .val (.ref a2299), .val (.int z2323), .val (.ref a2327), .unset, .unset, .unset] [(.int (i5 &&& (8 : Int32)))] rfl ?_
    have J176 : ∀ (T2502 : State) (n : Int32), own_S p l e room_1 (s.setVm vm2295) m #[(.int i0), (.int i1), (.int i2), (.int i3), (.int i4), (.int i5)] below meth c n0 T2502 h2497 1 8 → own_Go p e below (own_EnW s n0 Z own_EL (fun v h => v = some (.int 1)) room_1.cells room_1.slots) T2502 (mkF m 176 #[.val (.int i0), .val (.int i1), .val (.int i2), .val (.int i3), .val (.int i4), .val (.int i5), .val (.ref a2298), .val (.ref a2299), .val (.int z2323), .val (.ref a2327), .unset, .unset, .unset] [(.int n)]) := by
      intro T2502 n S2503
      refine own_seg C S2503 [(176, .istore 10, 2), (178, .iload 5, 2), (180, .bipush 48, 2), (182, .iand, 1), (183, .bipush 48, 2)] (by decide +kernel) 185 #[.val (.int i0), .val (.int i1), .val (.int i2), .val (.int i3), .val (.int i4), .val (.int i5), .val (.ref a2298), .val (.ref a2299), .val (.int z2323), .val (.ref a2327), .val (.int n), .unset, .unset] [(.int 48), (.int (i5 &&& (48 : Int32)))] rfl ?_
      refine own_icmp C S2503 (q := .ne) (o := 7) (by decide +kernel) 192 (by decide) (by decide) (fun (q2504 : ¬ (i5 &&& (48 : Int32)) = (48 : Int32)) => ?_) (fun (q2505 : (i5 &&& (48 : Int32)) = (48 : Int32)) => ?_)
      · refine own_seg C S2503 [(192, .aload 9, 2), (194, .iload 10, 2)] (by decide +kernel) 196 #[.val (.int i0), .val (.int i1), .val (.int i2), .val (.int i3), .val (.int i4), .val (.int i5), .val (.ref a2298), .val (.ref a2299), .val (.int z2323), .val (.ref a2327), .val (.int n), .unset, .unset] [(.int n), (.ref a2327)] rfl ?_
        have f2506 := (X00.keep K2500 all0)
        have f2507 : n0 ≤ h2497.size := (Nat.le_trans z0 K2500.1)
        have o2525 : h0.size ≤ a2327 := Nat.le_trans (Nat.le_refl _) o2501
        have SW2526 := rb2297 _ _ _ _ [] [a2327] S2503 ((Keep.refl _ _).trans K2500 all0) all0 (allS ⟨o2525, aK.lt⟩ all0)
        refine own_callSW CW SW2526 (own_wd hw 57 rfl) (own_wd hw 58 rfl) (own_wd hw 3 rfl) (own_wd hw 59 rfl) (by decide) (own_str l Z a0 hw hEL wS G1 G3 a2327 _ xs n h2497 n0 f2507 f2506 aK O2 O4 P5 rG3 hx hx8) all0 0 (by decide) (by decide) [(.ref a2327), (.int n)] [] rfl own_pd9 rfl rfl rfl (Nat.le_of_ble_eq_true rfl) (by decide) (by decide) (by decide +kernel) ?_
        rintro T2527 h2528 v2529 SW2530 hg2531 ⟨a2508, a2509, k2510, y2511, rfl, g2512, K2513, f2514, f2515, f2516, f2517, p2518, p2519⟩
        show own_Go p e below _ T2527 (mkF m 199 #[.val (.int i0), .val (.int i1), .val (.int i2), .val (.int i3), .val (.int i4), .val (.int i5), .val (.ref a2298), .val (.ref a2299), .val (.int z2323), .val (.ref a2327), .val (.int n), .unset, .unset] [(.ref a2508)])
        refine own_lift CW SW2530 ?_
        intro vm2532 C S2533 rb2534
        refine own_seg C S2533 [(199, .astore 11, 2), (201, .aload 11, 2)] (by decide +kernel) 203 #[.val (.int i0), .val (.int i1), .val (.int i2), .val (.int i3), .val (.int i4), .val (.int i5), .val (.ref a2298), .val (.ref a2299), .val (.int z2323), .val (.ref a2327), .val (.int n), .val (.ref a2508), .unset] [(.ref a2508)] rfl ?_
        rcases own_six y2511 with hv | hv | hv | hv | hv | hv
        · have f2535 := (f2506.keep K2513 all0)
          have f2536 := ((pa1.keep K2500).keep K2513)
          have f2537 := ((pa2.keep K2500 nin0).keep K2513 nin0)
          have f2538 := ((pa3.keep K2500).keep K2513)
          have f2539 := ((pa4.keep K2500 nin0).keep K2513 nin0)
          have f2540 := ((pa5.keep K2500 nin0).keep K2513 nin0)
          have f2541 := ((pa6.keep K2500 nin0).keep K2513 nin0)
          have f2542 := ((pb1.keep K2500).keep K2513)
          have f2543 := ((pb2.keep K2500 nin0).keep K2513 nin0)
          have f2544 := ((pb3.keep K2500).keep K2513)
          have f2545 := ((pb4.keep K2500 nin0).keep K2513 nin0)
          have f2546 := ((pb5.keep K2500 nin0).keep K2513 nin0)
          have f2547 := ((pb6.keep K2500 nin0).keep K2513 nin0)
          have f2548 := ((pc1.keep K2500).keep K2513)
          have f2549 := ((pc2.keep K2500 nin0).keep K2513 nin0)
          have f2550 := ((pc3.keep K2500).keep K2513)
          have f2551 := ((pc4.keep K2500 nin0).keep K2513 nin0)
          have f2552 := ((pc5.keep K2500 nin0).keep K2513 nin0)
          have f2553 := ((pc6.keep K2500 nin0).keep K2513 nin0)
          have f2554 := ((pd1.keep K2500).keep K2513)
          have f2555 := ((pd2.keep K2500 nin0).keep K2513 nin0)
          have f2556 := ((pd3.keep K2500).keep K2513)
          have f2557 := ((pd4.keep K2500 nin0).keep K2513 nin0)
          have f2558 := ((pd5.keep K2500 nin0).keep K2513 nin0)
          have f2559 := ((pd6.keep K2500 nin0).keep K2513 nin0)
          have f2560 := ((pe1.keep K2500).keep K2513)
          have f2561 := ((pe2.keep K2500 nin0).keep K2513 nin0)
          have f2562 := ((pe3.keep K2500).keep K2513)
          have f2563 := ((pe4.keep K2500 nin0).keep K2513 nin0)
          have f2564 := ((pe5.keep K2500 nin0).keep K2513 nin0)
          have f2565 := ((pe6.keep K2500 nin0).keep K2513 nin0)
          have f2566 := ((pV1.keep K2500).keep K2513)
          have f2567 := ((pV2.keep K2500 nin0).keep K2513 nin0)
          have f2568 : n0 ≤ h2528.size := (Nat.le_trans f2507 K2513.1)
          refine own_callS C S2533 (own_wd hw 83 rfl) (own_wd hw 84 rfl) (own_wd hw 6 rfl) (own_wd hw 85 rfl) (by decide) (own_Met.pay (own_lb0 l Z a0 hw G1 G3 kda kdb kdc kdd kde lsa lsat lsak lsb lsbt lsbk lsc lsct lsck lsd lsdt lsdk lse lset lsek VA VAk a2508 _ _ y2511 h2528 n0 f2568 f2535 f2514 f2515 f2516 f2517 f2536 f2537 f2538 f2539 f2540 f2541 f2542 f2543 f2544 f2545 f2546 f2547 f2548 f2549 f2550 f2551 f2552 f2553 f2554 f2555 f2556 f2557 f2558 f2559 f2560 f2561 f2562 f2563 f2564 f2565 f2566 f2567 O2 O4 P5 rG3 p2518 p2519 OV hv) C 0 (own_wd hw 85 rfl) (own_wd hw 6 rfl) (by decide) (by decide)) (fun _ _ _ q => q.2) [(.ref a2508)] [] rfl own_pd10 rfl rfl rfl (Nat.le_of_ble_eq_true rfl) (by decide) (by decide) (by decide +kernel) ?_
          rintro T2570 h2571 v2572 L2573 S2574 ⟨⟨rfl, K2569⟩, -⟩
          show own_Go p e below _ T2570 (mkF m 206 #[.val (.int i0), .val (.int i1), .val (.int i2), .val (.int i3), .val (.int i4), .val (.int i5), .val (.ref a2298), .val (.ref a2299), .val (.int z2323), .val (.ref a2327), .val (.int n), .val (.ref a2508), .unset] [(.ref kda)])
          refine own_seg C S2574 [(206, .astore 12, 2), (208, .aload 12, 2), (210, .aload 11, 2)] (by decide +kernel) 212 #[.val (.int i0), .val (.int i1), .val (.int i2), .val (.int i3), .val (.int i4), .val (.int i5), .val (.ref a2298), .val (.ref a2299), .val (.int z2323), .val (.ref a2327), .val (.int n), .val (.ref a2508), .val (.ref kda)] [(.ref a2508), (.ref kda)] rfl ?_
          have f2575 := (f2535.keep K2569 all0)
          have f2576 := (f2514.keep K2569)
          have f2577 := (f2515.keep K2569 nin0)
          have f2578 := (f2516.keep K2569 nin0)
          have f2579 := (f2517.keep K2569 nin0)
          have f2580 : n0 ≤ h2571.size := (Nat.le_trans f2568 K2569.1)
          have SW2587 := rb2534 _ _ _ _ [] [] S2574 ((Keep.refl _ _).trans K2569 all0) all0 all0
          refine own_callSW CW SW2587 (own_wd hw 114 rfl) (own_wd hw 115 rfl) (own_wd hw 3 rfl) (own_wd hw 116 rfl) (by decide) (own_ex0 l Z a0 hw hEL wS G1 G3 kda kdb kdc kdd kde a2508 _ _ y2511 h2571 n0 f2580 f2575 f2576 f2577 f2578 f2579 O2 O4 P5 rG3 p2518 p2519 Oa Ob Oc Od Oe hv) all0 1 (by decide) (by decide) [(.ref a2508)] [(.ref kda)] rfl own_pd10 rfl rfl rfl (Nat.le_of_ble_eq_true rfl) (by decide) (by decide) (by decide +kernel) ?_
          rintro T2588 h2589 v2590 SW2591 hg2592 ⟨rfl, K2581⟩
          show own_Go p e below _ T2588 (mkF m 215 #[.val (.int i0), .val (.int i1), .val (.int i2), .val (.int i3), .val (.int i4), .val (.int i5), .val (.ref a2298), .val (.ref a2299), .val (.int z2323), .val (.ref a2327), .val (.int n), .val (.ref a2508), .val (.ref kda)] [(.ref kda), (.ref kda)])
          refine own_lift CW SW2591 ?_
          intro vm2593 C S2594 rb2595
          refine own_acmp C S2594 (q := .ne) (o := 7) rfl rfl (by decide +kernel) 222 (by decide) (by decide) (fun (hq : ¬ ((.ref kda) : Value) = (.ref kda)) => False.elim (hq rfl)) (fun (q2596 : ((.ref kda) : Value) = (.ref kda)) => ?_)
          refine own_seg C S2594 [(218, .iconst 1, 1), (219, .goto 4, 3)] (by decide +kernel) 223 #[.val (.int i0), .val (.int i1), .val (.int i2), .val (.int i3), .val (.int i4), .val (.int i5), .val (.ref a2298), .val (.ref a2299), .val (.int z2323), .val (.ref a2327), .val (.int n), .val (.ref a2508), .val (.ref kda)] [(.int 1)] rfl ?_
          have SW2597 := rb2595 _ _ _ _ [] [] S2594 (Keep.refl _ _) all0 all0
          refine own_retZW CW SW2597 (by decide +kernel) (by decide) (by decide) (by decide) ?_
          rfl
        · have f2598 := (f2506.keep K2513 all0)
          have f2599 := ((pa1.keep K2500).keep K2513)
          have f2600 := ((pa2.keep K2500 nin0).keep K2513 nin0)
          have f2601 := ((pa3.keep K2500).keep K2513)
          have f2602 := ((pa4.keep K2500 nin0).keep K2513 nin0)
          have f2603 := ((pa5.keep K2500 nin0).keep K2513 nin0)
          have f2604 := ((pa6.keep K2500 nin0).keep K2513 nin0)
          have f2605 := ((pb1.keep K2500).keep K2513)
          have f2606 := ((pb2.keep K2500 nin0).keep K2513 nin0)
          have f2607 := ((pb3.keep K2500).keep K2513)
          have f2608 := ((pb4.keep K2500 nin0).keep K2513 nin0)
          have f2609 := ((pb5.keep K2500 nin0).keep K2513 nin0)
          have f2610 := ((pb6.keep K2500 nin0).keep K2513 nin0)
          have f2611 := ((pc1.keep K2500).keep K2513)
          have f2612 := ((pc2.keep K2500 nin0).keep K2513 nin0)
          have f2613 := ((pc3.keep K2500).keep K2513)
          have f2614 := ((pc4.keep K2500 nin0).keep K2513 nin0)
          have f2615 := ((pc5.keep K2500 nin0).keep K2513 nin0)
          have f2616 := ((pc6.keep K2500 nin0).keep K2513 nin0)
          have f2617 := ((pd1.keep K2500).keep K2513)
          have f2618 := ((pd2.keep K2500 nin0).keep K2513 nin0)
          have f2619 := ((pd3.keep K2500).keep K2513)
          have f2620 := ((pd4.keep K2500 nin0).keep K2513 nin0)
          have f2621 := ((pd5.keep K2500 nin0).keep K2513 nin0)
          have f2622 := ((pd6.keep K2500 nin0).keep K2513 nin0)
          have f2623 := ((pe1.keep K2500).keep K2513)
          have f2624 := ((pe2.keep K2500 nin0).keep K2513 nin0)
          have f2625 := ((pe3.keep K2500).keep K2513)
          have f2626 := ((pe4.keep K2500 nin0).keep K2513 nin0)
          have f2627 := ((pe5.keep K2500 nin0).keep K2513 nin0)
          have f2628 := ((pe6.keep K2500 nin0).keep K2513 nin0)
          have f2629 := ((pV1.keep K2500).keep K2513)
          have f2630 := ((pV2.keep K2500 nin0).keep K2513 nin0)
          have f2631 : n0 ≤ h2528.size := (Nat.le_trans f2507 K2513.1)
          refine own_callS C S2533 (own_wd hw 83 rfl) (own_wd hw 84 rfl) (own_wd hw 6 rfl) (own_wd hw 85 rfl) (by decide) (own_Met.pay (own_lb1 l Z a0 hw G1 G3 kda kdb kdc kdd kde lsa lsat lsak lsb lsbt lsbk lsc lsct lsck lsd lsdt lsdk lse lset lsek VA VAk a2508 _ _ y2511 h2528 n0 f2631 f2598 f2514 f2515 f2516 f2517 f2599 f2600 f2601 f2602 f2603 f2604 f2605 f2606 f2607 f2608 f2609 f2610 f2611 f2612 f2613 f2614 f2615 f2616 f2617 f2618 f2619 f2620 f2621 f2622 f2623 f2624 f2625 f2626 f2627 f2628 f2629 f2630 O2 O4 P5 rG3 p2518 p2519 OV hv) C 0 (own_wd hw 85 rfl) (own_wd hw 6 rfl) (by decide) (by decide)) (fun _ _ _ q => q.2) [(.ref a2508)] [] rfl own_pd10 rfl rfl rfl (Nat.le_of_ble_eq_true rfl) (by decide) (by decide) (by decide +kernel) ?_
          rintro T2633 h2634 v2635 L2636 S2637 ⟨⟨rfl, K2632⟩, -⟩
          show own_Go p e below _ T2633 (mkF m 206 #[.val (.int i0), .val (.int i1), .val (.int i2), .val (.int i3), .val (.int i4), .val (.int i5), .val (.ref a2298), .val (.ref a2299), .val (.int z2323), .val (.ref a2327), .val (.int n), .val (.ref a2508), .unset] [(.ref kdb)])
          refine own_seg C S2637 [(206, .astore 12, 2), (208, .aload 12, 2), (210, .aload 11, 2)] (by decide +kernel) 212 #[.val (.int i0), .val (.int i1), .val (.int i2), .val (.int i3), .val (.int i4), .val (.int i5), .val (.ref a2298), .val (.ref a2299), .val (.int z2323), .val (.ref a2327), .val (.int n), .val (.ref a2508), .val (.ref kdb)] [(.ref a2508), (.ref kdb)] rfl ?_
          have f2638 := (f2598.keep K2632 all0)
          have f2639 := (f2514.keep K2632)
          have f2640 := (f2515.keep K2632 nin0)
          have f2641 := (f2516.keep K2632 nin0)
          have f2642 := (f2517.keep K2632 nin0)
          have f2643 : n0 ≤ h2634.size := (Nat.le_trans f2631 K2632.1)
          have SW2650 := rb2534 _ _ _ _ [] [] S2637 ((Keep.refl _ _).trans K2632 all0) all0 all0
          refine own_callSW CW SW2650 (own_wd hw 114 rfl) (own_wd hw 115 rfl) (own_wd hw 3 rfl) (own_wd hw 116 rfl) (by decide) (own_ex1 l Z a0 hw hEL wS G1 G3 kda kdb kdc kdd kde a2508 _ _ y2511 h2634 n0 f2643 f2638 f2639 f2640 f2641 f2642 O2 O4 P5 rG3 p2518 p2519 Oa Ob Oc Od Oe hv) all0 1 (by decide) (by decide) [(.ref a2508)] [(.ref kdb)] rfl own_pd10 rfl rfl rfl (Nat.le_of_ble_eq_true rfl) (by decide) (by decide) (by decide +kernel) ?_
          rintro T2651 h2652 v2653 SW2654 hg2655 ⟨rfl, K2644⟩
          show own_Go p e below _ T2651 (mkF m 215 #[.val (.int i0), .val (.int i1), .val (.int i2), .val (.int i3), .val (.int i4), .val (.int i5), .val (.ref a2298), .val (.ref a2299), .val (.int z2323), .val (.ref a2327), .val (.int n), .val (.ref a2508), .val (.ref kdb)] [(.ref kdb), (.ref kdb)])
          refine own_lift CW SW2654 ?_
          intro vm2656 C S2657 rb2658
          refine own_acmp C S2657 (q := .ne) (o := 7) rfl rfl (by decide +kernel) 222 (by decide) (by decide) (fun (hq : ¬ ((.ref kdb) : Value) = (.ref kdb)) => False.elim (hq rfl)) (fun (q2659 : ((.ref kdb) : Value) = (.ref kdb)) => ?_)
          refine own_seg C S2657 [(218, .iconst 1, 1), (219, .goto 4, 3)] (by decide +kernel) 223 #[.val (.int i0), .val (.int i1), .val (.int i2), .val (.int i3), .val (.int i4), .val (.int i5), .val (.ref a2298), .val (.ref a2299), .val (.int z2323), .val (.ref a2327), .val (.int n), .val (.ref a2508), .val (.ref kdb)] [(.int 1)] rfl ?_
          have SW2660 := rb2658 _ _ _ _ [] [] S2657 (Keep.refl _ _) all0 all0
          refine own_retZW CW SW2660 (by decide +kernel) (by decide) (by decide) (by decide) ?_
          rfl
        · have f2661 := (f2506.keep K2513 all0)
          have f2662 := ((pa1.keep K2500).keep K2513)
          have f2663 := ((pa2.keep K2500 nin0).keep K2513 nin0)
          have f2664 := ((pa3.keep K2500).keep K2513)
          have f2665 := ((pa4.keep K2500 nin0).keep K2513 nin0)
          have f2666 := ((pa5.keep K2500 nin0).keep K2513 nin0)
          have f2667 := ((pa6.keep K2500 nin0).keep K2513 nin0)
          have f2668 := ((pb1.keep K2500).keep K2513)
          have f2669 := ((pb2.keep K2500 nin0).keep K2513 nin0)
          have f2670 := ((pb3.keep K2500).keep K2513)
          have f2671 := ((pb4.keep K2500 nin0).keep K2513 nin0)
          have f2672 := ((pb5.keep K2500 nin0).keep K2513 nin0)
          have f2673 := ((pb6.keep K2500 nin0).keep K2513 nin0)
          have f2674 := ((pc1.keep K2500).keep K2513)
          have f2675 := ((pc2.keep K2500 nin0).keep K2513 nin0)
          have f2676 := ((pc3.keep K2500).keep K2513)
          have f2677 := ((pc4.keep K2500 nin0).keep K2513 nin0)
          have f2678 := ((pc5.keep K2500 nin0).keep K2513 nin0)
          have f2679 := ((pc6.keep K2500 nin0).keep K2513 nin0)
          have f2680 := ((pd1.keep K2500).keep K2513)
          have f2681 := ((pd2.keep K2500 nin0).keep K2513 nin0)
          have f2682 := ((pd3.keep K2500).keep K2513)
          have f2683 := ((pd4.keep K2500 nin0).keep K2513 nin0)
          have f2684 := ((pd5.keep K2500 nin0).keep K2513 nin0)
          have f2685 := ((pd6.keep K2500 nin0).keep K2513 nin0)
          have f2686 := ((pe1.keep K2500).keep K2513)
          have f2687 := ((pe2.keep K2500 nin0).keep K2513 nin0)
          have f2688 := ((pe3.keep K2500).keep K2513)
          have f2689 := ((pe4.keep K2500 nin0).keep K2513 nin0)
          have f2690 := ((pe5.keep K2500 nin0).keep K2513 nin0)
          have f2691 := ((pe6.keep K2500 nin0).keep K2513 nin0)
          have f2692 := ((pV1.keep K2500).keep K2513)
          have f2693 := ((pV2.keep K2500 nin0).keep K2513 nin0)
          have f2694 : n0 ≤ h2528.size := (Nat.le_trans f2507 K2513.1)
          refine own_callS C S2533 (own_wd hw 83 rfl) (own_wd hw 84 rfl) (own_wd hw 6 rfl) (own_wd hw 85 rfl) (by decide) (own_Met.pay (own_lb2 l Z a0 hw G1 G3 kda kdb kdc kdd kde lsa lsat lsak lsb lsbt lsbk lsc lsct lsck lsd lsdt lsdk lse lset lsek VA VAk a2508 _ _ y2511 h2528 n0 f2694 f2661 f2514 f2515 f2516 f2517 f2662 f2663 f2664 f2665 f2666 f2667 f2668 f2669 f2670 f2671 f2672 f2673 f2674 f2675 f2676 f2677 f2678 f2679 f2680 f2681 f2682 f2683 f2684 f2685 f2686 f2687 f2688 f2689 f2690 f2691 f2692 f2693 O2 O4 P5 rG3 p2518 p2519 OV hv) C 0 (own_wd hw 85 rfl) (own_wd hw 6 rfl) (by decide) (by decide)) (fun _ _ _ q => q.2) [(.ref a2508)] [] rfl own_pd10 rfl rfl rfl (Nat.le_of_ble_eq_true rfl) (by decide) (by decide) (by decide +kernel) ?_
          rintro T2696 h2697 v2698 L2699 S2700 ⟨⟨rfl, K2695⟩, -⟩
          show own_Go p e below _ T2696 (mkF m 206 #[.val (.int i0), .val (.int i1), .val (.int i2), .val (.int i3), .val (.int i4), .val (.int i5), .val (.ref a2298), .val (.ref a2299), .val (.int z2323), .val (.ref a2327), .val (.int n), .val (.ref a2508), .unset] [(.ref kdc)])
          refine own_seg C S2700 [(206, .astore 12, 2), (208, .aload 12, 2), (210, .aload 11, 2)] (by decide +kernel) 212 #[.val (.int i0), .val (.int i1), .val (.int i2), .val (.int i3), .val (.int i4), .val (.int i5), .val (.ref a2298), .val (.ref a2299), .val (.int z2323), .val (.ref a2327), .val (.int n), .val (.ref a2508), .val (.ref kdc)] [(.ref a2508), (.ref kdc)] rfl ?_
          have f2701 := (f2661.keep K2695 all0)
          have f2702 := (f2514.keep K2695)
          have f2703 := (f2515.keep K2695 nin0)
          have f2704 := (f2516.keep K2695 nin0)
          have f2705 := (f2517.keep K2695 nin0)
          have f2706 : n0 ≤ h2697.size := (Nat.le_trans f2694 K2695.1)
          have SW2713 := rb2534 _ _ _ _ [] [] S2700 ((Keep.refl _ _).trans K2695 all0) all0 all0
          refine own_callSW CW SW2713 (own_wd hw 114 rfl) (own_wd hw 115 rfl) (own_wd hw 3 rfl) (own_wd hw 116 rfl) (by decide) (own_ex2 l Z a0 hw hEL wS G1 G3 kda kdb kdc kdd kde a2508 _ _ y2511 h2697 n0 f2706 f2701 f2702 f2703 f2704 f2705 O2 O4 P5 rG3 p2518 p2519 Oa Ob Oc Od Oe hv) all0 1 (by decide) (by decide) [(.ref a2508)] [(.ref kdc)] rfl own_pd10 rfl rfl rfl (Nat.le_of_ble_eq_true rfl) (by decide) (by decide) (by decide +kernel) ?_
          rintro T2714 h2715 v2716 SW2717 hg2718 ⟨rfl, K2707⟩
          show own_Go p e below _ T2714 (mkF m 215 #[.val (.int i0), .val (.int i1), .val (.int i2), .val (.int i3), .val (.int i4), .val (.int i5), .val (.ref a2298), .val (.ref a2299), .val (.int z2323), .val (.ref a2327), .val (.int n), .val (.ref a2508), .val (.ref kdc)] [(.ref kdc), (.ref kdc)])
          refine own_lift CW SW2717 ?_
          intro vm2719 C S2720 rb2721
          refine own_acmp C S2720 (q := .ne) (o := 7) rfl rfl (by decide +kernel) 222 (by decide) (by decide) (fun (hq : ¬ ((.ref kdc) : Value) = (.ref kdc)) => False.elim (hq rfl)) (fun (q2722 : ((.ref kdc) : Value) = (.ref kdc)) => ?_)
          refine own_seg C S2720 [(218, .iconst 1, 1), (219, .goto 4, 3)] (by decide +kernel) 223 #[.val (.int i0), .val (.int i1), .val (.int i2), .val (.int i3), .val (.int i4), .val (.int i5), .val (.ref a2298), .val (.ref a2299), .val (.int z2323), .val (.ref a2327), .val (.int n), .val (.ref a2508), .val (.ref kdc)] [(.int 1)] rfl ?_
          have SW2723 := rb2721 _ _ _ _ [] [] S2720 (Keep.refl _ _) all0 all0
          refine own_retZW CW SW2723 (by decide +kernel) (by decide) (by decide) (by decide) ?_
          rfl
        · have f2724 := (f2506.keep K2513 all0)
          have f2725 := ((pa1.keep K2500).keep K2513)
          have f2726 := ((pa2.keep K2500 nin0).keep K2513 nin0)
          have f2727 := ((pa3.keep K2500).keep K2513)
          have f2728 := ((pa4.keep K2500 nin0).keep K2513 nin0)
          have f2729 := ((pa5.keep K2500 nin0).keep K2513 nin0)
          have f2730 := ((pa6.keep K2500 nin0).keep K2513 nin0)
          have f2731 := ((pb1.keep K2500).keep K2513)
          have f2732 := ((pb2.keep K2500 nin0).keep K2513 nin0)
          have f2733 := ((pb3.keep K2500).keep K2513)
          have f2734 := ((pb4.keep K2500 nin0).keep K2513 nin0)
          have f2735 := ((pb5.keep K2500 nin0).keep K2513 nin0)
          have f2736 := ((pb6.keep K2500 nin0).keep K2513 nin0)
          have f2737 := ((pc1.keep K2500).keep K2513)
          have f2738 := ((pc2.keep K2500 nin0).keep K2513 nin0)
          have f2739 := ((pc3.keep K2500).keep K2513)
          have f2740 := ((pc4.keep K2500 nin0).keep K2513 nin0)
          have f2741 := ((pc5.keep K2500 nin0).keep K2513 nin0)
          have f2742 := ((pc6.keep K2500 nin0).keep K2513 nin0)
          have f2743 := ((pd1.keep K2500).keep K2513)
          have f2744 := ((pd2.keep K2500 nin0).keep K2513 nin0)
          have f2745 := ((pd3.keep K2500).keep K2513)
          have f2746 := ((pd4.keep K2500 nin0).keep K2513 nin0)
          have f2747 := ((pd5.keep K2500 nin0).keep K2513 nin0)
          have f2748 := ((pd6.keep K2500 nin0).keep K2513 nin0)
          have f2749 := ((pe1.keep K2500).keep K2513)
          have f2750 := ((pe2.keep K2500 nin0).keep K2513 nin0)
          have f2751 := ((pe3.keep K2500).keep K2513)
          have f2752 := ((pe4.keep K2500 nin0).keep K2513 nin0)
          have f2753 := ((pe5.keep K2500 nin0).keep K2513 nin0)
          have f2754 := ((pe6.keep K2500 nin0).keep K2513 nin0)
          have f2755 := ((pV1.keep K2500).keep K2513)
          have f2756 := ((pV2.keep K2500 nin0).keep K2513 nin0)
          have f2757 : n0 ≤ h2528.size := (Nat.le_trans f2507 K2513.1)
          refine own_callS C S2533 (own_wd hw 83 rfl) (own_wd hw 84 rfl) (own_wd hw 6 rfl) (own_wd hw 85 rfl) (by decide) (own_Met.pay (own_lb3 l Z a0 hw G1 G3 kda kdb kdc kdd kde lsa lsat lsak lsb lsbt lsbk lsc lsct lsck lsd lsdt lsdk lse lset lsek VA VAk a2508 _ _ y2511 h2528 n0 f2757 f2724 f2514 f2515 f2516 f2517 f2725 f2726 f2727 f2728 f2729 f2730 f2731 f2732 f2733 f2734 f2735 f2736 f2737 f2738 f2739 f2740 f2741 f2742 f2743 f2744 f2745 f2746 f2747 f2748 f2749 f2750 f2751 f2752 f2753 f2754 f2755 f2756 O2 O4 P5 rG3 p2518 p2519 OV hv) C 0 (own_wd hw 85 rfl) (own_wd hw 6 rfl) (by decide) (by decide)) (fun _ _ _ q => q.2) [(.ref a2508)] [] rfl own_pd10 rfl rfl rfl (Nat.le_of_ble_eq_true rfl) (by decide) (by decide) (by decide +kernel) ?_
          rintro T2759 h2760 v2761 L2762 S2763 ⟨⟨rfl, K2758⟩, -⟩
          show own_Go p e below _ T2759 (mkF m 206 #[.val (.int i0), .val (.int i1), .val (.int i2), .val (.int i3), .val (.int i4), .val (.int i5), .val (.ref a2298), .val (.ref a2299), .val (.int z2323), .val (.ref a2327), .val (.int n), .val (.ref a2508), .unset] [(.ref kdd)])
          refine own_seg C S2763 [(206, .astore 12, 2), (208, .aload 12, 2), (210, .aload 11, 2)] (by decide +kernel) 212 #[.val (.int i0), .val (.int i1), .val (.int i2), .val (.int i3), .val (.int i4), .val (.int i5), .val (.ref a2298), .val (.ref a2299), .val (.int z2323), .val (.ref a2327), .val (.int n), .val (.ref a2508), .val (.ref kdd)] [(.ref a2508), (.ref kdd)] rfl ?_
          have f2764 := (f2724.keep K2758 all0)
          have f2765 := (f2514.keep K2758)
          have f2766 := (f2515.keep K2758 nin0)
          have f2767 := (f2516.keep K2758 nin0)
          have f2768 := (f2517.keep K2758 nin0)
          have f2769 : n0 ≤ h2760.size := (Nat.le_trans f2757 K2758.1)
          have SW2776 := rb2534 _ _ _ _ [] [] S2763 ((Keep.refl _ _).trans K2758 all0) all0 all0
          refine own_callSW CW SW2776 (own_wd hw 114 rfl) (own_wd hw 115 rfl) (own_wd hw 3 rfl) (own_wd hw 116 rfl) (by decide) (own_ex3 l Z a0 hw hEL wS G1 G3 kda kdb kdc kdd kde a2508 _ _ y2511 h2760 n0 f2769 f2764 f2765 f2766 f2767 f2768 O2 O4 P5 rG3 p2518 p2519 Oa Ob Oc Od Oe hv) all0 1 (by decide) (by decide) [(.ref a2508)] [(.ref kdd)] rfl own_pd10 rfl rfl rfl (Nat.le_of_ble_eq_true rfl) (by decide) (by decide) (by decide +kernel) ?_
          rintro T2777 h2778 v2779 SW2780 hg2781 ⟨rfl, K2770⟩
          show own_Go p e below _ T2777 (mkF m 215 #[.val (.int i0), .val (.int i1), .val (.int i2), .val (.int i3), .val (.int i4), .val (.int i5), .val (.ref a2298), .val (.ref a2299), .val (.int z2323), .val (.ref a2327), .val (.int n), .val (.ref a2508), .val (.ref kdd)] [(.ref kdd), (.ref kdd)])
          refine own_lift CW SW2780 ?_
          intro vm2782 C S2783 rb2784
          refine own_acmp C S2783 (q := .ne) (o := 7) rfl rfl (by decide +kernel) 222 (by decide) (by decide) (fun (hq : ¬ ((.ref kdd) : Value) = (.ref kdd)) => False.elim (hq rfl)) (fun (q2785 : ((.ref kdd) : Value) = (.ref kdd)) => ?_)
          refine own_seg C S2783 [(218, .iconst 1, 1), (219, .goto 4, 3)] (by decide +kernel) 223 #[.val (.int i0), .val (.int i1), .val (.int i2), .val (.int i3), .val (.int i4), .val (.int i5), .val (.ref a2298), .val (.ref a2299), .val (.int z2323), .val (.ref a2327), .val (.int n), .val (.ref a2508), .val (.ref kdd)] [(.int 1)] rfl ?_
          have SW2786 := rb2784 _ _ _ _ [] [] S2783 (Keep.refl _ _) all0 all0
          refine own_retZW CW SW2786 (by decide +kernel) (by decide) (by decide) (by decide) ?_
          rfl
        · have f2787 := (f2506.keep K2513 all0)
          have f2788 := ((pa1.keep K2500).keep K2513)
          have f2789 := ((pa2.keep K2500 nin0).keep K2513 nin0)
          have f2790 := ((pa3.keep K2500).keep K2513)
          have f2791 := ((pa4.keep K2500 nin0).keep K2513 nin0)
          have f2792 := ((pa5.keep K2500 nin0).keep K2513 nin0)
          have f2793 := ((pa6.keep K2500 nin0).keep K2513 nin0)
          have f2794 := ((pb1.keep K2500).keep K2513)
          have f2795 := ((pb2.keep K2500 nin0).keep K2513 nin0)
          have f2796 := ((pb3.keep K2500).keep K2513)
          have f2797 := ((pb4.keep K2500 nin0).keep K2513 nin0)
          have f2798 := ((pb5.keep K2500 nin0).keep K2513 nin0)
          have f2799 := ((pb6.keep K2500 nin0).keep K2513 nin0)
          have f2800 := ((pc1.keep K2500).keep K2513)
          have f2801 := ((pc2.keep K2500 nin0).keep K2513 nin0)
          have f2802 := ((pc3.keep K2500).keep K2513)
          have f2803 := ((pc4.keep K2500 nin0).keep K2513 nin0)
          have f2804 := ((pc5.keep K2500 nin0).keep K2513 nin0)
          have f2805 := ((pc6.keep K2500 nin0).keep K2513 nin0)
          have f2806 := ((pd1.keep K2500).keep K2513)
          have f2807 := ((pd2.keep K2500 nin0).keep K2513 nin0)
          have f2808 := ((pd3.keep K2500).keep K2513)
          have f2809 := ((pd4.keep K2500 nin0).keep K2513 nin0)
          have f2810 := ((pd5.keep K2500 nin0).keep K2513 nin0)
          have f2811 := ((pd6.keep K2500 nin0).keep K2513 nin0)
          have f2812 := ((pe1.keep K2500).keep K2513)
          have f2813 := ((pe2.keep K2500 nin0).keep K2513 nin0)
          have f2814 := ((pe3.keep K2500).keep K2513)
          have f2815 := ((pe4.keep K2500 nin0).keep K2513 nin0)
          have f2816 := ((pe5.keep K2500 nin0).keep K2513 nin0)
          have f2817 := ((pe6.keep K2500 nin0).keep K2513 nin0)
          have f2818 := ((pV1.keep K2500).keep K2513)
          have f2819 := ((pV2.keep K2500 nin0).keep K2513 nin0)
          have f2820 : n0 ≤ h2528.size := (Nat.le_trans f2507 K2513.1)
          refine own_callS C S2533 (own_wd hw 83 rfl) (own_wd hw 84 rfl) (own_wd hw 6 rfl) (own_wd hw 85 rfl) (by decide) (own_Met.pay (own_lb4 l Z a0 hw G1 G3 kda kdb kdc kdd kde lsa lsat lsak lsb lsbt lsbk lsc lsct lsck lsd lsdt lsdk lse lset lsek VA VAk a2508 _ _ y2511 h2528 n0 f2820 f2787 f2514 f2515 f2516 f2517 f2788 f2789 f2790 f2791 f2792 f2793 f2794 f2795 f2796 f2797 f2798 f2799 f2800 f2801 f2802 f2803 f2804 f2805 f2806 f2807 f2808 f2809 f2810 f2811 f2812 f2813 f2814 f2815 f2816 f2817 f2818 f2819 O2 O4 P5 rG3 p2518 p2519 OV hv) C 0 (own_wd hw 85 rfl) (own_wd hw 6 rfl) (by decide) (by decide)) (fun _ _ _ q => q.2) [(.ref a2508)] [] rfl own_pd10 rfl rfl rfl (Nat.le_of_ble_eq_true rfl) (by decide) (by decide) (by decide +kernel) ?_
          rintro T2822 h2823 v2824 L2825 S2826 ⟨⟨rfl, K2821⟩, -⟩
          show own_Go p e below _ T2822 (mkF m 206 #[.val (.int i0), .val (.int i1), .val (.int i2), .val (.int i3), .val (.int i4), .val (.int i5), .val (.ref a2298), .val (.ref a2299), .val (.int z2323), .val (.ref a2327), .val (.int n), .val (.ref a2508), .unset] [(.ref kde)])
          refine own_seg C S2826 [(206, .astore 12, 2), (208, .aload 12, 2), (210, .aload 11, 2)] (by decide +kernel) 212 #[.val (.int i0), .val (.int i1), .val (.int i2), .val (.int i3), .val (.int i4), .val (.int i5), .val (.ref a2298), .val (.ref a2299), .val (.int z2323), .val (.ref a2327), .val (.int n), .val (.ref a2508), .val (.ref kde)] [(.ref a2508), (.ref kde)] rfl ?_
          have f2827 := (f2787.keep K2821 all0)
          have f2828 := (f2514.keep K2821)
          have f2829 := (f2515.keep K2821 nin0)
          have f2830 := (f2516.keep K2821 nin0)
          have f2831 := (f2517.keep K2821 nin0)
          have f2832 : n0 ≤ h2823.size := (Nat.le_trans f2820 K2821.1)
          have SW2839 := rb2534 _ _ _ _ [] [] S2826 ((Keep.refl _ _).trans K2821 all0) all0 all0
          refine own_callSW CW SW2839 (own_wd hw 114 rfl) (own_wd hw 115 rfl) (own_wd hw 3 rfl) (own_wd hw 116 rfl) (by decide) (own_ex4 l Z a0 hw hEL wS G1 G3 kda kdb kdc kdd kde a2508 _ _ y2511 h2823 n0 f2832 f2827 f2828 f2829 f2830 f2831 O2 O4 P5 rG3 p2518 p2519 Oa Ob Oc Od Oe hv) all0 1 (by decide) (by decide) [(.ref a2508)] [(.ref kde)] rfl own_pd10 rfl rfl rfl (Nat.le_of_ble_eq_true rfl) (by decide) (by decide) (by decide +kernel) ?_
          rintro T2840 h2841 v2842 SW2843 hg2844 ⟨rfl, K2833⟩
          show own_Go p e below _ T2840 (mkF m 215 #[.val (.int i0), .val (.int i1), .val (.int i2), .val (.int i3), .val (.int i4), .val (.int i5), .val (.ref a2298), .val (.ref a2299), .val (.int z2323), .val (.ref a2327), .val (.int n), .val (.ref a2508), .val (.ref kde)] [(.ref kde), (.ref kde)])
          refine own_lift CW SW2843 ?_
          intro vm2845 C S2846 rb2847
          refine own_acmp C S2846 (q := .ne) (o := 7) rfl rfl (by decide +kernel) 222 (by decide) (by decide) (fun (hq : ¬ ((.ref kde) : Value) = (.ref kde)) => False.elim (hq rfl)) (fun (q2848 : ((.ref kde) : Value) = (.ref kde)) => ?_)
          refine own_seg C S2846 [(218, .iconst 1, 1), (219, .goto 4, 3)] (by decide +kernel) 223 #[.val (.int i0), .val (.int i1), .val (.int i2), .val (.int i3), .val (.int i4), .val (.int i5), .val (.ref a2298), .val (.ref a2299), .val (.int z2323), .val (.ref a2327), .val (.int n), .val (.ref a2508), .val (.ref kde)] [(.int 1)] rfl ?_
          have SW2849 := rb2847 _ _ _ _ [] [] S2846 (Keep.refl _ _) all0 all0
          refine own_retZW CW SW2849 (by decide +kernel) (by decide) (by decide) (by decide) ?_
          rfl
        · have f2850 := (f2506.keep K2513 all0)
          have f2851 := ((pa1.keep K2500).keep K2513)
          have f2852 := ((pa2.keep K2500 nin0).keep K2513 nin0)
          have f2853 := ((pa3.keep K2500).keep K2513)
          have f2854 := ((pa4.keep K2500 nin0).keep K2513 nin0)
          have f2855 := ((pa5.keep K2500 nin0).keep K2513 nin0)
          have f2856 := ((pa6.keep K2500 nin0).keep K2513 nin0)
          have f2857 := ((pb1.keep K2500).keep K2513)
          have f2858 := ((pb2.keep K2500 nin0).keep K2513 nin0)
          have f2859 := ((pb3.keep K2500).keep K2513)
          have f2860 := ((pb4.keep K2500 nin0).keep K2513 nin0)
          have f2861 := ((pb5.keep K2500 nin0).keep K2513 nin0)
          have f2862 := ((pb6.keep K2500 nin0).keep K2513 nin0)
          have f2863 := ((pc1.keep K2500).keep K2513)
          have f2864 := ((pc2.keep K2500 nin0).keep K2513 nin0)
          have f2865 := ((pc3.keep K2500).keep K2513)
          have f2866 := ((pc4.keep K2500 nin0).keep K2513 nin0)
          have f2867 := ((pc5.keep K2500 nin0).keep K2513 nin0)
          have f2868 := ((pc6.keep K2500 nin0).keep K2513 nin0)
          have f2869 := ((pd1.keep K2500).keep K2513)
          have f2870 := ((pd2.keep K2500 nin0).keep K2513 nin0)
          have f2871 := ((pd3.keep K2500).keep K2513)
          have f2872 := ((pd4.keep K2500 nin0).keep K2513 nin0)
          have f2873 := ((pd5.keep K2500 nin0).keep K2513 nin0)
          have f2874 := ((pd6.keep K2500 nin0).keep K2513 nin0)
          have f2875 := ((pe1.keep K2500).keep K2513)
          have f2876 := ((pe2.keep K2500 nin0).keep K2513 nin0)
          have f2877 := ((pe3.keep K2500).keep K2513)
          have f2878 := ((pe4.keep K2500 nin0).keep K2513 nin0)
          have f2879 := ((pe5.keep K2500 nin0).keep K2513 nin0)
          have f2880 := ((pe6.keep K2500 nin0).keep K2513 nin0)
          have f2881 := ((pV1.keep K2500).keep K2513)
          have f2882 := ((pV2.keep K2500 nin0).keep K2513 nin0)
          have f2883 : n0 ≤ h2528.size := (Nat.le_trans f2507 K2513.1)
          refine own_callS C S2533 (own_wd hw 83 rfl) (own_wd hw 84 rfl) (own_wd hw 6 rfl) (own_wd hw 85 rfl) (by decide) (own_Met.pay (own_lb5 l Z a0 hw G1 G3 kda kdb kdc kdd kde lsa lsat lsak lsb lsbt lsbk lsc lsct lsck lsd lsdt lsdk lse lset lsek VA VAk a2508 _ _ y2511 h2528 n0 f2883 f2850 f2514 f2515 f2516 f2517 f2851 f2852 f2853 f2854 f2855 f2856 f2857 f2858 f2859 f2860 f2861 f2862 f2863 f2864 f2865 f2866 f2867 f2868 f2869 f2870 f2871 f2872 f2873 f2874 f2875 f2876 f2877 f2878 f2879 f2880 f2881 f2882 O2 O4 P5 rG3 p2518 p2519 OV hv) C 0 (own_wd hw 85 rfl) (own_wd hw 6 rfl) (by decide) (by decide)) (fun _ _ _ q => q.2) [(.ref a2508)] [] rfl own_pd10 rfl rfl rfl (Nat.le_of_ble_eq_true rfl) (by decide) (by decide) (by decide +kernel) ?_
          rintro T2885 h2886 v2887 L2888 S2889 ⟨⟨rfl, K2884⟩, -⟩
          show own_Go p e below _ T2885 (mkF m 206 #[.val (.int i0), .val (.int i1), .val (.int i2), .val (.int i3), .val (.int i4), .val (.int i5), .val (.ref a2298), .val (.ref a2299), .val (.int z2323), .val (.ref a2327), .val (.int n), .val (.ref a2508), .unset] [.null])
          refine own_seg C S2889 [(206, .astore 12, 2), (208, .aload 12, 2), (210, .aload 11, 2)] (by decide +kernel) 212 #[.val (.int i0), .val (.int i1), .val (.int i2), .val (.int i3), .val (.int i4), .val (.int i5), .val (.ref a2298), .val (.ref a2299), .val (.int z2323), .val (.ref a2327), .val (.int n), .val (.ref a2508), .val .null] [(.ref a2508), .null] rfl ?_
          have f2890 := (f2850.keep K2884 all0)
          have f2891 := (f2514.keep K2884)
          have f2892 := (f2515.keep K2884 nin0)
          have f2893 := (f2516.keep K2884 nin0)
          have f2894 := (f2517.keep K2884 nin0)
          have f2895 : n0 ≤ h2886.size := (Nat.le_trans f2883 K2884.1)
          have SW2902 := rb2534 _ _ _ _ [] [] S2889 ((Keep.refl _ _).trans K2884 all0) all0 all0
          refine own_callSW CW SW2902 (own_wd hw 114 rfl) (own_wd hw 115 rfl) (own_wd hw 3 rfl) (own_wd hw 116 rfl) (by decide) (own_ex5 l Z a0 hw hEL wS G1 G3 kda kdb kdc kdd kde a2508 _ _ y2511 h2886 n0 f2895 f2890 f2891 f2892 f2893 f2894 O2 O4 P5 rG3 p2518 p2519 Oa Ob Oc Od Oe hv) all0 1 (by decide) (by decide) [(.ref a2508)] [.null] rfl own_pd10 rfl rfl rfl (Nat.le_of_ble_eq_true rfl) (by decide) (by decide) (by decide +kernel) ?_
          rintro T2903 h2904 v2905 SW2906 hg2907 ⟨rfl, K2896⟩
          show own_Go p e below _ T2903 (mkF m 215 #[.val (.int i0), .val (.int i1), .val (.int i2), .val (.int i3), .val (.int i4), .val (.int i5), .val (.ref a2298), .val (.ref a2299), .val (.int z2323), .val (.ref a2327), .val (.int n), .val (.ref a2508), .val .null] [.null, .null])
          refine own_lift CW SW2906 ?_
          intro vm2908 C S2909 rb2910
          refine own_acmp C S2909 (q := .ne) (o := 7) rfl rfl (by decide +kernel) 222 (by decide) (by decide) (fun (hq : ¬ (.null : Value) = .null) => False.elim (hq rfl)) (fun (q2911 : (.null : Value) = .null) => ?_)
          refine own_seg C S2909 [(218, .iconst 1, 1), (219, .goto 4, 3)] (by decide +kernel) 223 #[.val (.int i0), .val (.int i1), .val (.int i2), .val (.int i3), .val (.int i4), .val (.int i5), .val (.ref a2298), .val (.ref a2299), .val (.int z2323), .val (.ref a2327), .val (.int n), .val (.ref a2508), .val .null] [(.int 1)] rfl ?_
          have SW2912 := rb2910 _ _ _ _ [] [] S2909 (Keep.refl _ _) all0 all0
          refine own_retZW CW SW2912 (by decide +kernel) (by decide) (by decide) (by decide) ?_
          rfl
      · refine own_seg C S2503 [(188, .aconst_null, 1), (189, .goto 10, 3), (199, .astore 11, 2), (201, .aload 11, 2)] (by decide +kernel) 203 #[.val (.int i0), .val (.int i1), .val (.int i2), .val (.int i3), .val (.int i4), .val (.int i5), .val (.ref a2298), .val (.ref a2299), .val (.int z2323), .val (.ref a2327), .val (.int n), .val .null, .unset] [.null] rfl ?_
        have f2913 := (X00.keep K2500 all0)
        have f2914 := (pa1.keep K2500)
        have f2915 := (pa2.keep K2500 nin0)
        have f2916 := (pa3.keep K2500)
        have f2917 := (pa4.keep K2500 nin0)
        have f2918 := (pa5.keep K2500 nin0)
        have f2919 := (pa6.keep K2500 nin0)
        have f2920 := (pb1.keep K2500)
        have f2921 := (pb2.keep K2500 nin0)
        have f2922 := (pb3.keep K2500)
        have f2923 := (pb4.keep K2500 nin0)
        have f2924 := (pb5.keep K2500 nin0)
        have f2925 := (pb6.keep K2500 nin0)
        have f2926 := (pc1.keep K2500)
        have f2927 := (pc2.keep K2500 nin0)
        have f2928 := (pc3.keep K2500)
        have f2929 := (pc4.keep K2500 nin0)
        have f2930 := (pc5.keep K2500 nin0)
        have f2931 := (pc6.keep K2500 nin0)
        have f2932 := (pd1.keep K2500)
        have f2933 := (pd2.keep K2500 nin0)
        have f2934 := (pd3.keep K2500)
        have f2935 := (pd4.keep K2500 nin0)
        have f2936 := (pd5.keep K2500 nin0)
        have f2937 := (pd6.keep K2500 nin0)
        have f2938 := (pe1.keep K2500)
        have f2939 := (pe2.keep K2500 nin0)
        have f2940 := (pe3.keep K2500)
        have f2941 := (pe4.keep K2500 nin0)
        have f2942 := (pe5.keep K2500 nin0)
        have f2943 := (pe6.keep K2500 nin0)
        have f2944 := (pV1.keep K2500)
        have f2945 := (pV2.keep K2500 nin0)
        have f2946 : n0 ≤ h2497.size := (Nat.le_trans z0 K2500.1)
        refine own_callS C S2503 (own_wd hw 83 rfl) (own_wd hw 84 rfl) (own_wd hw 6 rfl) (own_wd hw 85 rfl) (by decide) (own_Met.pay (own_lbN l Z a0 hw G1 G3 kda kdb kdc kdd kde lsa lsat lsak lsb lsbt lsbk lsc lsct lsck lsd lsdt lsdk lse lset lsek VA VAk h2497 n0 f2946 f2913 f2914 f2915 f2916 f2917 f2918 f2919 f2920 f2921 f2922 f2923 f2924 f2925 f2926 f2927 f2928 f2929 f2930 f2931 f2932 f2933 f2934 f2935 f2936 f2937 f2938 f2939 f2940 f2941 f2942 f2943 f2944 f2945 O2 O4 P5 rG3 OV) C 0 (own_wd hw 85 rfl) (own_wd hw 6 rfl) (by decide) (by decide)) (fun _ _ _ q => q.2) [.null] [] rfl own_pd10 rfl rfl rfl (Nat.le_of_ble_eq_true rfl) (by decide) (by decide) (by decide +kernel) ?_
        rintro T2948 h2949 v2950 L2951 S2952 ⟨⟨rfl, K2947⟩, -⟩
        show own_Go p e below _ T2948 (mkF m 206 #[.val (.int i0), .val (.int i1), .val (.int i2), .val (.int i3), .val (.int i4), .val (.int i5), .val (.ref a2298), .val (.ref a2299), .val (.int z2323), .val (.ref a2327), .val (.int n), .val .null, .unset] [.null])
        refine own_seg C S2952 [(206, .astore 12, 2), (208, .aload 12, 2), (210, .aload 11, 2)] (by decide +kernel) 212 #[.val (.int i0), .val (.int i1), .val (.int i2), .val (.int i3), .val (.int i4), .val (.int i5), .val (.ref a2298), .val (.ref a2299), .val (.int z2323), .val (.ref a2327), .val (.int n), .val .null, .val .null] [.null, .null] rfl ?_
        have f2953 : n0 ≤ h2949.size := (Nat.le_trans f2946 K2947.1)
        refine own_callS C S2952 (own_wd hw 114 rfl) (own_wd hw 115 rfl) (own_wd hw 3 rfl) (own_wd hw 116 rfl) (by decide) (own_Met.pay (own_exN l Z a0 hw  h2949 n0 f2953) C 1 (own_wd hw 116 rfl) (own_wd hw 3 rfl) (by decide) (by decide)) (fun _ _ _ q => q.2) [.null] [.null] rfl own_pd10 rfl rfl rfl (Nat.le_of_ble_eq_true rfl) (by decide) (by decide) (by decide +kernel) ?_
        rintro T2955 h2956 v2957 L2958 S2959 ⟨⟨rfl, e2954⟩, -⟩
        rw [e2954] at S2959; clear e2954
        show own_Go p e below _ T2955 (mkF m 215 #[.val (.int i0), .val (.int i1), .val (.int i2), .val (.int i3), .val (.int i4), .val (.int i5), .val (.ref a2298), .val (.ref a2299), .val (.int z2323), .val (.ref a2327), .val (.int n), .val .null, .val .null] [.null, .null])
        refine own_acmp C S2959 (q := .ne) (o := 7) rfl rfl (by decide +kernel) 222 (by decide) (by decide) (fun (hq : ¬ (.null : Value) = .null) => False.elim (hq rfl)) (fun (q2960 : (.null : Value) = .null) => ?_)
        refine own_seg C S2959 [(218, .iconst 1, 1), (219, .goto 4, 3)] (by decide +kernel) 223 #[.val (.int i0), .val (.int i1), .val (.int i2), .val (.int i3), .val (.int i4), .val (.int i5), .val (.ref a2298), .val (.ref a2299), .val (.int z2323), .val (.ref a2327), .val (.int n), .val .null, .val .null] [(.int 1)] rfl ?_
        have o2961 : h0.size ≤ a2327 := Nat.le_trans (Nat.le_refl _) o2501
        have f2962 : a2327 < h2949.size := (Nat.lt_of_lt_of_le aK.lt K2947.1)
        have SW2963 := rb2297 _ _ _ _ [] [a2327] S2959 (((Keep.refl _ _).trans K2500 all0).trans K2947 all0) all0 (allS ⟨o2961, f2962⟩ all0)
        refine own_retZW CW SW2963 (by decide +kernel) (by decide) (by decide) (by decide) ?_
        rfl
    refine own_if C S2499 (q := .eq) (o := 11) (by decide +kernel) 169 (by decide) (by decide) (fun (q2964 : (i5 &&& (8 : Int32)) = (0 : Int32)) => ?_) (fun (q2965 : ¬ (i5 &&& (8 : Int32)) = (0 : Int32)) => ?_)
    · refine own_seg C S2499 [(169, .iload_n 1, 1)] (by decide +kernel) 170 #[.val (.int i0), .val (.int i1), .val (.int i2), .val (.int i3), .val (.int i4), .val (.int i5), .val (.ref a2298), .val (.ref a2299), .val (.int z2323), .val (.ref a2327), .unset, .unset, .unset] [(.int i1)] rfl ?_
      refine own_ldc C S2499 (own_wd hw 0 rfl) (by decide +kernel) ?_
      refine own_seg C S2499 [(172, .iand, 1), (173, .bipush 9, 2)] (by decide +kernel) 175 #[.val (.int i0), .val (.int i1), .val (.int i2), .val (.int i3), .val (.int i4), .val (.int i5), .val (.ref a2298), .val (.ref a2299), .val (.int z2323), .val (.ref a2327), .unset, .unset, .unset] [(.int 9), (.int (i1 &&& 2147483647))] rfl ?_
      refine own_irem C S2499 (by decide +kernel) (by decide) ?_
      exact J176 T2498 ((i1 &&& 2147483647) % (9 : Int32)) S2499
    · refine own_seg C S2499 [(161, .aload 7, 2)] (by decide +kernel) 163 #[.val (.int i0), .val (.int i1), .val (.int i2), .val (.int i3), .val (.int i4), .val (.int i5), .val (.ref a2298), .val (.ref a2299), .val (.int z2323), .val (.ref a2327), .unset, .unset, .unset] [(.ref a2299)] rfl ?_
      have f2966 := (f2306.keep K2500)
      have f2967 := (f2307.keep K2500 nin0)
      have f2968 := (f2308.keep K2500 nin0)
      have f2969 := (f2309.keep K2500 nin0)
      have f2970 := (X00.keep K2500 all0)
      refine own_callV C S2499 (own_wd hw 19 rfl) (own_wd hw 20 rfl) (own_wd hw 22 rfl) (own_wd hw 22 rfl) rfl (own_wd hw 21 rfl) (by decide) (Q := (fun v h' L => v = some (.int (Int32.ofNat (y2302).length)) ∧ L = [] ∧ h' = h2497)) (StrChars.Road.lenW (W := 0) C.2.2.2.2.2.2.2 (fun d hd => hw d (own_hln d hd)) (kI := 4) (own_wd hw 61 rfl) f2966 f2967 f2968 f2969 (own_codG p2310) (own_up _ p2310) (O2.ext f2970.2) P5 (Nat.le_trans p2311 (by decide)) (by decide) (by decide)) (fun _ _ L q => by rw [q.2.1]; exact Fr.nil _) f2966 [] [] rfl own_pd1 rfl rfl rfl (Nat.le_of_ble_eq_true rfl) (by decide) (by decide) (by decide +kernel) ?_
      rintro T2972 h2973 v2974 L2975 S2976 ⟨rfl, -, e2971⟩
      rw [e2971] at S2976; clear e2971
      show own_Go p e below _ T2972 (mkF m 166 #[.val (.int i0), .val (.int i1), .val (.int i2), .val (.int i3), .val (.int i4), .val (.int i5), .val (.ref a2298), .val (.ref a2299), .val (.int z2323), .val (.ref a2327), .unset, .unset, .unset] [(.int (Int32.ofNat (y2302).length))])
      refine own_seg C S2976 [(166, .goto 10, 3)] (by decide +kernel) 176 #[.val (.int i0), .val (.int i1), .val (.int i2), .val (.int i3), .val (.int i4), .val (.int i5), .val (.ref a2298), .val (.ref a2299), .val (.int z2323), .val (.ref a2327), .unset, .unset, .unset] [(.int (Int32.ofNat (y2302).length))] rfl ?_
      exact J176 T2972 (Int32.ofNat (y2302).length) S2976
  refine own_if C S2491 (q := .eq) (o := 16) (by decide +kernel) 153 (by decide) (by decide) (fun (q2977 : (i5 &&& (4 : Int32)) = (0 : Int32)) => ?_) (fun (q2978 : ¬ (i5 &&& (4 : Int32)) = (0 : Int32)) => ?_)
  · exact J153 T2490 h2492 ([z2345, z2368, z2388, z2408, z2428, z2448, z2468, z2488] : List Int32) S2491 ((((((((((Keep.refl _ _).ext E2330).wr W2351 (Or.inr o2501)).wr W2373 (Or.inr o2501)).wr W2393 (Or.inr o2501)).wr W2413 (Or.inr o2501)).wr W2433 (Or.inr o2501)).wr W2453 (Or.inr o2501)).wr W2473 (Or.inr o2501)).wr W2493 (Or.inr o2501)) f2495 hp2496 rfl
  · refine own_seg C S2491 [(140, .aload 9, 2), (142, .iload_n 2, 1), (143, .bipush 7, 2), (145, .iand, 1), (146, .iload_n 3, 1), (147, .sipush 255, 3), (150, .iand, 1), (151, .i2c, 1)] (by decide +kernel) 152 #[.val (.int i0), .val (.int i1), .val (.int i2), .val (.int i3), .val (.int i4), .val (.int i5), .val (.ref a2298), .val (.ref a2299), .val (.int z2323), .val (.ref a2327), .unset, .unset, .unset] [(.int ((i3 &&& (255 : Int32)).toUInt32.toUInt16.toUInt32.toInt32)), (.int (i2 &&& (7 : Int32))), (.ref a2327)] rfl ?_
    rw [show (i3 &&& (255 : Int32)).toUInt32.toUInt16.toUInt32.toInt32 = (i3 &&& (255 : Int32)) from i2c_mask i3]
    refine own_castore C S2491 f2495 (own_i7 i2).1 ((i2 &&& (7 : Int32)).toNatClampNeg) rfl (own_i7 i2).2 (i3 &&& (255 : Int32)) (i2c_mask i3) g2347 (by decide +kernel) ?_
    intro T2979 h2981 S2980 W2982 f2983
    have f2984 : Arv Z h2981 a2327 k2328 .char (8 : Int32) (own_iv (([z2345, z2368, z2388, z2408, z2428, z2448, z2468, z2488] : List Int32).set (i2 &&& (7 : Int32)).toNatClampNeg (i3 &&& (255 : Int32)))) (.int 0) := by rw [← (own_ivs ([z2345, z2368, z2388, z2408, z2428, z2448, z2468, z2488] : List Int32) (i2 &&& (7 : Int32)).toNatClampNeg (i3 &&& (255 : Int32)))]; exact f2983
    exact J153 T2979 h2981 (([z2345, z2368, z2388, z2408, z2428, z2448, z2468, z2488] : List Int32).set (i2 &&& (7 : Int32)).toNatClampNeg (i3 &&& (255 : Int32))) S2980 (((((((((((Keep.refl _ _).ext E2330).wr W2351 (Or.inr o2501)).wr W2373 (Or.inr o2501)).wr W2393 (Or.inr o2501)).wr W2413 (Or.inr o2501)).wr W2433 (Or.inr o2501)).wr W2453 (Or.inr o2501)).wr W2473 (Or.inr o2501)).wr W2493 (Or.inr o2501)).wr W2982 (Or.inr o2501)) f2984 (own_hxs hp2496 (own_and255 i3)) (by rw [List.length_set]; rfl)
theorem own_sAt : ∀ a ∈ Bundle.stringAtoms, a ∈ tables_1 := by decide +kernel
set_option maxRecDepth 65536 in
theorem own_ELok {Z : State} {a0 : Array Value} (hw : ∀ d ∈ tables_1, d.before a0 Z = true) : EW Z a0 own_EL := (EW.cons (own_wd hw 117 rfl) (by decide) (EW.cons (own_wd hw 121 rfl) (by decide) (EW.cons (own_wd hw 122 rfl) (by decide) (EW.cons (own_wd hw 123 rfl) (by decide) (EW.cons (own_wd hw 124 rfl) (by decide) (EW.cons (own_wd hw 128 rfl) (by decide) EW.nil))))))
theorem comes_1 {Post : Tables → Env → Array Value → State → Outcome → State → Prop} (hpost : ∀ tb e args s v u, (limb_1_1.after args s (.returned v) u = true ∧ limb_1_2.after args s (.returned v) u = true ∧ True) → Jvm.D.FramedW s (.returned v) u (Jvm.fieldLocs frame_1_writes args s ++ Jvm.arrayLocs frame_1_arrays args s ++ Jvm.staticLocs frame_1_statics s) 32 6336 → Post tb e args s (.returned v) u) :
    ArmFor flags0 classFile x code maxLocals ret World_1 tables_1 room_1 Calls_1 rest_1 Pre_1 Post := by
  intro l hfl _ _ p e ha hc hk s m args below hf hA hF happ hP
  obtain ⟨hcalls, hrest, hpre⟩ := hP
  obtain ⟨-, -, -, hnamed, -, -, -, hat⟩ := (Spec.applies_iff hf).mp happ
  obtain ⟨hg, hn⟩ := and_e (Cond.before_iff.mp (show (Jvm.Cond.and given_1 narrow_1).before args s = true from hpre))
  obtain ⟨hcount, hk0⟩ := and_e hg
  obtain ⟨ha0, hk1⟩ := and_e hk0
  obtain ⟨ha1, hk2⟩ := and_e hk1
  obtain ⟨ha2, hk3⟩ := and_e hk2
  obtain ⟨ha3, hk4⟩ := and_e hk3
  obtain ⟨ha4, hk5⟩ := and_e hk4
  obtain ⟨w0, w1, w2, w3, w4, w5, rfl⟩ : ∃ w0 w1 w2 w3 w4 w5 : Value, args = #[w0, w1, w2, w3, w4, w5] := by
    have hs : args.size = 6 := by simpa [Cond.value, given_1] using hcount
    obtain ⟨L⟩ := args
    match L, hs with
    | [w0, w1, w2, w3, w4, w5], _ => exact ⟨w0, w1, w2, w3, w4, w5, rfl⟩
  have hw := fun d (hd : d ∈ tables_1) => atoms_spec (ws := Jvm.Cond.code x code maxLocals ret :: tables_1) hat d (List.mem_cons_of_mem _ hd)
  obtain ⟨i0, ei0⟩ := is_v ha0
  obtain rfl : w0 = (.int i0) := Option.some.inj ei0
  obtain ⟨i1, ei1⟩ := is_v ha1
  obtain rfl : w1 = (.int i1) := Option.some.inj ei1
  obtain ⟨i2, ei2⟩ := is_v ha2
  obtain rfl : w2 = (.int i2) := Option.some.inj ei2
  obtain ⟨i3, ei3⟩ := is_v ha3
  obtain rfl : w3 = (.int i3) := Option.some.inj ei3
  obtain ⟨i4, ei4⟩ := is_v ha4
  obtain rfl : w4 = (.int i4) := Option.some.inj ei4
  obtain ⟨i5, ei5⟩ := is_v hk5
  obtain rfl : w5 = (.int i5) := Option.some.inj ei5
  obtain ⟨hsets, hown0⟩ := atoms_of _ (rest_1_c_eq ▸ (show rest_1_c.before _ s = true from hrest))
  have nz := not_v (Cond.before_iff.mp (hsets _ (List.mem_of_getElem? (i := 2) rfl)))
  obtain ⟨g1, eg1⟩ := is_v (Cond.before_iff.mp (hsets _ (List.mem_of_getElem? (i := 1) rfl)))
  have O2 : Sta s s.heap "java/lang/String" "COMPACT_STRINGS" "Z" (.int g1) := Sta.start eg1 (Or.inl (hsets _ (List.mem_of_getElem? (i := 0) rfl)))
  obtain ⟨g3, eg3, rg3⟩ := isR_v (Cond.before_iff.mp (hsets _ (List.mem_of_getElem? (i := 8) rfl)))
  have O4 : Sta s s.heap "jdk/internal/util/Preconditions" "SIOOBE_FORMATTER" "Ljava/util/function/BiFunction;" g3 := Sta.start eg3 (Or.inl (hsets _ (List.mem_of_getElem? (i := 7) rfl)))
  have P5 : ¬ (g1 = (0 : Int32)) := gotF (Cond.eq_ints eg1 (Term.int_eval (0))) nz
  obtain ⟨c0, d0⟩ := and_e hn
  obtain ⟨c1, d1⟩ := and_e d0
  obtain ⟨c2, d2⟩ := and_e d1
  obtain ⟨c3, d3⟩ := and_e d2
  obtain ⟨c4, d4⟩ := and_e d3
  obtain ⟨c5, d5⟩ := and_e d4
  obtain ⟨c6, d6⟩ := and_e d5
  obtain ⟨c7, d7⟩ := and_e d6
  obtain ⟨c8, d8⟩ := and_e d7
  obtain ⟨c9, d9⟩ := and_e d8
  obtain ⟨c10, d10⟩ := and_e d9
  obtain ⟨c11, d11⟩ := and_e d10
  obtain ⟨c12, d12⟩ := and_e d11
  obtain ⟨c13, d13⟩ := and_e d12
  obtain ⟨c14, d14⟩ := and_e d13
  obtain ⟨c15, d15⟩ := and_e d14
  obtain ⟨c16, d16⟩ := and_e d15
  obtain ⟨c17, d17⟩ := and_e d16
  obtain ⟨c18, d18⟩ := and_e d17
  obtain ⟨c19, d19⟩ := and_e d18
  obtain ⟨c20, d20⟩ := and_e d19
  obtain ⟨c21, d21⟩ := and_e d20
  obtain ⟨c22, d22⟩ := and_e d21
  obtain ⟨c23, d23⟩ := and_e d22
  obtain ⟨c24, d24⟩ := and_e d23
  obtain ⟨c25, d25⟩ := and_e d24
  obtain ⟨c26, d26⟩ := and_e d25
  obtain ⟨c27, d27⟩ := and_e d26
  obtain ⟨c28, d28⟩ := and_e d27
  obtain ⟨c29, d29⟩ := and_e d28
  obtain ⟨c30, d30⟩ := and_e d29
  obtain ⟨c31, d31⟩ := and_e d30
  obtain ⟨c32, d32⟩ := and_e d31
  obtain ⟨c33, d33⟩ := and_e d32
  obtain ⟨c34, d34⟩ := and_e d33
  obtain ⟨c35, d35⟩ := and_e d34
  obtain ⟨c36, d36⟩ := and_e d35
  obtain ⟨c37, d37⟩ := and_e d36
  obtain ⟨c38, d38⟩ := and_e d37
  obtain ⟨c39, d39⟩ := and_e d38
  obtain ⟨c40, d40⟩ := and_e d39
  obtain ⟨c41, d41⟩ := and_e d40
  obtain ⟨c42, d42⟩ := and_e d41
  obtain ⟨c43, d43⟩ := and_e d42
  obtain ⟨c44, d44⟩ := and_e d43
  obtain ⟨c45, d45⟩ := and_e d44
  obtain ⟨c46, d46⟩ := and_e d45
  obtain ⟨c47, d47⟩ := and_e d46
  obtain ⟨c48, d48⟩ := and_e d47
  obtain ⟨c49, d49⟩ := and_e d48
  obtain ⟨c50, d50⟩ := and_e d49
  obtain ⟨c51, d51⟩ := and_e d50
  obtain ⟨c52, d52⟩ := and_e d51
  obtain ⟨c53, d53⟩ := and_e d52
  obtain ⟨c54, d54⟩ := and_e d53
  obtain ⟨c55, d55⟩ := and_e d54
  obtain ⟨c56, d56⟩ := and_e d55
  obtain ⟨c57, d57⟩ := and_e d56
  have c58 := d57
  obtain ⟨kda, eka⟩ := exa_v c0
  have Oa := Sta.start eka (Or.inr ⟨(own_wd hw 6 rfl), (own_wd hw 7 rfl)⟩)
  have pa1 := Exa.start eka c0
  obtain ⟨lsa, ela⟩ := exa_v c1
  have pa2 := own_fT eka ela
  have pa3 := Exa.start ela c1
  obtain ⟨lsat, eva⟩ := arr_v c2
  have pa4 := own_fT ela eva
  have pa5 := own_fT ela (own_eqT c4)
  obtain ⟨lsak, pa6⟩ := own_TA (dv := .int 0) (n := 4) (own_sv own_L0) (by decide) eva c2 (own_eqT c3) (fun i hi => by
    match i, hi with
    | 0, _ => exact own_eqT c5
    | 1, _ => exact own_eqT c6
    | 2, _ => exact own_eqT c7
    | 3, _ => exact own_eqT c8
    | i + 4, hi => omega) (by decide)
  obtain ⟨kdb, ekb⟩ := exa_v c13
  have Ob := Sta.start ekb (Or.inr ⟨(own_wd hw 6 rfl), (own_wd hw 98 rfl)⟩)
  have pb1 := Exa.start ekb c13
  obtain ⟨lsb, elb⟩ := exa_v c21
  have pb2 := own_fT ekb elb
  have pb3 := Exa.start elb c21
  obtain ⟨lsbt, evb⟩ := arr_v c23
  have pb4 := own_fT elb evb
  have pb5 := own_fT elb (own_eqT c22)
  obtain ⟨lsbk, pb6⟩ := own_TA (dv := .int 0) (n := 7) (own_sv own_L1) (by decide) evb c23 (own_eqT c24) (fun i hi => by
    match i, hi with
    | 0, _ => exact own_eqT c41
    | 1, _ => exact own_eqT c42
    | 2, _ => exact own_eqT c43
    | 3, _ => exact own_eqT c44
    | 4, _ => exact own_eqT c45
    | 5, _ => exact own_eqT c46
    | 6, _ => exact own_eqT c47
    | i + 7, hi => omega) (by decide)
  obtain ⟨kdc, ekc⟩ := exa_v c15
  have Oc := Sta.start ekc (Or.inr ⟨(own_wd hw 6 rfl), (own_wd hw 99 rfl)⟩)
  have pc1 := Exa.start ekc c15
  obtain ⟨lsc, elc⟩ := exa_v c25
  have pc2 := own_fT ekc elc
  have pc3 := Exa.start elc c25
  obtain ⟨lsct, evc⟩ := arr_v c27
  have pc4 := own_fT elc evc
  have pc5 := own_fT elc (own_eqT c26)
  obtain ⟨lsck, pc6⟩ := own_TA (dv := .int 0) (n := 6) (own_sv own_L2) (by decide) evc c27 (own_eqT c28) (fun i hi => by
    match i, hi with
    | 0, _ => exact own_eqT c48
    | 1, _ => exact own_eqT c49
    | 2, _ => exact own_eqT c50
    | 3, _ => exact own_eqT c51
    | 4, _ => exact own_eqT c52
    | 5, _ => exact own_eqT c53
    | i + 6, hi => omega) (by decide)
  obtain ⟨kdd, ekd⟩ := exa_v c17
  have Od := Sta.start ekd (Or.inr ⟨(own_wd hw 6 rfl), (own_wd hw 100 rfl)⟩)
  have pd1 := Exa.start ekd c17
  obtain ⟨lsd, eld⟩ := exa_v c29
  have pd2 := own_fT ekd eld
  have pd3 := Exa.start eld c29
  obtain ⟨lsdt, evd⟩ := arr_v c31
  have pd4 := own_fT eld evd
  have pd5 := own_fT eld (own_eqT c30)
  obtain ⟨lsdk, pd6⟩ := own_TA (dv := .int 0) (n := 4) (own_sv own_L3) (by decide) evd c31 (own_eqT c32) (fun i hi => by
    match i, hi with
    | 0, _ => exact own_eqT c37
    | 1, _ => exact own_eqT c38
    | 2, _ => exact own_eqT c39
    | 3, _ => exact own_eqT c40
    | i + 4, hi => omega) (by decide)
  obtain ⟨kde, eke⟩ := exa_v c19
  have Oe := Sta.start eke (Or.inr ⟨(own_wd hw 6 rfl), (own_wd hw 101 rfl)⟩)
  have pe1 := Exa.start eke c19
  obtain ⟨lse, ele⟩ := exa_v c33
  have pe2 := own_fT eke ele
  have pe3 := Exa.start ele c33
  obtain ⟨lset, eve⟩ := arr_v c35
  have pe4 := own_fT ele eve
  have pe5 := own_fT ele (own_eqT c34)
  obtain ⟨lsek, pe6⟩ := own_TA (dv := .int 0) (n := 5) (own_sv own_L4) (by decide) eve c35 (own_eqT c36) (fun i hi => by
    match i, hi with
    | 0, _ => exact own_eqT c54
    | 1, _ => exact own_eqT c55
    | 2, _ => exact own_eqT c56
    | 3, _ => exact own_eqT c57
    | 4, _ => exact own_eqT c58
    | i + 5, hi => omega) (by decide)
  obtain ⟨VA, eV⟩ := exa_v c10
  have OV := Sta.start eV (Or.inr ⟨(own_wd hw 6 rfl), (own_wd hw 90 rfl)⟩)
  have pV1 := Exa.start eV c10
  obtain ⟨VAk, pV2⟩ := own_TA (dv := .null) (n := 5) [.ref kda, .ref kdb, .ref kdc, .ref kdd, .ref kde] (by decide) eV c9 (own_eqT c11) (fun i hi => by
    match i, hi with
    | 0, _ => exact own_eqR c12 eka
    | 1, _ => exact own_eqR c14 ekb
    | 2, _ => exact own_eqR c16 ekc
    | 3, _ => exact own_eqR c18 ekd
    | 4, _ => exact own_eqR c20 eke
    | i + 5, hi => omega) (fun i hi => by
    match i, hi with
    | 0, _ => rfl
    | 1, _ => rfl
    | 2, _ => rfl
    | 3, _ => rfl
    | 4, _ => rfl
    | i + 5, hi => omega)
  have hEL : EW s _ own_EL := own_ELok hw
  have wS : ∀ a ∈ Bundle.stringAtoms, a.before _ s = true := fun a ha => hw a (own_sAt a ha)
  have hCH : CHv s own_EL s.vm s.heap := CHv.start hEL (fun p hp => hcalls.1 p hp) (hsets _ (List.mem_of_getElem? (i := 2) rfl)) (own_wd hw 76 rfl) (own_wd hw 61 rfl)
  obtain ⟨n, o, g1, g2, g3, _, L, rfl, ⟨rfl, N⟩, -, hq⟩ := own_law l s _ hw hEL wS  g1 g3 kda kdb kdc kdd kde lsa lsat lsak lsb lsbt lsbk lsc lsct lsck lsd lsdt lsdk lse lset lsek VA VAk i0 i1 i2 i3 i4 i5 s.heap s.heap.size (Nat.le_refl _) (Old.start s) pa1 pa2 pa3 pa4 pa5 pa6 pb1 pb2 pb3 pb4 pb5 pb6 pc1 pc2 pc3 pc4 pc5 pc6 pd1 pd2 pd3 pd4 pd5 pd6 pe1 pe2 pe3 pe4 pe5 pe6 pV1 pV2 O2 O4 P5 rg3 Oa Ob Oc Od Oe OV tables_1 p e ha hc hk s m _ below hf ((Spec.applies_iff_loose hf).mp happ).1 ⟨rfl, State.Warmed39.refl s, rfl, hCH, all0⟩ trivial
  refine ⟨n, _, g1, g2, g3, hpost _ _ _ _ _ _ ⟨Cond.after_iff.mpr rfl, Cond.after_iff.mpr (eq_i res_at (Term.int_eval (1)) rfl), trivial⟩ ⟨hq.1, hq.2.1, hq.2.2.1, (hq.2.2.2.sift fun y hy => Or.inr (N y hy)).mono (by decide) (by decide)⟩⟩
theorem main_1_1 : Claimed_1_1 := comes_1 fun _ _ _ _ _ _ h hF => ⟨h.1, hF⟩
theorem main_1_2 : Claimed_1_2 := comes_1 fun _ _ _ _ _ _ h hF => ⟨h.2.1, hF⟩
end Jvm.Pilot.@@N@@
namespace Jvm.Pilot.@@N@@
open Jvm Jvm.ClassFile Sem Op Lib Jvm.Free Jvm.Stand Jvm.Pilot.@@N@@.Jvm.D
/-! MADE BY PROGRAM (witnessworld.py) out of the Statement's table words and the real class files: 22 classes; the members and pool entries that the words name. The judged class is class 1, her method 1. -/
namespace start1
open Jvm.ClassFile
def u (s : String) : CpInfo := .utf8 (stringToUtf16 s)
/-- a pool by its gaps: so many unusable entries, then the entry; so many at the end -/
def gap : Nat → List CpInfo → List CpInfo
  | 0, r => r
  | n + 1, r => .unusable :: gap n r
def poolList (es : List (Nat × CpInfo)) (last : Nat) : List CpInfo := es.foldr (fun e r => gap e.1 (e.2 :: r)) (gap last [])
def pool (es : List (Nat × CpInfo)) (last : Nat) : Array CpInfo := ⟨poolList es last⟩
def fileOf (pool : Array CpInfo) (this : Nat) (attrs : Array Attribute := #[]) (ms : Array MethodInfo := #[]) (fl : Nat := 33) (sup : Nat := 0) (ifs : Array Nat := #[]) (fds : Array FieldInfo := #[]) : ClassFile where
  minorVersion := 0
  majorVersion := 65
  constantPool := pool
  accessFlags := fl
  thisClass := this
  superClass := sup
  interfaces := ifs
  fields := fds
  methods := ms
  attributes := attrs
def plain (name : String) (sup : Option ClassId) : Class where
  name := name
  kind := .ordinary
  loader := none
  accessFlags := 33
  super := sup
  interfaces := #[]
  cf := none
  fields := #[]
  methods := #[]
  instanceTypes := #[]
  staticTypes := #[]
  resolved := #[]
  callSites := []
  init := .initialized
  statics := none
  mirror := none

def pool0 : Array CpInfo := pool [(5, u "<init>"), (0, u "()V"), (1, .class_ 10), (1, u "java/lang/Object"), (85, u "clone"), (0, u "()Ljava/lang/Object;")] 26

def k0c0 : Code := { maxStack := 0, maxLocals := 1, code := object_method_1_code, exceptionTable := #[], attributes := #[] }
def k0m0 : Method := { name := "<init>", desc := "()V", sig := { parameters := [], returnType := none }, accessFlags := 1, code := some k0c0 }
def k0m1 : Method := { name := "clone", desc := "()Ljava/lang/Object;", sig := { parameters := [], returnType := some (.object "java/lang/Object") }, accessFlags := 260, code := none }
/-- java/lang/Object -/
def k0 : Class := { plain "java/lang/Object" none with
  accessFlags := 33
  interfaces := #[]
  cf := some (fileOf pool0 8 #[] #[{ accessFlags := 1, nameIndex := 5, descriptorIndex := 6, attributes := #[] }, { accessFlags := 260, nameIndex := 96, descriptorIndex := 97, attributes := #[] }] 33 0 #[] #[])
  fields := #[]
  methods := #[k0m0, k0m1]
  instanceTypes := #[]
  staticTypes := #[]
  resolved := Array.replicate 124 none
  statics := none }

def pool1 : Array CpInfo := pool [(2, .class_ 4), (1, u "java/lang/Object"), (0, u "<init>"), (0, u "()V"), (0, .integer 2147483647), (0, .methodref 9 10), (0, .class_ 11), (0, .nameAndType 12 13), (0, u "com/example/persephone/persephone/lucene/FieldKindLabelledPinLaw"), (0, u "kind"), (0, u "(I)Lcom/example/persephone/persephone/lucene/FieldKind;"), (0, .methodref 15 16), (0, .class_ 17), (0, .nameAndType 18 19), (0, u "com/example/persephone/persephone/lucene/FieldKind"), (0, u "toString"), (0, u "()Ljava/lang/String;"), (0, .methodref 9 21), (0, .nameAndType 22 23), (0, u "at"), (0, u "(Ljava/lang/String;IC)C"), (0, .methodref 25 26), (0, .class_ 27), (0, .nameAndType 28 29), (0, u "java/lang/String"), (0, u "length"), (0, u "()I"), (0, .methodref 9 31), (0, .nameAndType 32 33), (0, u "str"), (0, u "([CI)Ljava/lang/String;"), (0, .methodref 15 35), (0, .nameAndType 36 37), (0, u "labelled"), (0, u "(Ljava/lang/String;)Lcom/example/persephone/persephone/lucene/FieldKind;"), (0, .methodref 9 39), (0, .nameAndType 40 37), (0, u "expected"), (0, .fieldref 15 42), (0, .nameAndType 43 44), (0, u "TEXT"), (0, u "Lcom/example/persephone/persephone/lucene/FieldKind;"), (0, .fieldref 15 46), (0, .nameAndType 47 44), (0, u "KEYWORD"), (0, .fieldref 15 49), (0, .nameAndType 50 44), (0, u "NUMBER"), (0, .fieldref 15 52), (0, .nameAndType 53 44), (0, u "DATE"), (0, .fieldref 15 55), (0, .nameAndType 56 44), (0, u "POINT"), (0, .methodref 25 58), (0, .nameAndType 59 60), (0, u "charAt"), (0, u "(I)C"), (0, .methodref 25 62), (0, .nameAndType 5 63), (0, u "([C)V"), (0, .string 65), (0, u "text"), (0, .methodref 25 67), (0, .nameAndType 68 69), (0, u "equals"), (0, u "(Ljava/lang/Object;)Z"), (0, .string 71), (0, u "keyword"), (0, .string 73), (0, u "number"), (0, .string 75), (0, u "date"), (0, .string 77), (0, u "point"), (2, u "law"), (0, u "(IIIIII)Z")] 5

def k1m0 : Method := { name := "<init>", desc := "()V", sig := { parameters := [], returnType := none }, accessFlags := 1, code := none }
def k1c1 : Code := { maxStack := 5, maxLocals := 13, code := code, exceptionTable := #[], attributes := #[] }
def k1m1 : Method := { name := "law", desc := "(IIIIII)Z", sig := { parameters := [.int, .int, .int, .int, .int, .int], returnType := some .boolean }, accessFlags := 9, code := some k1c1 }
def k1c2 : Code := { maxStack := 2, maxLocals := 1, code := method_3_code, exceptionTable := #[], attributes := #[] }
def k1m2 : Method := { name := "kind", desc := "(I)Lcom/example/persephone/persephone/lucene/FieldKind;", sig := { parameters := [.int], returnType := some (.object "com/example/persephone/persephone/lucene/FieldKind") }, accessFlags := 10, code := some k1c2 }
def k1c3 : Code := { maxStack := 2, maxLocals := 3, code := method_4_code, exceptionTable := #[], attributes := #[] }
def k1m3 : Method := { name := "at", desc := "(Ljava/lang/String;IC)C", sig := { parameters := [(.object "java/lang/String"), .int, .char], returnType := some .char }, accessFlags := 10, code := some k1c3 }
def k1c4 : Code := { maxStack := 7, maxLocals := 2, code := method_5_code, exceptionTable := #[], attributes := #[] }
def k1m4 : Method := { name := "str", desc := "([CI)Ljava/lang/String;", sig := { parameters := [(.array .char), .int], returnType := some (.object "java/lang/String") }, accessFlags := 10, code := some k1c4 }
def k1c5 : Code := { maxStack := 2, maxLocals := 1, code := method_6_code, exceptionTable := #[], attributes := #[] }
def k1m5 : Method := { name := "expected", desc := "(Ljava/lang/String;)Lcom/example/persephone/persephone/lucene/FieldKind;", sig := { parameters := [(.object "java/lang/String")], returnType := some (.object "com/example/persephone/persephone/lucene/FieldKind") }, accessFlags := 10, code := some k1c5 }
/-- com/example/persephone/persephone/lucene/FieldKindLabelledPinLaw -/
def k1 : Class := { plain "com/example/persephone/persephone/lucene/FieldKindLabelledPinLaw" (some 0) with
  accessFlags := 49
  interfaces := #[]
  cf := some (fileOf pool1 9 #[] #[{ accessFlags := 1, nameIndex := 5, descriptorIndex := 6, attributes := #[] }, { accessFlags := 9, nameIndex := 80, descriptorIndex := 81, attributes := #[] }, { accessFlags := 10, nameIndex := 12, descriptorIndex := 13, attributes := #[] }, { accessFlags := 10, nameIndex := 22, descriptorIndex := 23, attributes := #[] }, { accessFlags := 10, nameIndex := 32, descriptorIndex := 33, attributes := #[] }, { accessFlags := 10, nameIndex := 40, descriptorIndex := 37, attributes := #[] }] 49 2 #[] #[])
  fields := #[]
  methods := #[k1m0, k1m1, k1m2, k1m3, k1m4, k1m5]
  instanceTypes := #[]
  staticTypes := #[]
  resolved := Array.replicate 87 none
  statics := none }

def pool2 : Array CpInfo := pool [(1, .class_ 2), (0, u "java/lang/constant/Constable"), (0, .class_ 4), (0, u "java/lang/Object")] 6

/-- java/lang/constant/Constable -/
def k2 : Class := { plain "java/lang/constant/Constable" (some 0) with
  accessFlags := 1537
  interfaces := #[]
  cf := some (fileOf pool2 1 #[] #[] 1537 3 #[] #[])
  fields := #[]
  methods := #[]
  instanceTypes := #[]
  staticTypes := #[]
  resolved := Array.replicate 11 none
  statics := none }

def pool3 : Array CpInfo := pool [(1, .class_ 2), (0, u "java/lang/Comparable"), (0, .class_ 4), (0, u "java/lang/Object")] 7

/-- java/lang/Comparable -/
def k3 : Class := { plain "java/lang/Comparable" (some 0) with
  accessFlags := 1537
  interfaces := #[]
  cf := some (fileOf pool3 1 #[] #[] 1537 3 #[] #[])
  fields := #[]
  methods := #[]
  instanceTypes := #[]
  staticTypes := #[]
  resolved := Array.replicate 12 none
  statics := none }

def pool4 : Array CpInfo := pool [(1, .class_ 2), (0, u "java/io/Serializable"), (0, .class_ 4), (0, u "java/lang/Object")] 2

/-- java/io/Serializable -/
def k4 : Class := { plain "java/io/Serializable" (some 0) with
  accessFlags := 1537
  interfaces := #[]
  cf := some (fileOf pool4 1 #[] #[] 1537 3 #[] #[])
  fields := #[]
  methods := #[]
  instanceTypes := #[]
  staticTypes := #[]
  resolved := Array.replicate 7 none
  statics := none }

def pool5 : Array CpInfo := pool [(2, .class_ 4), (1, u "java/lang/Enum"), (0, u "name"), (0, u "Ljava/lang/String;"), (2, u "ordinal"), (0, u "I"), (1, .class_ 14), (1, u "java/lang/Object"), (4, u "hash"), (86, .class_ 108), (1, u "java/lang/Enum$EnumDesc"), (2, .class_ 112), (0, u "java/lang/constant/Constable"), (0, .class_ 114), (0, u "java/lang/Comparable"), (0, .class_ 116), (0, u "java/io/Serializable")] 87

/-- java/lang/Enum -/
def k5 : Class := { plain "java/lang/Enum" (some 0) with
  accessFlags := 1057
  interfaces := #[2, 3, 4]
  cf := some (fileOf pool5 2 #[.nestMembers #[106]] #[] 1057 12 #[111, 113, 115] #[{ accessFlags := 18, nameIndex := 5, descriptorIndex := 6, attributes := #[] }, { accessFlags := 18, nameIndex := 9, descriptorIndex := 10, attributes := #[] }, { accessFlags := 2, nameIndex := 19, descriptorIndex := 10, attributes := #[] }])
  fields := #[{ name := "name", type := (.object "java/lang/String"), accessFlags := 18, slot := 0, constantValue := 0 }, { name := "ordinal", type := .int, accessFlags := 18, slot := 1, constantValue := 0 }, { name := "hash", type := .int, accessFlags := 2, slot := 2, constantValue := 0 }]
  methods := #[]
  instanceTypes := #[(.object "java/lang/String"), .int, .int]
  staticTypes := #[]
  resolved := Array.replicate 204 none
  statics := none }

def pool6 : Array CpInfo := pool [(1, .class_ 2), (0, u "com/example/persephone/persephone/lucene/FieldKind"), (2, u "TEXT"), (0, u "Lcom/example/persephone/persephone/lucene/FieldKind;"), (2, u "KEYWORD"), (2, u "NUMBER"), (2, u "DATE"), (2, u "POINT"), (0, .fieldref 1 20), (0, .nameAndType 21 22), (0, u "$VALUES"), (0, u "[Lcom/example/persephone/persephone/lucene/FieldKind;"), (0, .methodref 24 25), (0, .class_ 22), (0, .nameAndType 26 27), (0, u "clone"), (0, u "()Ljava/lang/Object;"), (1, .class_ 31), (1, u "java/lang/Enum"), (6, .fieldref 1 39), (0, .nameAndType 40 41), (0, u "label"), (0, u "Ljava/lang/String;"), (0, .methodref 1 43), (0, .nameAndType 44 45), (0, u "values"), (0, u "()[Lcom/example/persephone/persephone/lucene/FieldKind;"), (0, .methodref 47 48), (0, .class_ 49), (0, .nameAndType 50 51), (0, u "java/lang/String"), (0, u "equals"), (0, u "(Ljava/lang/Object;)Z"), (23, u "(Ljava/lang/String;)Lcom/example/persephone/persephone/lucene/FieldKind;"), (3, u "labelled"), (1, u "toString"), (0, u "()Ljava/lang/String;")] 5

def k6c0 : Code := { maxStack := 1, maxLocals := 0, code := prog_17_method_1_code, exceptionTable := #[], attributes := #[] }
def k6m0 : Method := { name := "values", desc := "()[Lcom/example/persephone/persephone/lucene/FieldKind;", sig := { parameters := [], returnType := some (.array (.object "com/example/persephone/persephone/lucene/FieldKind")) }, accessFlags := 9, code := some k6c0 }
def k6c1 : Code := { maxStack := 2, maxLocals := 6, code := prog_17_method_4_code, exceptionTable := #[], attributes := #[] }
def k6m1 : Method := { name := "labelled", desc := "(Ljava/lang/String;)Lcom/example/persephone/persephone/lucene/FieldKind;", sig := { parameters := [(.object "java/lang/String")], returnType := some (.object "com/example/persephone/persephone/lucene/FieldKind") }, accessFlags := 9, code := some k6c1 }
def k6c2 : Code := { maxStack := 1, maxLocals := 1, code := prog_17_method_5_code, exceptionTable := #[], attributes := #[] }
def k6m2 : Method := { name := "toString", desc := "()Ljava/lang/String;", sig := { parameters := [], returnType := some (.object "java/lang/String") }, accessFlags := 1, code := some k6c2 }
/-- com/example/persephone/persephone/lucene/FieldKind -/
def k6 : Class := { plain "com/example/persephone/persephone/lucene/FieldKind" (some 5) with
  accessFlags := 16433
  interfaces := #[]
  cf := some (fileOf pool6 1 #[] #[{ accessFlags := 9, nameIndex := 44, descriptorIndex := 45, attributes := #[] }, { accessFlags := 9, nameIndex := 79, descriptorIndex := 75, attributes := #[] }, { accessFlags := 1, nameIndex := 81, descriptorIndex := 82, attributes := #[] }] 16433 29 #[] #[{ accessFlags := 16409, nameIndex := 5, descriptorIndex := 6, attributes := #[] }, { accessFlags := 16409, nameIndex := 9, descriptorIndex := 6, attributes := #[] }, { accessFlags := 16409, nameIndex := 12, descriptorIndex := 6, attributes := #[] }, { accessFlags := 16409, nameIndex := 15, descriptorIndex := 6, attributes := #[] }, { accessFlags := 16409, nameIndex := 18, descriptorIndex := 6, attributes := #[] }, { accessFlags := 18, nameIndex := 40, descriptorIndex := 41, attributes := #[] }, { accessFlags := 4122, nameIndex := 21, descriptorIndex := 22, attributes := #[] }])
  fields := #[{ name := "TEXT", type := (.object "com/example/persephone/persephone/lucene/FieldKind"), accessFlags := 16409, slot := 0, constantValue := 0 }, { name := "KEYWORD", type := (.object "com/example/persephone/persephone/lucene/FieldKind"), accessFlags := 16409, slot := 1, constantValue := 0 }, { name := "NUMBER", type := (.object "com/example/persephone/persephone/lucene/FieldKind"), accessFlags := 16409, slot := 2, constantValue := 0 }, { name := "DATE", type := (.object "com/example/persephone/persephone/lucene/FieldKind"), accessFlags := 16409, slot := 3, constantValue := 0 }, { name := "POINT", type := (.object "com/example/persephone/persephone/lucene/FieldKind"), accessFlags := 16409, slot := 4, constantValue := 0 }, { name := "label", type := (.object "java/lang/String"), accessFlags := 18, slot := 3, constantValue := 0 }, { name := "$VALUES", type := (.array (.object "com/example/persephone/persephone/lucene/FieldKind")), accessFlags := 4122, slot := 5, constantValue := 0 }]
  methods := #[k6m0, k6m1, k6m2]
  instanceTypes := #[(.object "java/lang/String"), .int, .int, (.object "java/lang/String")]
  staticTypes := #[(.object "com/example/persephone/persephone/lucene/FieldKind"), (.object "com/example/persephone/persephone/lucene/FieldKind"), (.object "com/example/persephone/persephone/lucene/FieldKind"), (.object "com/example/persephone/persephone/lucene/FieldKind"), (.object "com/example/persephone/persephone/lucene/FieldKind"), (.array (.object "com/example/persephone/persephone/lucene/FieldKind"))]
  resolved := Array.replicate 88 none
  statics := some 0 }

def pool7 : Array CpInfo := pool [(2, .class_ 4), (1, u "java/lang/CharSequence"), (42, .class_ 48), (0, u "java/lang/CharSequence$1CodePointIterator"), (10, .class_ 60), (0, u "java/lang/CharSequence$1CharIterator"), (5, .class_ 67), (0, u "java/lang/Object")] 63

/-- java/lang/CharSequence -/
def k7 : Class := { plain "java/lang/CharSequence" (some 0) with
  accessFlags := 1537
  interfaces := #[]
  cf := some (fileOf pool7 2 #[.nestMembers #[47, 59]] #[] 1537 66 #[] #[])
  fields := #[]
  methods := #[]
  instanceTypes := #[]
  staticTypes := #[]
  resolved := Array.replicate 131 none
  statics := none }

def pool8 : Array CpInfo := pool [(1, .class_ 2), (0, u "java/lang/constant/ConstantDesc"), (0, .class_ 4), (0, u "java/lang/Object")] 32

/-- java/lang/constant/ConstantDesc -/
def k8 : Class := { plain "java/lang/constant/ConstantDesc" (some 0) with
  accessFlags := 1537
  interfaces := #[]
  cf := some (fileOf pool8 1 #[] #[] 1537 3 #[] #[])
  fields := #[]
  methods := #[]
  instanceTypes := #[]
  staticTypes := #[]
  resolved := Array.replicate 37 none
  statics := none }

def pool9 : Array CpInfo := pool [(1, .methodref 2 3), (0, .class_ 4), (0, .nameAndType 5 6), (0, u "java/lang/Object"), (0, u "<init>"), (0, u "()V"), (0, .string 8), (0, u ""), (0, .fieldref 10 11), (0, .class_ 12), (0, .nameAndType 13 14), (0, u "java/lang/String"), (0, u "value"), (0, u "[B"), (0, .fieldref 10 16), (0, .nameAndType 17 18), (0, u "coder"), (0, u "B"), (2, u "hash"), (0, u "I"), (2, u "hashIsZero"), (0, u "Z"), (0, .methodref 10 28), (0, .nameAndType 5 29), (0, u "([CIILjava/lang/Void;)V"), (8, .fieldref 10 39), (0, .nameAndType 40 26), (0, u "COMPACT_STRINGS"), (1, .class_ 44), (1, u "java/lang/StringUTF16"), (0, u "compress"), (1, .methodref 42 48), (0, .nameAndType 49 50), (0, u "coderFromArrayLen"), (0, u "([BI)B"), (56, .class_ 109), (1, u "java/lang/StringLatin1"), (32, u "()Z"), (34, .methodref 42 178), (0, .nameAndType 45 179), (0, u "([CII)[B"), (154, u "()I"), (0, .methodref 10 336), (0, .nameAndType 17 337), (0, u "()B"), (25, u "([BI)C"), (27, u "(II)V"), (35, u "(I)C"), (64, .methodref 10 493), (0, .nameAndType 494 142), (0, u "isLatin1"), (0, .methodref 107 496), (0, .nameAndType 497 363), (0, u "charAt"), (3, u "checkIndex"), (5, u "length"), (33, .methodref 107 542), (0, .nameAndType 543 544), (0, u "equals"), (0, u "([B[B)Z"), (28, u "(Ljava/lang/Object;)Z"), (1, .class_ 576), (0, u "java/lang/CharSequence"), (22, u "CASE_INSENSITIVE_ORDER"), (0, u "Ljava/util/Comparator;"), (409, u "([C)V"), (42, .fieldref 1054 1055), (0, .class_ 1056), (0, .nameAndType 1057 1058), (0, u "jdk/internal/util/Preconditions"), (0, u "SIOOBE_FORMATTER"), (0, u "Ljava/util/function/BiFunction;"), (0, .methodref 1054 1060), (0, .nameAndType 501 1061), (0, u "(IILjava/util/function/BiFunction;)I"), (39, u "serialPersistentFields"), (0, u "[Ljava/io/ObjectStreamField;"), (0, .class_ 1104), (0, u "java/lang/String$CaseInsensitiveComparator"), (1, .class_ 1107), (0, u "java/io/Serializable"), (0, .class_ 1109), (0, u "java/lang/Comparable"), (0, .class_ 1111), (0, u "java/lang/constant/Constable"), (0, .class_ 1113), (0, u "java/lang/constant/ConstantDesc"), (2, u "serialVersionUID"), (0, u "J"), (3, u "REPL"), (0, u "C"), (2, u "LATIN1"), (1, u "UTF16")] 323

def k9m0 : Method := { name := "<init>", desc := "()V", sig := { parameters := [], returnType := none }, accessFlags := 1, code := none }
def k9c1 : Code := { maxStack := 5, maxLocals := 2, code := jdk_42_method_3_code, exceptionTable := #[], attributes := #[] }
def k9m1 : Method := { name := "<init>", desc := "([C)V", sig := { parameters := [(.array .char)], returnType := none }, accessFlags := 1, code := some k9c1 }
def k9c2 : Code := { maxStack := 2, maxLocals := 1, code := jdk_42_method_54_code, exceptionTable := #[], attributes := #[] }
def k9m2 : Method := { name := "length", desc := "()I", sig := { parameters := [], returnType := some .int }, accessFlags := 1, code := some k9c2 }
def k9c3 : Code := { maxStack := 2, maxLocals := 2, code := jdk_42_method_56_code, exceptionTable := #[], attributes := #[] }
def k9m3 : Method := { name := "charAt", desc := "(I)C", sig := { parameters := [.int], returnType := some .char }, accessFlags := 1, code := some k9c3 }
def k9c4 : Code := { maxStack := 2, maxLocals := 3, code := jdk_42_method_66_code, exceptionTable := #[], attributes := #[] }
def k9m4 : Method := { name := "equals", desc := "(Ljava/lang/Object;)Z", sig := { parameters := [(.object "java/lang/Object")], returnType := some .boolean }, accessFlags := 1, code := some k9c4 }
def k9c5 : Code := { maxStack := 4, maxLocals := 6, code := jdk_42_method_149_code, exceptionTable := #[], attributes := #[] }
def k9m5 : Method := { name := "<init>", desc := "([CIILjava/lang/Void;)V", sig := { parameters := [(.array .char), .int, .int, (.object "java/lang/Void")], returnType := none }, accessFlags := 2, code := some k9c5 }
def k9c6 : Code := { maxStack := 1, maxLocals := 1, code := jdk_42_method_152_code, exceptionTable := #[], attributes := #[] }
def k9m6 : Method := { name := "coder", desc := "()B", sig := { parameters := [], returnType := some .byte }, accessFlags := 0, code := some k9c6 }
def k9c7 : Code := { maxStack := 1, maxLocals := 1, code := jdk_42_method_154_code, exceptionTable := #[], attributes := #[] }
def k9m7 : Method := { name := "isLatin1", desc := "()Z", sig := { parameters := [], returnType := some .boolean }, accessFlags := 0, code := some k9c7 }
def k9c8 : Code := { maxStack := 3, maxLocals := 2, code := jdk_42_method_155_code, exceptionTable := #[], attributes := #[] }
def k9m8 : Method := { name := "checkIndex", desc := "(II)V", sig := { parameters := [.int, .int], returnType := none }, accessFlags := 8, code := some k9c8 }
/-- java/lang/String -/
def k9 : Class := { plain "java/lang/String" (some 0) with
  accessFlags := 49
  interfaces := #[4, 3, 7, 2, 8]
  cf := some (fileOf pool9 10 #[.nestMembers #[1103]] #[{ accessFlags := 1, nameIndex := 5, descriptorIndex := 6, attributes := #[] }, { accessFlags := 1, nameIndex := 5, descriptorIndex := 1010, attributes := #[] }, { accessFlags := 1, nameIndex := 507, descriptorIndex := 334, attributes := #[] }, { accessFlags := 1, nameIndex := 497, descriptorIndex := 427, attributes := #[] }, { accessFlags := 1, nameIndex := 543, descriptorIndex := 573, attributes := #[] }, { accessFlags := 2, nameIndex := 5, descriptorIndex := 29, attributes := #[] }, { accessFlags := 0, nameIndex := 17, descriptorIndex := 337, attributes := #[] }, { accessFlags := 0, nameIndex := 494, descriptorIndex := 142, attributes := #[] }, { accessFlags := 8, nameIndex := 501, descriptorIndex := 391, attributes := #[] }] 49 2 #[1106, 1108, 575, 1110, 1112] #[{ accessFlags := 18, nameIndex := 13, descriptorIndex := 14, attributes := #[] }, { accessFlags := 18, nameIndex := 17, descriptorIndex := 18, attributes := #[] }, { accessFlags := 2, nameIndex := 21, descriptorIndex := 22, attributes := #[] }, { accessFlags := 2, nameIndex := 25, descriptorIndex := 26, attributes := #[] }, { accessFlags := 26, nameIndex := 1116, descriptorIndex := 1117, attributes := #[] }, { accessFlags := 24, nameIndex := 40, descriptorIndex := 26, attributes := #[] }, { accessFlags := 26, nameIndex := 1101, descriptorIndex := 1102, attributes := #[] }, { accessFlags := 26, nameIndex := 1121, descriptorIndex := 1122, attributes := #[] }, { accessFlags := 25, nameIndex := 599, descriptorIndex := 600, attributes := #[] }, { accessFlags := 24, nameIndex := 1125, descriptorIndex := 18, attributes := #[] }, { accessFlags := 24, nameIndex := 1127, descriptorIndex := 18, attributes := #[] }])
  fields := #[{ name := "value", type := (.array .byte), accessFlags := 18, slot := 0, constantValue := 0 }, { name := "coder", type := .byte, accessFlags := 18, slot := 1, constantValue := 0 }, { name := "hash", type := .int, accessFlags := 2, slot := 2, constantValue := 0 }, { name := "hashIsZero", type := .boolean, accessFlags := 2, slot := 3, constantValue := 0 }, { name := "serialVersionUID", type := .long, accessFlags := 26, slot := 0, constantValue := 0 }, { name := "COMPACT_STRINGS", type := .boolean, accessFlags := 24, slot := 1, constantValue := 0 }, { name := "serialPersistentFields", type := (.array (.object "java/io/ObjectStreamField")), accessFlags := 26, slot := 2, constantValue := 0 }, { name := "REPL", type := .char, accessFlags := 26, slot := 3, constantValue := 0 }, { name := "CASE_INSENSITIVE_ORDER", type := (.object "java/util/Comparator"), accessFlags := 25, slot := 4, constantValue := 0 }, { name := "LATIN1", type := .byte, accessFlags := 24, slot := 5, constantValue := 0 }, { name := "UTF16", type := .byte, accessFlags := 24, slot := 6, constantValue := 0 }]
  methods := #[k9m0, k9m1, k9m2, k9m3, k9m4, k9m5, k9m6, k9m7, k9m8]
  instanceTypes := #[(.array .byte), .byte, .int, .boolean]
  staticTypes := #[.long, .boolean, (.array (.object "java/io/ObjectStreamField")), .char, (.object "java/util/Comparator"), .byte, .byte]
  resolved := Array.replicate 1451 none
  statics := some 1 }

def pool10 : Array CpInfo := pool [(1, .class_ 2), (0, u "java/lang/String"), (1, .class_ 6), (1, u "java/lang/Object"), (0, u "<init>"), (0, u "()V"), (0, .methodref 1 10), (0, .nameAndType 11 12), (0, u "checkIndex"), (0, u "(II)V"), (1, .class_ 16), (1, u "java/lang/StringLatin1"), (36, u "([BI)C"), (67, u "$assertionsDisabled"), (0, u "Z"), (98, .class_ 223), (1, u "java/lang/StringLatin1$LinesSpliterator"), (28, u "charAt"), (28, u "equals"), (0, u "([B[B)Z"), (107, .class_ 391), (0, u "java/lang/StringLatin1$CharsSpliterator")] 3

def k10m0 : Method := { name := "<init>", desc := "()V", sig := { parameters := [], returnType := none }, accessFlags := 0, code := none }
def k10c1 : Code := { maxStack := 2, maxLocals := 2, code := jdk_43_method_2_code, exceptionTable := #[], attributes := #[] }
def k10m1 : Method := { name := "charAt", desc := "([BI)C", sig := { parameters := [(.array .byte), .int], returnType := some .char }, accessFlags := 9, code := some k10c1 }
def k10c2 : Code := { maxStack := 3, maxLocals := 3, code := jdk_43_method_13_code, exceptionTable := #[], attributes := #[] }
def k10m2 : Method := { name := "equals", desc := "([B[B)Z", sig := { parameters := [(.array .byte), (.array .byte)], returnType := some .boolean }, accessFlags := 9, code := some k10c2 }
/-- java/lang/StringLatin1 -/
def k10 : Class := { plain "java/lang/StringLatin1" (some 0) with
  accessFlags := 48
  interfaces := #[]
  cf := some (fileOf pool10 14 #[.nestMembers #[390, 221]] #[{ accessFlags := 0, nameIndex := 7, descriptorIndex := 8, attributes := #[] }, { accessFlags := 9, nameIndex := 252, descriptorIndex := 53, attributes := #[] }, { accessFlags := 9, nameIndex := 281, descriptorIndex := 282, attributes := #[] }] 48 4 #[] #[{ accessFlags := 4120, nameIndex := 121, descriptorIndex := 122, attributes := #[] }])
  fields := #[{ name := "$assertionsDisabled", type := .boolean, accessFlags := 4120, slot := 0, constantValue := 0 }]
  methods := #[k10m0, k10m1, k10m2]
  instanceTypes := #[]
  staticTypes := #[.boolean]
  resolved := Array.replicate 395 none
  statics := none }

def pool11 : Array CpInfo := pool [(2, .class_ 4), (1, u "java/lang/Object"), (0, u "<init>"), (0, u "()V"), (17, .class_ 26), (1, u "jdk/internal/util/Preconditions"), (6, u "checkIndex"), (21, .class_ 56), (0, u "jdk/internal/util/Preconditions$4"), (57, .class_ 115), (0, u "jdk/internal/util/Preconditions$1"), (7, u "SIOOBE_FORMATTER"), (0, u "Ljava/util/function/BiFunction;"), (0, .class_ 126), (0, u "jdk/internal/util/Preconditions$2"), (3, u "AIOOBE_FORMATTER"), (0, .class_ 132), (0, u "jdk/internal/util/Preconditions$3"), (3, u "IOOBE_FORMATTER"), (41, u "(IILjava/util/function/BiFunction;)I")] 15

def k11m0 : Method := { name := "<init>", desc := "()V", sig := { parameters := [], returnType := none }, accessFlags := 1, code := none }
def k11c1 : Code := { maxStack := 3, maxLocals := 3, code := jdk_41_method_11_code, exceptionTable := #[], attributes := #[] }
def k11m1 : Method := { name := "checkIndex", desc := "(IILjava/util/function/BiFunction;)I", sig := { parameters := [.int, .int, (.object "java/util/function/BiFunction")], returnType := some .int }, accessFlags := 9, code := some k11c1 }
/-- jdk/internal/util/Preconditions -/
def k11 : Class := { plain "jdk/internal/util/Preconditions" (some 0) with
  accessFlags := 33
  interfaces := #[]
  cf := some (fileOf pool11 24 #[.nestMembers #[55, 131, 125, 114]] #[{ accessFlags := 1, nameIndex := 5, descriptorIndex := 6, attributes := #[] }, { accessFlags := 9, nameIndex := 33, descriptorIndex := 178, attributes := #[] }] 33 2 #[] #[{ accessFlags := 25, nameIndex := 123, descriptorIndex := 124, attributes := #[] }, { accessFlags := 25, nameIndex := 130, descriptorIndex := 124, attributes := #[] }, { accessFlags := 25, nameIndex := 136, descriptorIndex := 124, attributes := #[] }])
  fields := #[{ name := "SIOOBE_FORMATTER", type := (.object "java/util/function/BiFunction"), accessFlags := 25, slot := 0, constantValue := 0 }, { name := "AIOOBE_FORMATTER", type := (.object "java/util/function/BiFunction"), accessFlags := 25, slot := 1, constantValue := 0 }, { name := "IOOBE_FORMATTER", type := (.object "java/util/function/BiFunction"), accessFlags := 25, slot := 2, constantValue := 0 }]
  methods := #[k11m0, k11m1]
  instanceTypes := #[]
  staticTypes := #[(.object "java/util/function/BiFunction"), (.object "java/util/function/BiFunction"), (.object "java/util/function/BiFunction")]
  resolved := Array.replicate 194 none
  statics := some 2 }

def pool12 : Array CpInfo := pool [(6, .class_ 8), (1, u "java/lang/Object"), (0, u "<init>"), (0, u "()V"), (1, .class_ 14), (1, u "java/lang/StringUTF16"), (31, u "$assertionsDisabled"), (0, u "Z"), (13, u "HI_BYTE_SHIFT"), (0, u "I"), (2, u "LO_BYTE_SHIFT"), (49, .methodref 12 116), (0, .nameAndType 117 118), (0, u "compress"), (0, u "([CI[BII)I"), (3, u "([CII)[B"), (138, u "coderFromArrayLen"), (0, u "([BI)B"), (106, .class_ 371), (1, u "java/lang/StringUTF16$LinesSpliterator"), (58, u "MAX_LENGTH"), (196, .class_ 628), (0, u "java/lang/StringUTF16$CodePointsSpliterator"), (0, .class_ 630), (0, u "java/lang/StringUTF16$CharsSpliterator")] 4

def k12m0 : Method := { name := "<init>", desc := "()V", sig := { parameters := [], returnType := none }, accessFlags := 0, code := none }
def k12c1 : Code := { maxStack := 2, maxLocals := 2, code := jdk_52_method_15_code, exceptionTable := #[], attributes := #[] }
def k12m1 : Method := { name := "coderFromArrayLen", desc := "([BI)B", sig := { parameters := [(.array .byte), .int], returnType := some .byte }, accessFlags := 8, code := some k12c1 }
def k12c2 : Code := { maxStack := 5, maxLocals := 6, code := jdk_52_method_16_code, exceptionTable := #[], attributes := #[] }
def k12m2 : Method := { name := "compress", desc := "([CII)[B", sig := { parameters := [(.array .char), .int, .int], returnType := some (.array .byte) }, accessFlags := 9, code := some k12c2 }
def k12c3 : Code := { maxStack := 3, maxLocals := 7, code := jdk_52_method_21_code, exceptionTable := #[], attributes := #[] }
def k12m3 : Method := { name := "compress", desc := "([CI[BII)I", sig := { parameters := [(.array .char), .int, (.array .byte), .int, .int], returnType := some .int }, accessFlags := 9, code := some k12c3 }
/-- java/lang/StringUTF16 -/
def k12 : Class := { plain "java/lang/StringUTF16" (some 0) with
  accessFlags := 48
  interfaces := #[]
  cf := some (fileOf pool12 12 #[.nestMembers #[627, 629, 369]] #[{ accessFlags := 0, nameIndex := 9, descriptorIndex := 10, attributes := #[] }, { accessFlags := 8, nameIndex := 261, descriptorIndex := 262, attributes := #[] }, { accessFlags := 9, nameIndex := 117, descriptorIndex := 122, attributes := #[] }, { accessFlags := 9, nameIndex := 117, descriptorIndex := 118, attributes := #[] }] 48 6 #[] #[{ accessFlags := 26, nameIndex := 61, descriptorIndex := 62, attributes := #[] }, { accessFlags := 26, nameIndex := 65, descriptorIndex := 62, attributes := #[] }, { accessFlags := 24, nameIndex := 430, descriptorIndex := 62, attributes := #[] }, { accessFlags := 4120, nameIndex := 46, descriptorIndex := 47, attributes := #[] }])
  fields := #[{ name := "HI_BYTE_SHIFT", type := .int, accessFlags := 26, slot := 0, constantValue := 0 }, { name := "LO_BYTE_SHIFT", type := .int, accessFlags := 26, slot := 1, constantValue := 0 }, { name := "MAX_LENGTH", type := .int, accessFlags := 24, slot := 2, constantValue := 0 }, { name := "$assertionsDisabled", type := .boolean, accessFlags := 4120, slot := 3, constantValue := 0 }]
  methods := #[k12m0, k12m1, k12m2, k12m3]
  instanceTypes := #[]
  staticTypes := #[.int, .int, .int, .boolean]
  resolved := Array.replicate 635 none
  statics := none }

def pool13 : Array CpInfo := pool [(1, .class_ 2), (0, u "java/lang/Cloneable"), (0, .class_ 4), (0, u "java/lang/Object")] 2

/-- java/lang/Cloneable -/
def k13 : Class := { plain "java/lang/Cloneable" (some 0) with
  accessFlags := 1537
  interfaces := #[]
  cf := some (fileOf pool13 1 #[] #[] 1537 3 #[] #[])
  fields := #[]
  methods := #[]
  instanceTypes := #[]
  staticTypes := #[]
  resolved := Array.replicate 7 none
  statics := none }

def pool14 : Array CpInfo := pool [(9, u "<init>"), (6, .class_ 18), (1, u "java/lang/Object"), (0, u "()V"), (1, .class_ 23), (1, u "jdk/internal/util/ArraysSupport"), (0, u "LOG2_ARRAY_LONG_INDEX_SCALE"), (0, u "I"), (2, u "U"), (0, u "Ljdk/internal/misc/Unsafe;"), (8, u "BIG_ENDIAN"), (0, u "Z"), (8, u "LOG2_BYTE_BIT_SIZE"), (4, u "LOG2_ARRAY_INT_INDEX_SCALE"), (54, u "JLA"), (0, u "Ljdk/internal/access/JavaLangAccess;"), (11, u "LOG2_ARRAY_BOOLEAN_INDEX_SCALE"), (9, u "LOG2_ARRAY_BYTE_INDEX_SCALE"), (5, u "LOG2_ARRAY_CHAR_INDEX_SCALE"), (5, u "LOG2_ARRAY_SHORT_INDEX_SCALE"), (18, u "LOG2_ARRAY_FLOAT_INDEX_SCALE"), (24, u "LOG2_ARRAY_DOUBLE_INDEX_SCALE"), (89, u "T_BOOLEAN"), (2, u "T_CHAR"), (1, u "T_FLOAT"), (1, u "T_DOUBLE"), (1, u "T_BYTE"), (1, u "T_SHORT"), (1, u "T_INT"), (1, u "T_LONG"), (1, u "SOFT_MAX_ARRAY_LENGTH")] 83

def k14m0 : Method := { name := "<init>", desc := "()V", sig := { parameters := [], returnType := none }, accessFlags := 2, code := none }
/-- jdk/internal/util/ArraysSupport -/
def k14 : Class := { plain "jdk/internal/util/ArraysSupport" (some 0) with
  accessFlags := 33
  interfaces := #[]
  cf := some (fileOf pool14 21 #[] #[{ accessFlags := 2, nameIndex := 9, descriptorIndex := 19, attributes := #[] }] 33 16 #[] #[{ accessFlags := 24, nameIndex := 28, descriptorIndex := 29, attributes := #[] }, { accessFlags := 26, nameIndex := 38, descriptorIndex := 39, attributes := #[] }, { accessFlags := 25, nameIndex := 121, descriptorIndex := 25, attributes := #[] }, { accessFlags := 25, nameIndex := 131, descriptorIndex := 25, attributes := #[] }, { accessFlags := 25, nameIndex := 137, descriptorIndex := 25, attributes := #[] }, { accessFlags := 25, nameIndex := 143, descriptorIndex := 25, attributes := #[] }, { accessFlags := 25, nameIndex := 53, descriptorIndex := 25, attributes := #[] }, { accessFlags := 25, nameIndex := 24, descriptorIndex := 25, attributes := #[] }, { accessFlags := 25, nameIndex := 162, descriptorIndex := 25, attributes := #[] }, { accessFlags := 25, nameIndex := 187, descriptorIndex := 25, attributes := #[] }, { accessFlags := 26, nameIndex := 48, descriptorIndex := 25, attributes := #[] }, { accessFlags := 25, nameIndex := 277, descriptorIndex := 25, attributes := #[] }, { accessFlags := 25, nameIndex := 280, descriptorIndex := 25, attributes := #[] }, { accessFlags := 25, nameIndex := 282, descriptorIndex := 25, attributes := #[] }, { accessFlags := 25, nameIndex := 284, descriptorIndex := 25, attributes := #[] }, { accessFlags := 25, nameIndex := 286, descriptorIndex := 25, attributes := #[] }, { accessFlags := 25, nameIndex := 288, descriptorIndex := 25, attributes := #[] }, { accessFlags := 25, nameIndex := 290, descriptorIndex := 25, attributes := #[] }, { accessFlags := 25, nameIndex := 292, descriptorIndex := 25, attributes := #[] }, { accessFlags := 26, nameIndex := 108, descriptorIndex := 109, attributes := #[] }, { accessFlags := 25, nameIndex := 294, descriptorIndex := 25, attributes := #[] }])
  fields := #[{ name := "U", type := (.object "jdk/internal/misc/Unsafe"), accessFlags := 24, slot := 0, constantValue := 0 }, { name := "BIG_ENDIAN", type := .boolean, accessFlags := 26, slot := 1, constantValue := 0 }, { name := "LOG2_ARRAY_BOOLEAN_INDEX_SCALE", type := .int, accessFlags := 25, slot := 2, constantValue := 0 }, { name := "LOG2_ARRAY_BYTE_INDEX_SCALE", type := .int, accessFlags := 25, slot := 3, constantValue := 0 }, { name := "LOG2_ARRAY_CHAR_INDEX_SCALE", type := .int, accessFlags := 25, slot := 4, constantValue := 0 }, { name := "LOG2_ARRAY_SHORT_INDEX_SCALE", type := .int, accessFlags := 25, slot := 5, constantValue := 0 }, { name := "LOG2_ARRAY_INT_INDEX_SCALE", type := .int, accessFlags := 25, slot := 6, constantValue := 0 }, { name := "LOG2_ARRAY_LONG_INDEX_SCALE", type := .int, accessFlags := 25, slot := 7, constantValue := 0 }, { name := "LOG2_ARRAY_FLOAT_INDEX_SCALE", type := .int, accessFlags := 25, slot := 8, constantValue := 0 }, { name := "LOG2_ARRAY_DOUBLE_INDEX_SCALE", type := .int, accessFlags := 25, slot := 9, constantValue := 0 }, { name := "LOG2_BYTE_BIT_SIZE", type := .int, accessFlags := 26, slot := 10, constantValue := 0 }, { name := "T_BOOLEAN", type := .int, accessFlags := 25, slot := 11, constantValue := 0 }, { name := "T_CHAR", type := .int, accessFlags := 25, slot := 12, constantValue := 0 }, { name := "T_FLOAT", type := .int, accessFlags := 25, slot := 13, constantValue := 0 }, { name := "T_DOUBLE", type := .int, accessFlags := 25, slot := 14, constantValue := 0 }, { name := "T_BYTE", type := .int, accessFlags := 25, slot := 15, constantValue := 0 }, { name := "T_SHORT", type := .int, accessFlags := 25, slot := 16, constantValue := 0 }, { name := "T_INT", type := .int, accessFlags := 25, slot := 17, constantValue := 0 }, { name := "T_LONG", type := .int, accessFlags := 25, slot := 18, constantValue := 0 }, { name := "JLA", type := (.object "jdk/internal/access/JavaLangAccess"), accessFlags := 26, slot := 19, constantValue := 0 }, { name := "SOFT_MAX_ARRAY_LENGTH", type := .int, accessFlags := 25, slot := 20, constantValue := 0 }]
  methods := #[k14m0]
  instanceTypes := #[]
  staticTypes := #[(.object "jdk/internal/misc/Unsafe"), .boolean, .int, .int, .int, .int, .int, .int, .int, .int, .int, .int, .int, .int, .int, .int, .int, .int, .int, (.object "jdk/internal/access/JavaLangAccess"), .int]
  resolved := Array.replicate 378 none
  statics := none }

/-- the primitive byte -/
def k15 : Class := { plain "byte" none with kind := .primitive 'B', accessFlags := 0x411 }
/-- [B -/
def k16 : Class := { plain "[B" (some 0) with kind := .array 15 .byte, interfaces := #[13, 4], accessFlags := 1041 }

/-- the primitive char -/
def k17 : Class := { plain "char" none with kind := .primitive 'C', accessFlags := 0x411 }
/-- [C -/
def k18 : Class := { plain "[C" (some 0) with kind := .array 17 .char, interfaces := #[13, 4], accessFlags := 1041 }

/-- the primitive int -/
def k19 : Class := { plain "int" none with kind := .primitive 'I', accessFlags := 0x411 }
/-- [I -/
def k20 : Class := { plain "[I" (some 0) with kind := .array 19 .int, interfaces := #[13, 4], accessFlags := 1041 }

/-- [Lcom/example/persephone/persephone/lucene/FieldKind; -/
def k21 : Class := { plain "[Lcom/example/persephone/persephone/lucene/FieldKind;" (some 0) with kind := .array 6 (.object "com/example/persephone/persephone/lucene/FieldKind"), interfaces := #[13, 4], accessFlags := 1041 }

def heap : Heap := #[{ cls := 6, slots := #[.ref 14, .ref 15, .ref 16, .ref 17, .ref 18, .ref 3], vm := .statics 6 },
  { cls := 9, slots := #[.long 0, .int 1, .null, .int 0, .null, .int 0, .int 0], vm := .statics 9 },
  { cls := 11, slots := #[.null, .null, .null], vm := .statics 11 },
  { cls := 21, slots := #[.ref 14, .ref 15, .ref 16, .ref 17, .ref 18], vm := .none },
  { cls := 16, slots := #[.int 116, .int 101, .int 120, .int 116], vm := .none },
  { cls := 16, slots := #[.int 107, .int 101, .int 121, .int 119, .int 111, .int 114, .int 100], vm := .none },
  { cls := 16, slots := #[.int 110, .int 117, .int 109, .int 98, .int 101, .int 114], vm := .none },
  { cls := 16, slots := #[.int 100, .int 97, .int 116, .int 101], vm := .none },
  { cls := 16, slots := #[.int 112, .int 111, .int 105, .int 110, .int 116], vm := .none },
  { cls := 9, slots := #[.ref 4, .int 0, .int 0, .int 0], vm := .none },
  { cls := 9, slots := #[.ref 5, .int 0, .int 0, .int 0], vm := .none },
  { cls := 9, slots := #[.ref 6, .int 0, .int 0, .int 0], vm := .none },
  { cls := 9, slots := #[.ref 7, .int 0, .int 0, .int 0], vm := .none },
  { cls := 9, slots := #[.ref 8, .int 0, .int 0, .int 0], vm := .none },
  { cls := 6, slots := #[.null, .int 0, .int 0, .ref 9], vm := .none },
  { cls := 6, slots := #[.null, .int 0, .int 0, .ref 10], vm := .none },
  { cls := 6, slots := #[.null, .int 0, .int 0, .ref 11], vm := .none },
  { cls := 6, slots := #[.null, .int 0, .int 0, .ref 12], vm := .none },
  { cls := 6, slots := #[.null, .int 0, .int 0, .ref 13], vm := .none }]
def classes : Array Class := #[k0, k1, k2, k3, k4, k5, k6, k7, k8, k9, k10, k11, k12, k13, k14, k15, k16, k17, k18, k19, k20, k21]
def interned : List (Array UInt16 × Addr) := []
def slotsUsed : Nat := 87
def theMethod : MethodId := ⟨1, 1⟩
def args0 : Array Value := #[.int 1, .int 3, .int 2, .int 65, .int 66, .int 8]
def aboutOver (below : List Frame) : State where
  vm := { classes := classes, interned := interned.toArray }
  heap := heap
  slotsUsed := slotsUsed
  threads := #[{ frames := .invoking theMethod args0 :: below }]
def below0 : List Frame := [.native { method := ⟨0, 0⟩, args := #[] }]
def about1 : State := aboutOver below0
def p0 : Program := .bare "" "" ""
def e0 : Env := launch0.env 0 0 0
theorem w_frames : about1.frames = Frame.invoking theMethod args0 :: below0 := rfl
set_option maxRecDepth 65536 in
theorem w_args : argsFit about1.vm theMethod args0 = true := by decide +kernel
set_option maxRecDepth 65536 in
theorem w_heap : heapFits about1 = true := by decide +kernel
set_option maxRecDepth 65536 in
theorem w_runnable : about1.curStatus? = some .runnable := by decide +kernel
set_option maxRecDepth 65536 in
theorem w_alone : about1.alone = true := by decide +kernel
set_option maxRecDepth 65536 in
theorem w_named : about1.methodNamed? x = some theMethod := by decide +kernel
set_option maxRecDepth 65536 in
theorem w_hears : about1.hears theMethod below0 = true := by decide +kernel
set_option maxRecDepth 65536 in
theorem w_ripe : about1.ripe theMethod args0 below0 = true := by decide +kernel
theorem w_running : about1.status = .running := rfl
set_option maxRecDepth 65536 in
theorem w_room : about1.hasRoom e0.platform room_1 = true :=
  launch0.hasRoom_least _ room_1 (by decide +kernel) (by decide +kernel) (by decide +kernel) (by decide +kernel) (by decide +kernel) (by decide +kernel)
theorem allAtoms_all (ts : List Jvm.Cond) (a : Array Jvm.Value) (st : Jvm.State) : (allAtoms ts).before a st = ts.all (fun c => c.before a st) := by
  induction ts with
  | nil => rfl
  | cons c t ih =>
    show (Jvm.Cond.and c (allAtoms t)).before a st = _
    rw [Jvm.Cond.before_and, ih, List.all_cons]
def words1 : List Jvm.Cond := Jvm.Cond.code x code maxLocals ret :: tables_1
/-- a 'code' word, met by the world's own term for the bytes: nothing is compared byte by byte -/
theorem code_word {y : MethodName} {bytes : ByteArray} {mx : Nat} {rt : Option FieldType} {a : Array Value} {s : State} {m : MethodId} {meth : Method} {c : Code} (h1 : s.methodNamed? y = some m) (h2 : s.vm.method? m = some meth) (h3 : meth.code = some c) (h4 : c.code = bytes)
    (h5 : (c.maxLocals == mx && c.exceptionTable.isEmpty && decide (c.maxStack ≤ mostOperands) && decide (meth.sig.returnType = rt) && !meth.locks && decide (parseMethodDescriptor y.desc = some meth.sig)) = true) : (Jvm.Cond.code y bytes mx rt).before a s = true := by
  simp only [Bool.and_eq_true, beq_iff_eq, Bool.not_eq_true', decide_eq_true_eq] at h5
  obtain ⟨⟨⟨⟨⟨g1, g2⟩, g3⟩, g4⟩, g5⟩, g6⟩ := h5
  simp [Cond.before, Cond.holds, Cond.value, h1, h2, h3, h4, g1, g2, g3, g4, g5, g6]
def isCode : Jvm.Cond → Bool
  | .code _ _ _ _ => true
  | _ => false
theorem all_split {L : List Jvm.Cond} {P : Jvm.Cond → Bool} (h1 : L.all (fun c => isCode c || P c) = true) (h2 : ∀ c ∈ L.filter isCode, P c = true) : L.all P = true := by
  refine List.all_eq_true.mpr fun c hc => ?_
  have h := List.all_eq_true.mp h1 c hc
  rcases Bool.eq_false_or_eq_true (isCode c) with hi | hi
  · exact h2 c (List.mem_filter.mpr ⟨hc, hi⟩)
  · simpa [hi] using h
set_option maxRecDepth 65536 in
theorem w_c0 : (Jvm.Cond.code x code maxLocals ret).before args0 about1 = true := code_word (m := ⟨1, 1⟩) (meth := k1m1) (c := k1c1) (by decide +kernel) rfl rfl rfl (by decide +kernel)
set_option maxRecDepth 65536 in
theorem w_c1 : (Jvm.Cond.code ({ cls := "com/example/persephone/persephone/lucene/FieldKindLabelledPinLaw", name := "kind", desc := "(I)Lcom/example/persephone/persephone/lucene/FieldKind;" } : Jvm.MethodName) method_3_code (1 : Nat) (Option.some (Jvm.ClassFile.FieldType.object "com/example/persephone/persephone/lucene/FieldKind"))).before args0 about1 = true := code_word (m := ⟨1, 2⟩) (meth := k1m2) (c := k1c2) (by decide +kernel) rfl rfl rfl (by decide +kernel)
set_option maxRecDepth 65536 in
theorem w_c2 : (Jvm.Cond.code ({ cls := "com/example/persephone/persephone/lucene/FieldKind", name := "toString", desc := "()Ljava/lang/String;" } : Jvm.MethodName) prog_17_method_5_code (1 : Nat) (Option.some (Jvm.ClassFile.FieldType.object "java/lang/String"))).before args0 about1 = true := code_word (m := ⟨6, 2⟩) (meth := k6m2) (c := k6c2) (by decide +kernel) rfl rfl rfl (by decide +kernel)
set_option maxRecDepth 65536 in
theorem w_c3 : (Jvm.Cond.code ({ cls := "com/example/persephone/persephone/lucene/FieldKindLabelledPinLaw", name := "at", desc := "(Ljava/lang/String;IC)C" } : Jvm.MethodName) method_4_code (3 : Nat) (Option.some Jvm.ClassFile.FieldType.char)).before args0 about1 = true := code_word (m := ⟨1, 3⟩) (meth := k1m3) (c := k1c3) (by decide +kernel) rfl rfl rfl (by decide +kernel)
set_option maxRecDepth 65536 in
theorem w_c4 : (Jvm.Cond.code ({ cls := "java/lang/String", name := "length", desc := "()I" } : Jvm.MethodName) jdk_42_method_54_code (1 : Nat) (Option.some Jvm.ClassFile.FieldType.int)).before args0 about1 = true := code_word (m := ⟨9, 2⟩) (meth := k9m2) (c := k9c2) (by decide +kernel) rfl rfl rfl (by decide +kernel)
set_option maxRecDepth 65536 in
theorem w_c5 : (Jvm.Cond.code ({ cls := "java/lang/String", name := "coder", desc := "()B" } : Jvm.MethodName) jdk_42_method_152_code (1 : Nat) (Option.some Jvm.ClassFile.FieldType.byte)).before args0 about1 = true := code_word (m := ⟨9, 6⟩) (meth := k9m6) (c := k9c6) (by decide +kernel) rfl rfl rfl (by decide +kernel)
set_option maxRecDepth 65536 in
theorem w_c6 : (Jvm.Cond.code ({ cls := "java/lang/String", name := "charAt", desc := "(I)C" } : Jvm.MethodName) jdk_42_method_56_code (2 : Nat) (Option.some Jvm.ClassFile.FieldType.char)).before args0 about1 = true := code_word (m := ⟨9, 3⟩) (meth := k9m3) (c := k9c3) (by decide +kernel) rfl rfl rfl (by decide +kernel)
set_option maxRecDepth 65536 in
theorem w_c7 : (Jvm.Cond.code ({ cls := "java/lang/String", name := "isLatin1", desc := "()Z" } : Jvm.MethodName) jdk_42_method_154_code (1 : Nat) (Option.some Jvm.ClassFile.FieldType.boolean)).before args0 about1 = true := code_word (m := ⟨9, 7⟩) (meth := k9m7) (c := k9c7) (by decide +kernel) rfl rfl rfl (by decide +kernel)
set_option maxRecDepth 65536 in
theorem w_c8 : (Jvm.Cond.code ({ cls := "java/lang/StringLatin1", name := "charAt", desc := "([BI)C" } : Jvm.MethodName) jdk_43_method_2_code (2 : Nat) (Option.some Jvm.ClassFile.FieldType.char)).before args0 about1 = true := code_word (m := ⟨10, 1⟩) (meth := k10m1) (c := k10c1) (by decide +kernel) rfl rfl rfl (by decide +kernel)
set_option maxRecDepth 65536 in
theorem w_c9 : (Jvm.Cond.code ({ cls := "java/lang/String", name := "checkIndex", desc := "(II)V" } : Jvm.MethodName) jdk_42_method_155_code (2 : Nat) (Option.none : Option Jvm.ClassFile.FieldType)).before args0 about1 = true := code_word (m := ⟨9, 8⟩) (meth := k9m8) (c := k9c8) (by decide +kernel) rfl rfl rfl (by decide +kernel)
set_option maxRecDepth 65536 in
theorem w_c10 : (Jvm.Cond.code ({ cls := "jdk/internal/util/Preconditions", name := "checkIndex", desc := "(IILjava/util/function/BiFunction;)I" } : Jvm.MethodName) jdk_41_method_11_code (3 : Nat) (Option.some Jvm.ClassFile.FieldType.int)).before args0 about1 = true := code_word (m := ⟨11, 1⟩) (meth := k11m1) (c := k11c1) (by decide +kernel) rfl rfl rfl (by decide +kernel)
set_option maxRecDepth 65536 in
theorem w_c11 : (Jvm.Cond.code ({ cls := "com/example/persephone/persephone/lucene/FieldKindLabelledPinLaw", name := "str", desc := "([CI)Ljava/lang/String;" } : Jvm.MethodName) method_5_code (2 : Nat) (Option.some (Jvm.ClassFile.FieldType.object "java/lang/String"))).before args0 about1 = true := code_word (m := ⟨1, 4⟩) (meth := k1m4) (c := k1c4) (by decide +kernel) rfl rfl rfl (by decide +kernel)
set_option maxRecDepth 65536 in
theorem w_c12 : (Jvm.Cond.code ({ cls := "java/lang/String", name := "<init>", desc := "([C)V" } : Jvm.MethodName) jdk_42_method_3_code (2 : Nat) (Option.none : Option Jvm.ClassFile.FieldType)).before args0 about1 = true := code_word (m := ⟨9, 1⟩) (meth := k9m1) (c := k9c1) (by decide +kernel) rfl rfl rfl (by decide +kernel)
set_option maxRecDepth 65536 in
theorem w_c13 : (Jvm.Cond.code ({ cls := "java/lang/String", name := "<init>", desc := "([CIILjava/lang/Void;)V" } : Jvm.MethodName) jdk_42_method_149_code (6 : Nat) (Option.none : Option Jvm.ClassFile.FieldType)).before args0 about1 = true := code_word (m := ⟨9, 5⟩) (meth := k9m5) (c := k9c5) (by decide +kernel) rfl rfl rfl (by decide +kernel)
set_option maxRecDepth 65536 in
theorem w_c14 : (Jvm.Cond.code ({ cls := "java/lang/Object", name := "<init>", desc := "()V" } : Jvm.MethodName) object_method_1_code (1 : Nat) (Option.none : Option Jvm.ClassFile.FieldType)).before args0 about1 = true := code_word (m := ⟨0, 0⟩) (meth := k0m0) (c := k0c0) (by decide +kernel) rfl rfl rfl (by decide +kernel)
set_option maxRecDepth 65536 in
theorem w_c15 : (Jvm.Cond.code ({ cls := "java/lang/StringUTF16", name := "compress", desc := "([CII)[B" } : Jvm.MethodName) jdk_52_method_16_code (6 : Nat) (Option.some (Jvm.ClassFile.FieldType.array Jvm.ClassFile.FieldType.byte))).before args0 about1 = true := code_word (m := ⟨12, 2⟩) (meth := k12m2) (c := k12c2) (by decide +kernel) rfl rfl rfl (by decide +kernel)
set_option maxRecDepth 65536 in
theorem w_c16 : (Jvm.Cond.code ({ cls := "java/lang/StringUTF16", name := "compress", desc := "([CI[BII)I" } : Jvm.MethodName) jdk_52_method_21_code (7 : Nat) (Option.some Jvm.ClassFile.FieldType.int)).before args0 about1 = true := code_word (m := ⟨12, 3⟩) (meth := k12m3) (c := k12c3) (by decide +kernel) rfl rfl rfl (by decide +kernel)
set_option maxRecDepth 65536 in
theorem w_c17 : (Jvm.Cond.code ({ cls := "java/lang/StringUTF16", name := "coderFromArrayLen", desc := "([BI)B" } : Jvm.MethodName) jdk_52_method_15_code (2 : Nat) (Option.some Jvm.ClassFile.FieldType.byte)).before args0 about1 = true := code_word (m := ⟨12, 1⟩) (meth := k12m1) (c := k12c1) (by decide +kernel) rfl rfl rfl (by decide +kernel)
set_option maxRecDepth 65536 in
theorem w_c18 : (Jvm.Cond.code ({ cls := "com/example/persephone/persephone/lucene/FieldKind", name := "labelled", desc := "(Ljava/lang/String;)Lcom/example/persephone/persephone/lucene/FieldKind;" } : Jvm.MethodName) prog_17_method_4_code (6 : Nat) (Option.some (Jvm.ClassFile.FieldType.object "com/example/persephone/persephone/lucene/FieldKind"))).before args0 about1 = true := code_word (m := ⟨6, 1⟩) (meth := k6m1) (c := k6c1) (by decide +kernel) rfl rfl rfl (by decide +kernel)
set_option maxRecDepth 65536 in
theorem w_c19 : (Jvm.Cond.code ({ cls := "com/example/persephone/persephone/lucene/FieldKind", name := "values", desc := "()[Lcom/example/persephone/persephone/lucene/FieldKind;" } : Jvm.MethodName) prog_17_method_1_code (0 : Nat) (Option.some (Jvm.ClassFile.FieldType.array (Jvm.ClassFile.FieldType.object "com/example/persephone/persephone/lucene/FieldKind")))).before args0 about1 = true := code_word (m := ⟨6, 0⟩) (meth := k6m0) (c := k6c0) (by decide +kernel) rfl rfl rfl (by decide +kernel)
set_option maxRecDepth 65536 in
theorem w_c20 : (Jvm.Cond.code ({ cls := "java/lang/String", name := "equals", desc := "(Ljava/lang/Object;)Z" } : Jvm.MethodName) jdk_42_method_66_code (3 : Nat) (Option.some Jvm.ClassFile.FieldType.boolean)).before args0 about1 = true := code_word (m := ⟨9, 4⟩) (meth := k9m4) (c := k9c4) (by decide +kernel) rfl rfl rfl (by decide +kernel)
set_option maxRecDepth 65536 in
theorem w_c21 : (Jvm.Cond.code ({ cls := "java/lang/StringLatin1", name := "equals", desc := "([B[B)Z" } : Jvm.MethodName) jdk_43_method_13_code (3 : Nat) (Option.some Jvm.ClassFile.FieldType.boolean)).before args0 about1 = true := code_word (m := ⟨10, 2⟩) (meth := k10m2) (c := k10c2) (by decide +kernel) rfl rfl rfl (by decide +kernel)
set_option maxRecDepth 65536 in
theorem w_c22 : (Jvm.Cond.code ({ cls := "com/example/persephone/persephone/lucene/FieldKindLabelledPinLaw", name := "expected", desc := "(Ljava/lang/String;)Lcom/example/persephone/persephone/lucene/FieldKind;" } : Jvm.MethodName) method_6_code (1 : Nat) (Option.some (Jvm.ClassFile.FieldType.object "com/example/persephone/persephone/lucene/FieldKind"))).before args0 about1 = true := code_word (m := ⟨1, 5⟩) (meth := k1m5) (c := k1c5) (by decide +kernel) rfl rfl rfl (by decide +kernel)
def codes1 : List Jvm.Cond := [Jvm.Cond.code x code maxLocals ret, Jvm.Cond.code ({ cls := "com/example/persephone/persephone/lucene/FieldKindLabelledPinLaw", name := "kind", desc := "(I)Lcom/example/persephone/persephone/lucene/FieldKind;" } : Jvm.MethodName) method_3_code (1 : Nat) (Option.some (Jvm.ClassFile.FieldType.object "com/example/persephone/persephone/lucene/FieldKind")), Jvm.Cond.code ({ cls := "com/example/persephone/persephone/lucene/FieldKind", name := "toString", desc := "()Ljava/lang/String;" } : Jvm.MethodName) prog_17_method_5_code (1 : Nat) (Option.some (Jvm.ClassFile.FieldType.object "java/lang/String")), Jvm.Cond.code ({ cls := "com/example/persephone/persephone/lucene/FieldKindLabelledPinLaw", name := "at", desc := "(Ljava/lang/String;IC)C" } : Jvm.MethodName) method_4_code (3 : Nat) (Option.some Jvm.ClassFile.FieldType.char), Jvm.Cond.code ({ cls := "java/lang/String", name := "length", desc := "()I" } : Jvm.MethodName) jdk_42_method_54_code (1 : Nat) (Option.some Jvm.ClassFile.FieldType.int), Jvm.Cond.code ({ cls := "java/lang/String", name := "coder", desc := "()B" } : Jvm.MethodName) jdk_42_method_152_code (1 : Nat) (Option.some Jvm.ClassFile.FieldType.byte), Jvm.Cond.code ({ cls := "java/lang/String", name := "charAt", desc := "(I)C" } : Jvm.MethodName) jdk_42_method_56_code (2 : Nat) (Option.some Jvm.ClassFile.FieldType.char), Jvm.Cond.code ({ cls := "java/lang/String", name := "isLatin1", desc := "()Z" } : Jvm.MethodName) jdk_42_method_154_code (1 : Nat) (Option.some Jvm.ClassFile.FieldType.boolean), Jvm.Cond.code ({ cls := "java/lang/StringLatin1", name := "charAt", desc := "([BI)C" } : Jvm.MethodName) jdk_43_method_2_code (2 : Nat) (Option.some Jvm.ClassFile.FieldType.char), Jvm.Cond.code ({ cls := "java/lang/String", name := "checkIndex", desc := "(II)V" } : Jvm.MethodName) jdk_42_method_155_code (2 : Nat) (Option.none : Option Jvm.ClassFile.FieldType), Jvm.Cond.code ({ cls := "jdk/internal/util/Preconditions", name := "checkIndex", desc := "(IILjava/util/function/BiFunction;)I" } : Jvm.MethodName) jdk_41_method_11_code (3 : Nat) (Option.some Jvm.ClassFile.FieldType.int), Jvm.Cond.code ({ cls := "com/example/persephone/persephone/lucene/FieldKindLabelledPinLaw", name := "str", desc := "([CI)Ljava/lang/String;" } : Jvm.MethodName) method_5_code (2 : Nat) (Option.some (Jvm.ClassFile.FieldType.object "java/lang/String")), Jvm.Cond.code ({ cls := "java/lang/String", name := "<init>", desc := "([C)V" } : Jvm.MethodName) jdk_42_method_3_code (2 : Nat) (Option.none : Option Jvm.ClassFile.FieldType), Jvm.Cond.code ({ cls := "java/lang/String", name := "<init>", desc := "([CIILjava/lang/Void;)V" } : Jvm.MethodName) jdk_42_method_149_code (6 : Nat) (Option.none : Option Jvm.ClassFile.FieldType), Jvm.Cond.code ({ cls := "java/lang/Object", name := "<init>", desc := "()V" } : Jvm.MethodName) object_method_1_code (1 : Nat) (Option.none : Option Jvm.ClassFile.FieldType), Jvm.Cond.code ({ cls := "java/lang/StringUTF16", name := "compress", desc := "([CII)[B" } : Jvm.MethodName) jdk_52_method_16_code (6 : Nat) (Option.some (Jvm.ClassFile.FieldType.array Jvm.ClassFile.FieldType.byte)), Jvm.Cond.code ({ cls := "java/lang/StringUTF16", name := "compress", desc := "([CI[BII)I" } : Jvm.MethodName) jdk_52_method_21_code (7 : Nat) (Option.some Jvm.ClassFile.FieldType.int), Jvm.Cond.code ({ cls := "java/lang/StringUTF16", name := "coderFromArrayLen", desc := "([BI)B" } : Jvm.MethodName) jdk_52_method_15_code (2 : Nat) (Option.some Jvm.ClassFile.FieldType.byte), Jvm.Cond.code ({ cls := "com/example/persephone/persephone/lucene/FieldKind", name := "labelled", desc := "(Ljava/lang/String;)Lcom/example/persephone/persephone/lucene/FieldKind;" } : Jvm.MethodName) prog_17_method_4_code (6 : Nat) (Option.some (Jvm.ClassFile.FieldType.object "com/example/persephone/persephone/lucene/FieldKind")), Jvm.Cond.code ({ cls := "com/example/persephone/persephone/lucene/FieldKind", name := "values", desc := "()[Lcom/example/persephone/persephone/lucene/FieldKind;" } : Jvm.MethodName) prog_17_method_1_code (0 : Nat) (Option.some (Jvm.ClassFile.FieldType.array (Jvm.ClassFile.FieldType.object "com/example/persephone/persephone/lucene/FieldKind"))), Jvm.Cond.code ({ cls := "java/lang/String", name := "equals", desc := "(Ljava/lang/Object;)Z" } : Jvm.MethodName) jdk_42_method_66_code (3 : Nat) (Option.some Jvm.ClassFile.FieldType.boolean), Jvm.Cond.code ({ cls := "java/lang/StringLatin1", name := "equals", desc := "([B[B)Z" } : Jvm.MethodName) jdk_43_method_13_code (3 : Nat) (Option.some Jvm.ClassFile.FieldType.boolean), Jvm.Cond.code ({ cls := "com/example/persephone/persephone/lucene/FieldKindLabelledPinLaw", name := "expected", desc := "(Ljava/lang/String;)Lcom/example/persephone/persephone/lucene/FieldKind;" } : Jvm.MethodName) method_6_code (1 : Nat) (Option.some (Jvm.ClassFile.FieldType.object "com/example/persephone/persephone/lucene/FieldKind"))]
set_option maxRecDepth 65536 in
theorem codes_eq : words1.filter isCode = codes1 := rfl
theorem w_codes : ∀ c ∈ words1.filter isCode, c.before args0 about1 = true := by
  rw [codes_eq]
  intro c hc
  simp only [codes1, List.mem_cons, List.not_mem_nil, or_false] at hc
  rcases hc with rfl | rfl | rfl | rfl | rfl | rfl | rfl | rfl | rfl | rfl | rfl | rfl | rfl | rfl | rfl | rfl | rfl | rfl | rfl | rfl | rfl | rfl | rfl
  · exact w_c0
  · exact w_c1
  · exact w_c2
  · exact w_c3
  · exact w_c4
  · exact w_c5
  · exact w_c6
  · exact w_c7
  · exact w_c8
  · exact w_c9
  · exact w_c10
  · exact w_c11
  · exact w_c12
  · exact w_c13
  · exact w_c14
  · exact w_c15
  · exact w_c16
  · exact w_c17
  · exact w_c18
  · exact w_c19
  · exact w_c20
  · exact w_c21
  · exact w_c22
set_option maxRecDepth 65536 in
theorem w_t1 : (words1.take 24).all (fun c => isCode c || c.before args0 about1) = true := by decide +kernel
set_option maxRecDepth 65536 in
theorem w_t2 : ((words1.drop 24).take 24).all (fun c => isCode c || c.before args0 about1) = true := by decide +kernel
set_option maxRecDepth 65536 in
theorem w_t3 : (((words1.drop 24).drop 24).take 24).all (fun c => isCode c || c.before args0 about1) = true := by decide +kernel
set_option maxRecDepth 65536 in
theorem w_t4 : ((((words1.drop 24).drop 24).drop 24).take 24).all (fun c => isCode c || c.before args0 about1) = true := by decide +kernel
set_option maxRecDepth 65536 in
theorem w_t5 : (((((words1.drop 24).drop 24).drop 24).drop 24).take 24).all (fun c => isCode c || c.before args0 about1) = true := by decide +kernel
set_option maxRecDepth 65536 in
theorem w_t6 : (((((words1.drop 24).drop 24).drop 24).drop 24).drop 24).all (fun c => isCode c || c.before args0 about1) = true := by decide +kernel
theorem w_tables : (allAtoms (Jvm.Cond.code x code maxLocals ret :: tables_1)).before args0 about1 = true := by
  rw [allAtoms_all]
  show words1.all (fun c => c.before args0 about1) = true
  refine all_split ?_ w_codes
  rw [← List.take_append_drop 24 words1, List.all_append, w_t1, ← List.take_append_drop 24 (words1.drop 24), List.all_append, w_t2, ← List.take_append_drop 24 ((words1.drop 24).drop 24), List.all_append, w_t3, ← List.take_append_drop 24 (((words1.drop 24).drop 24).drop 24), List.all_append, w_t4, ← List.take_append_drop 24 ((((words1.drop 24).drop 24).drop 24).drop 24), List.all_append, w_t5, w_t6]
  rfl
set_option maxRecDepth 65536 in
theorem w_rest : rest_1_c.before args0 about1 = true := by decide +kernel
set_option maxRecDepth 65536 in
theorem w_case : (Jvm.Cond.and given_1 narrow_1).before args0 about1 = true := by decide +kernel
set_option maxRecDepth 65536 in
theorem w_consts : constsHeld consts_1 about1 := Jvm.Lit.constsHeldB_iff.mp (by decide +kernel)
theorem w_applies : (headSpec (Jvm.Cond.code x code maxLocals ret :: tables_1) room_1).applies x e0.platform about1 = true :=
  (Spec.applies_iff w_frames).mpr ⟨w_running, w_runnable, w_alone, w_named, w_hears, w_ripe, w_room, w_tables⟩
theorem atStart : AtStart classFile x code maxLocals ret World_1 tables_1 room_1 Calls_1 rest_1 Pre_1 launch0 p0 e0 about1 theMethod args0 below0 :=
  ⟨lists_1, trivial, launch0.admits_env _ _ _, launch0.least_env, fairChoices_fair.cas, fairChoices_fair.clock, w_frames, w_args, w_heap, w_applies, ⟨w_consts, trivial⟩, w_rest, w_case⟩
end start1
theorem witness_1 : WitnessClaimed_1 := ⟨start1.p0, start1.e0, start1.about1, start1.theMethod, start1.args0, start1.below0, start1.atStart⟩
end Jvm.Pilot.@@N@@
