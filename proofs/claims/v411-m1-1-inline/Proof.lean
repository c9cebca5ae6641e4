import JvmDerived
import JvmDerived.Pilot.@@N@@Statement
import JvmDerived.Pilot.@@N@@Code
set_option linter.unusedVariables false
set_option linter.unusedSimpArgs false
/- laws to paste: Road.backV, Road.lenW, Road.chN, Road.eqW, Road.empW, Road.codOf (cut by pick.py; bodies as the Statement names them) -/
namespace Jvm.Pilot.@@N@@
namespace StrChars
open Jvm Sem ClassFile Op Lib Jvm.Stand Jvm.Free.XT Jvm.Free.ALB Jvm.Free.JM Jvm.Free
open Jvm.Lib.Cold (StaticIs)
/-- a char array whose places are chars -/
def Ch (a : Addr) (A : Cell) (U : State) : Prop := Arr .char a A U ∧ Typed .char A
theorem Ch.mv {a : Addr} {A : Cell} {U U' : State} (h : Ch a A U) (hal : U.vm.Alike U'.vm) (hh : U'.heap = U.heap) : Ch a A U' := ⟨h.1.mv hal hh, h.2⟩
theorem Ch.keep {a : Addr} {A : Cell} {U U' : State} (h : Ch a A U) (hal : U.vm.Alike U'.vm) (hk : U'.heap[a]? = some A) : Ch a A U' := ⟨h.1.keep hal hk, h.2⟩
/-- what place i of a char[]'s cell holds -/
def cv (A : Cell) (i : Nat) : Int32 := match A.slots[i]? with | some (.int x) => x | _ => 0
theorem Ch.get {a : Addr} {A : Cell} {U : State} (h : Ch a A U) {i : Nat} (hi : i < A.slots.size) : A.slots[i]? = some (.int (cv A i)) := by
  have e := Array.getElem?_eq_getElem hi
  have f := h.2 i _ e
  unfold cv; rw [e]
  generalize A.slots[i] = v at f
  cases v <;> simp [fits] at f ⊢
/-- the byte that i2b leaves of a char -/
def lo8 (x : Int32) : Int32 := x.toInt8.toInt32
theorem fits_lo8 (y : Int32) : fits .byte (.int (lo8 y)) = true := by
  have h1 := y.toInt8.le_toInt
  have h2 := y.toInt8.toInt_lt
  simp only [lo8, fits, Bool.and_eq_true, decide_eq_true_eq, Int32.le_iff_toInt_le, Int8.toInt_toInt32, show (-128 : Int32).toInt = -128 from by decide, show (127 : Int32).toInt = 127 from by decide]
  omega
/-- A' is A but that each place j of lo .. hi - 1 holds f j -/
def Laid (A A' : Cell) (lo hi : Nat) (f : Nat → Value) : Prop := A'.cls = A.cls ∧ A'.vm = A.vm ∧ A'.slots.size = A.slots.size ∧ ∀ i, A'.slots[i]? = if lo ≤ i ∧ i < hi then some (f i) else A.slots[i]?
theorem Laid.zero (A : Cell) (lo : Nat) (f : Nat → Value) : Laid A A lo (lo + 0) f := ⟨rfl, rfl, rfl, fun i => by rw [if_neg (by omega)]⟩
theorem Laid.step {A Ak : Cell} {lo k : Nat} {f : Nat → Value} {v : Value} (h : Laid A Ak lo k f) (hlo : lo ≤ k) (hk : k < Ak.slots.size) (hv : v = f k) : Laid A (Ak.setSlot k v) lo (k + 1) f := by
  refine ⟨h.1, h.2.1, by simpa [Cell.setSlot] using h.2.2.1, fun i => ?_⟩
  by_cases e : k = i
  · subst e; rw [Cell.slots_setSlot_self v hk, if_pos (by omega), hv]
  · rw [Cell.slots_setSlot_ne v e, h.2.2.2 i]
    by_cases q : lo ≤ i ∧ i < k
    · rw [if_pos q, if_pos (by omega)]
    · rw [if_neg q, if_neg (by omega)]
def U16 : String := "java/lang/StringUTF16"
namespace Cmp5
def yN : MethodName := ⟨"java/lang/StringUTF16", "compress", "([CI[BII)I"⟩
abbrev yB : ByteArray := jdk_52_method_21_code
theorem d0 : decode yB 0 = .ok (.iconst 0, 1) := by decide +kernel
theorem d1 : decode yB 1 = .ok (.istore 5, 2) := by decide +kernel
theorem d3 : decode yB 3 = .ok (.iload 5, 2) := by decide +kernel
theorem d5 : decode yB 5 = .ok (.iload 4, 2) := by decide +kernel
theorem d7 : decode yB 7 = .ok (.if_icmp (.ge) 37, 3) := by decide +kernel
theorem d10 : decode yB 10 = .ok (.aload_n 0, 1) := by decide +kernel
theorem d11 : decode yB 11 = .ok (.iload_n 1, 1) := by decide +kernel
theorem d12 : decode yB 12 = .ok (.caload, 1) := by decide +kernel
theorem d13 : decode yB 13 = .ok (.istore 6, 2) := by decide +kernel
theorem d15 : decode yB 15 = .ok (.iload 6, 2) := by decide +kernel
theorem d17 : decode yB 17 = .ok (.sipush 255, 3) := by decide +kernel
theorem d20 : decode yB 20 = .ok (.if_icmp (.le) 6, 3) := by decide +kernel
theorem d26 : decode yB 26 = .ok (.aload_n 2, 1) := by decide +kernel
theorem d27 : decode yB 27 = .ok (.iload_n 3, 1) := by decide +kernel
theorem d28 : decode yB 28 = .ok (.iload 6, 2) := by decide +kernel
theorem d30 : decode yB 30 = .ok (.i2b, 1) := by decide +kernel
theorem d31 : decode yB 31 = .ok (.bastore, 1) := by decide +kernel
theorem d32 : decode yB 32 = .ok (.iinc 1 1, 3) := by decide +kernel
theorem d35 : decode yB 35 = .ok (.iinc 3 1, 3) := by decide +kernel
theorem d38 : decode yB 38 = .ok (.iinc 5 1, 3) := by decide +kernel
theorem d41 : decode yB 41 = .ok (.goto (-38), 3) := by decide +kernel
theorem d44 : decode yB 44 = .ok (.iload 4, 2) := by decide +kernel
theorem d46 : decode yB 46 = .ok (.ireturn, 1) := by decide +kernel
def site : List Cond := []
def tab : Cond := tabOf yN yB 7 (some .int) site
def P (b : Addr) (A : Cell) (d : Addr) (B : Cell) (o q len : Nat) (args : Array Value) (s : State) : Prop := args = #[.ref b, .int (Int32.ofNat o), .ref d, .int (Int32.ofNat q), .int (Int32.ofNat len)] ∧ Ch b A s ∧ Arr .byte d B s ∧ b ≠ d ∧ o + len ≤ A.slots.size ∧ q + len ≤ B.slots.size ∧ ∀ i, i < len → ¬ 255 < cv A (o + i)
def E (b : Addr) (A : Cell) (d : Addr) (B : Cell) (o q len : Nat) (r : Option Value) (s u : State) : Prop := r = some (.int (Int32.ofNat len)) ∧ ∃ B', Put d B' s u ∧ Laid B B' q (q + len) (fun j => Value.int (lo8 (cv A (o + (j - q)))))
/-- no char of the range above 255: len; the places written hold each char's low byte -/
theorem law (l : Launch) (b : Addr) (A : Cell) (d : Addr) (B : Cell) (o q len : Nat) : Law l yN 5 5 0 0 yB 7 (some .int) site (P b A d B o q len) (E b A d B o q len) (copyLocs d q len) 0 0 := by
  refine Law.of_walk (plainFor_of_name (by decide +kernel)) (by decide +kernel) (by decide +kernel) (by decide) (fun _ _ h => by rw [h.1]; rfl) (fun _ U U' hal hh h => ⟨h.1, h.2.1.mv hal hh, h.2.2.1.mv hal hh, h.2.2.2⟩) (fun r U U' V V' h1 hal h2 h => ⟨h.1, h.2.elim fun B' q => ⟨B', q.1.mv h1 h2, q.2⟩⟩) ?_
  intro p e s m args below meth c s₁ X0 hexec hbytes hml hret hlk hnm hown hh0 W hP
  obtain ⟨rfl, hA, hB, hne, l1, l2, hp⟩ := hP
  have c1 : Steps p.tables e below (s₁.setTop (entryFrame m #[.ref b, .int (Int32.ofNat o), .ref d, .int (Int32.ofNat q), .int (Int32.ofNat len)] 7)) (s₁.setTop (mkF m 0 #[.val (.ref b), .val (.int (Int32.ofNat o)), .val (.ref d), .val (.int (Int32.ofNat q)), .val (.int (Int32.ofNat len)), .unset, .unset] [])) := entry rfl
  have hA0 := hA.1.mv X0.warmed.alike hh0
  have hB0 := hB.mv X0.warmed.alike hh0
  have a31 := hA.1.2.2.2
  have c2 : Steps p.tables e below (s₁.setTop (entryFrame m #[.ref b, .int (Int32.ofNat o), .ref d, .int (Int32.ofNat q), .int (Int32.ofNat len)] 7)) (s₁.setTop (mkF m 3 #[.val (.ref b), .val (.int (Int32.ofNat o)), .val (.ref d), .val (.int (Int32.ofNat q)), .val (.int (Int32.ofNat len)), .val (.int 0), .unset] [])) := c1.trans (by
    refine iconstV X0.here hexec rfl 0 (hb hbytes d0) (by decide) ?_
    refine XS.istore X0.here hexec rfl (hb hbytes d1) rfl rfl ?_
    exact Steps.refl _)
  have loop : ∀ (r i : Nat), i + r = len → ∀ (z : Slot), (z = .unset ∨ ∃ w, z = .val w ∧ w.category = 1) → ∀ (Tl : State) (Bk : Cell), Stand p l e { frames := 0, locals := 0, cells := 0, slots := 0 } s m #[.ref b, .int (Int32.ofNat o), .ref d, .int (Int32.ofNat q), .int (Int32.ofNat len)] below meth c Tl ([] ++ copyLocs d q i) 0 0 → Put d Bk s₁ Tl → Laid B Bk q (q + i) (fun j => Value.int (lo8 (cv A (o + (j - q))))) →
      Steps p.tables e below (s₁.setTop (entryFrame m #[.ref b, .int (Int32.ofNat o), .ref d, .int (Int32.ofNat q), .int (Int32.ofNat len)] 7)) (Tl.setTop (mkF m 3 #[.val (.ref b), .val (.int (Int32.ofNat (o + i))), .val (.ref d), .val (.int (Int32.ofNat (q + i))), .val (.int (Int32.ofNat len)), .val (.int (Int32.ofNat i)), z] [])) → ∃ (T' : State) (B' : Cell) (z' : Slot), Stand p l e { frames := 0, locals := 0, cells := 0, slots := 0 } s m #[.ref b, .int (Int32.ofNat o), .ref d, .int (Int32.ofNat q), .int (Int32.ofNat len)] below meth c T' ([] ++ copyLocs d q len) 0 0 ∧ Put d B' s₁ T' ∧ Laid B B' q (q + len) (fun j => Value.int (lo8 (cv A (o + (j - q))))) ∧
      Steps p.tables e below (s₁.setTop (entryFrame m #[.ref b, .int (Int32.ofNat o), .ref d, .int (Int32.ofNat q), .int (Int32.ofNat len)] 7)) (T'.setTop (mkF m 3 #[.val (.ref b), .val (.int (Int32.ofNat (o + len))), .val (.ref d), .val (.int (Int32.ofNat (q + len))), .val (.int (Int32.ofNat len)), .val (.int (Int32.ofNat len)), z'] [])) := by
    intro r
    induction r with
    | zero =>
      intro i hi z hz Tl Bk Xl pl fl cl
      have hil : i = len := by omega
      rw [hil] at Xl fl cl
      exact ⟨Tl, Bk, z, Xl, pl, fl, cl⟩
    | succ r ih =>
      intro i hi z hz Tl Bk Xl pl fl cl
      have all := X0.warmed.alike.symm.trans Xl.warmed.alike
      have hAl := hA0.keep all (pl.other hne hA0.1)
      have hBk := hB0.like all pl.1 fl.1 fl.2.1 fl.2.2.1
      have hlt : q + i < Bk.slots.size := by rw [fl.2.2.1]; omega
      have c3 : Steps p.tables e below (s₁.setTop (entryFrame m #[.ref b, .int (Int32.ofNat o), .ref d, .int (Int32.ofNat q), .int (Int32.ofNat len)] 7)) (Tl.setTop (mkF m 12 #[.val (.ref b), .val (.int (Int32.ofNat (o + i))), .val (.ref d), .val (.int (Int32.ofNat (q + i))), .val (.int (Int32.ofNat len)), .val (.int (Int32.ofNat i)), z] [.int (Int32.ofNat (o + i)), .ref b])) := cl.trans (by
        refine XS.iload Xl.here hexec rfl (hb hbytes d3) rfl ?_
        refine XS.iload Xl.here hexec rfl (hb hbytes d5) rfl ?_
        refine XS.icmpNo Xl.here hexec rfl (hb hbytes d7) rfl (ii_ge_f (lt32 (by omega) (by omega))) ?_
        refine XS.aloadN Xl.here hexec rfl (hb hbytes d10) rfl rfl ?_
        refine XS.iloadN Xl.here hexec rfl (hb hbytes d11) rfl ?_
        exact Steps.refl _)
      have c4 : Steps p.tables e below (s₁.setTop (entryFrame m #[.ref b, .int (Int32.ofNat o), .ref d, .int (Int32.ofNat q), .int (Int32.ofNat len)] 7)) (Tl.setTop (mkF m 13 #[.val (.ref b), .val (.int (Int32.ofNat (o + i))), .val (.ref d), .val (.int (Int32.ofNat (q + i))), .val (.int (Int32.ofNat len)), .val (.int (Int32.ofNat i)), z] [.int (cv A (o + i))])) := c3.trans (by
        refine Xl.aget hexec hAl rfl (hA.get (i := o + i) (by omega)) rfl rfl (hb hbytes d12) ?_
        exact Steps.refl _)
      have c5 : Steps p.tables e below (s₁.setTop (entryFrame m #[.ref b, .int (Int32.ofNat o), .ref d, .int (Int32.ofNat q), .int (Int32.ofNat len)] 7)) (Tl.setTop (mkF m 15 #[.val (.ref b), .val (.int (Int32.ofNat (o + i))), .val (.ref d), .val (.int (Int32.ofNat (q + i))), .val (.int (Int32.ofNat len)), .val (.int (Int32.ofNat i)), .val (.int (cv A (o + i)))] [])) := c4.trans (by
        refine XS.istoreS Xl.here hexec rfl (hb hbytes d13) rfl rfl hz ?_
        exact Steps.refl _)
      have c6 : Steps p.tables e below (s₁.setTop (entryFrame m #[.ref b, .int (Int32.ofNat o), .ref d, .int (Int32.ofNat q), .int (Int32.ofNat len)] 7)) (Tl.setTop (mkF m 31 #[.val (.ref b), .val (.int (Int32.ofNat (o + i))), .val (.ref d), .val (.int (Int32.ofNat (q + i))), .val (.int (Int32.ofNat len)), .val (.int (Int32.ofNat i)), .val (.int (cv A (o + i)))] [.int (lo8 (cv A (o + i))), .int (Int32.ofNat (q + i)), .ref d])) := c5.trans (by
        refine XS.iload Xl.here hexec rfl (hb hbytes d15) rfl ?_
        refine sipushV Xl.here hexec rfl 255 (hb hbytes d17) (by decide) ?_
        refine XS.icmpYes Xl.here hexec rfl (pc0 := 20) rfl (hb hbytes d20) rfl (ii_le_t (hp i (by omega))) (by decide) rfl ?_
        refine XS.aloadN Xl.here hexec rfl (hb hbytes d26) rfl rfl ?_
        refine XS.iloadN Xl.here hexec rfl (hb hbytes d27) rfl ?_
        refine XS.iload Xl.here hexec rfl (hb hbytes d28) rfl ?_
        refine i2b Xl.here hexec rfl (hb hbytes d30) rfl ?_
        exact Steps.refl _)
      obtain ⟨T7, X7, p7, st7⟩ := Xl.aput hexec hBk rfl hlt rfl (fits_lo8 (cv A (o + i))) (g := (mkF m 31 #[.val (.ref b), .val (.int (Int32.ofNat (o + i))), .val (.ref d), .val (.int (Int32.ofNat (q + i))), .val (.int (Int32.ofNat len)), .val (.int (Int32.ofNat i)), .val (.int (cv A (o + i)))] [.int (lo8 (cv A (o + i))), .int (Int32.ofNat (q + i)), .ref d])) rfl (rest := []) rfl (hb hbytes d31)
      have c8 : Steps p.tables e below (s₁.setTop (entryFrame m #[.ref b, .int (Int32.ofNat o), .ref d, .int (Int32.ofNat q), .int (Int32.ofNat len)] 7)) (T7.setTop (mkF m 32 #[.val (.ref b), .val (.int (Int32.ofNat (o + i))), .val (.ref d), .val (.int (Int32.ofNat (q + i))), .val (.int (Int32.ofNat len)), .val (.int (Int32.ofNat i)), .val (.int (cv A (o + i)))] [])) := c6.trans (st7 _ (Steps.refl _))
      have c9 : Steps p.tables e below (s₁.setTop (entryFrame m #[.ref b, .int (Int32.ofNat o), .ref d, .int (Int32.ofNat q), .int (Int32.ofNat len)] 7)) (T7.setTop (mkF m 3 #[.val (.ref b), .val (.int (Int32.ofNat (o + i) + 1)), .val (.ref d), .val (.int (Int32.ofNat (q + i) + 1)), .val (.int (Int32.ofNat len)), .val (.int (Int32.ofNat i + 1)), .val (.int (cv A (o + i)))] [])) := c8.trans (by
        refine iincV X7.here hexec rfl 1 (hb hbytes d32) (by decide) rfl rfl ?_
        refine iincV X7.here hexec rfl 1 (hb hbytes d35) (by decide) rfl rfl ?_
        refine iincV X7.here hexec rfl 1 (hb hbytes d38) (by decide) rfl rfl ?_
        refine XS.goto X7.here hexec rfl (pc0 := 41) rfl (hb hbytes d41) (by decide) rfl ?_
        exact Steps.refl _)
      have c10 : Steps p.tables e below (s₁.setTop (entryFrame m #[.ref b, .int (Int32.ofNat o), .ref d, .int (Int32.ofNat q), .int (Int32.ofNat len)] 7)) (T7.setTop (mkF m 3 #[.val (.ref b), .val (.int (Int32.ofNat (o + (i + 1)))), .val (.ref d), .val (.int (Int32.ofNat (q + (i + 1)))), .val (.int (Int32.ofNat len)), .val (.int (Int32.ofNat (i + 1))), .val (.int (cv A (o + i)))] [])) := by
        have := c9
        rw [succ32, succ32, succ32] at this
        exact this
      exact ih (i + 1) (by omega) _ (Or.inr ⟨_, rfl, rfl⟩) T7 _ (by rw [copyLocs_step, ← List.append_assoc]; exact X7) (pl.trans p7) (fl.step (by omega) hlt (by simp)) c10
  obtain ⟨T9, B9, z9, X9, p9, f9, g9⟩ := loop len 0 (by omega) .unset (Or.inl rfl) s₁ B (by simpa [copyLocs] using X0) ⟨hB0.1, fun _ _ => rfl, rfl⟩ (Laid.zero _ _ _) c2
  have c11 : Steps p.tables e below (s₁.setTop (entryFrame m #[.ref b, .int (Int32.ofNat o), .ref d, .int (Int32.ofNat q), .int (Int32.ofNat len)] 7)) (T9.setTop (mkF m 46 #[.val (.ref b), .val (.int (Int32.ofNat (o + len))), .val (.ref d), .val (.int (Int32.ofNat (q + len))), .val (.int (Int32.ofNat len)), .val (.int (Int32.ofNat len)), z9] [.int (Int32.ofNat len)])) := g9.trans (by
    refine XS.iload X9.here hexec rfl (hb hbytes d3) rfl ?_
    refine XS.iload X9.here hexec rfl (hb hbytes d5) rfl ?_
    refine XS.icmpYes X9.here hexec rfl (pc0 := 7) rfl (hb hbytes d7) rfl (ii_ge_t (nlt32 (by omega) (Nat.le_refl _))) (by decide) rfl ?_
    refine XS.iload X9.here hexec rfl (hb hbytes d44) rfl ?_
    exact Steps.refl _)
  exact ⟨T9, some (.int (Int32.ofNat len)), _, _, _, X9, by simp, rfl, rfl, (fun h => by cases h), ⟨rfl, B9, p9.from hh0, f9⟩, fun fs hl => c11.trans (X9.ireturnOut hexec hret rfl (Or.inl rfl) (hb hbytes d46) hl)⟩
end Cmp5
namespace Cmp3
def yN : MethodName := ⟨"java/lang/StringUTF16", "compress", "([CII)[B"⟩
abbrev yB : ByteArray := jdk_52_method_16_code
theorem d0 : decode yB 0 = .ok (.iload_n 2, 1) := by decide +kernel
theorem d1 : decode yB 1 = .ok (.newarray .byte, 2) := by decide +kernel
theorem d3 : decode yB 3 = .ok (.astore_n 3, 1) := by decide +kernel
theorem d4 : decode yB 4 = .ok (.aload_n 0, 1) := by decide +kernel
theorem d5 : decode yB 5 = .ok (.iload_n 1, 1) := by decide +kernel
theorem d6 : decode yB 6 = .ok (.aload_n 3, 1) := by decide +kernel
theorem d7 : decode yB 7 = .ok (.iconst 0, 1) := by decide +kernel
theorem d8 : decode yB 8 = .ok (.iload_n 2, 1) := by decide +kernel
theorem d9 : decode yB 9 = .ok (.invokestatic 115, 3) := by decide +kernel
theorem d12 : decode yB 12 = .ok (.istore 4, 2) := by decide +kernel
theorem d14 : decode yB 14 = .ok (.iload 4, 2) := by decide +kernel
theorem d16 : decode yB 16 = .ok (.iload_n 2, 1) := by decide +kernel
theorem d17 : decode yB 17 = .ok (.if_icmp (.eq) 40, 3) := by decide +kernel
theorem d57 : decode yB 57 = .ok (.aload_n 3, 1) := by decide +kernel
theorem d58 : decode yB 58 = .ok (.areturn, 1) := by decide +kernel
def site : List Cond := [.arrayClass .byte, Cmp5.tab] ++ staticW U16 115 Cmp5.yN
def tab : Cond := tabOf yN yB 6 (some (.array .byte)) site
def P (b : Addr) (A : Cell) (o len : Nat) (args : Array Value) (s : State) : Prop := args = #[.ref b, .int (Int32.ofNat o), .int (Int32.ofNat len)] ∧ Ch b A s ∧ o + len ≤ A.slots.size ∧ len ≤ 536870912 ∧ ∀ i, i < len → ¬ 255 < cv A (o + i)
def E (b : Addr) (A : Cell) (o len : Nat) (r : Option Value) (s u : State) : Prop := NewArr .byte "[B" len (fun j => .int (lo8 (cv A (o + j)))) r s u ∧ u.heap.size = s.heap.size + 1
/-- no char of the range above 255: a new byte[] of their low bytes -/
theorem law (l : Launch) (b : Addr) (A : Cell) (o len : Nat) : Law l yN 3 3 1 18 yB 6 (some (.array .byte)) site (P b A o len) (E b A o len) [] 1 len := by
  refine Law.of_walk (plainFor_of_name (by decide +kernel)) (by decide +kernel) (by decide +kernel) (by decide) (fun _ _ h => by rw [h.1]; rfl) (fun _ U U' hal hh h => ⟨h.1, h.2.1.mv hal hh, h.2.2⟩) (fun r U U' V V' h1 hal h2 h => ⟨NewArr.mv r U U' V V' h1 hal h2 h.1, by rw [h1, h2]; exact h.2⟩) ?_
  intro p e s m args below meth c s₁ X0 hexec hbytes hml hret hlk hnm hown hh0 W hP
  obtain ⟨rfl, hA, l1, l2, hp⟩ := hP
  have a31 := hA.1.2.2.2
  have c1 : Steps p.tables e below (s₁.setTop (entryFrame m #[.ref b, .int (Int32.ofNat o), .int (Int32.ofNat len)] 6)) (s₁.setTop (mkF m 0 #[.val (.ref b), .val (.int (Int32.ofNat o)), .val (.int (Int32.ofNat len)), .unset, .unset, .unset] [])) := entry rfl
  have c2 : Steps p.tables e below (s₁.setTop (entryFrame m #[.ref b, .int (Int32.ofNat o), .int (Int32.ofNat len)] 6)) (s₁.setTop (mkF m 1 #[.val (.ref b), .val (.int (Int32.ofNat o)), .val (.int (Int32.ofNat len)), .unset, .unset, .unset] [.int (Int32.ofNat len)])) := c1.trans (by
    refine XS.iloadN X0.here hexec rfl (hb hbytes d0) rfl ?_
    exact Steps.refl _)
  obtain ⟨T3, B3, X3, ba3, bs3, bv3, bh3, bf3, st3⟩ := X0.anew hexec (atype := .byte) (wk W (.arrayClass .byte)) rfl (by show len * 1 ≤ _; omega) (by omega) (g := (mkF m 1 #[.val (.ref b), .val (.int (Int32.ofNat o)), .val (.int (Int32.ofNat len)), .unset, .unset, .unset] [.int (Int32.ofNat len)])) rfl (hb hbytes d1) (rest := []) rfl (Nat.le_refl _) (by show 0 + len ≤ len; omega)
  rw [hh0] at ba3 st3
  have kp3 : XT.Kept s T3 := (XT.Kept.of_eq hh0).push bh3
  have hA3 := hA.keep X3.warmed.alike (kp3 _ _ hA.1.1)
  have hne : b ≠ s.heap.size := hA.1.ne
  have c4 : Steps p.tables e below (s₁.setTop (entryFrame m #[.ref b, .int (Int32.ofNat o), .int (Int32.ofNat len)] 6)) (T3.setTop (mkF m 3 #[.val (.ref b), .val (.int (Int32.ofNat o)), .val (.int (Int32.ofNat len)), .unset, .unset, .unset] [.ref s.heap.size])) := c2.trans (st3 _ (Steps.refl _))
  have c5 : Steps p.tables e below (s₁.setTop (entryFrame m #[.ref b, .int (Int32.ofNat o), .int (Int32.ofNat len)] 6)) (T3.setTop (mkF m 9 #[.val (.ref b), .val (.int (Int32.ofNat o)), .val (.int (Int32.ofNat len)), .val (.ref s.heap.size), .unset, .unset] [.int (Int32.ofNat len), .int 0, .ref s.heap.size, .int (Int32.ofNat o), .ref b])) := c4.trans (by
    refine XS.astoreN X3.here hexec rfl (hb hbytes d3) rfl rfl rfl ?_
    refine XS.aloadN X3.here hexec rfl (hb hbytes d4) rfl rfl ?_
    refine XS.iloadN X3.here hexec rfl (hb hbytes d5) rfl ?_
    refine XS.aloadN X3.here hexec rfl (hb hbytes d6) rfl rfl ?_
    refine iconstV X3.here hexec rfl 0 (hb hbytes d7) (by decide) ?_
    refine XS.iloadN X3.here hexec rfl (hb hbytes d8) rfl ?_
    exact Steps.refl _)
  obtain ⟨v6, T6, X6, E6, g6⟩ := X3.callS hexec (Cmp5.law l b A s.heap.size B3 o 0 len) hown (wks W (staticW U16 115 Cmp5.yN)) (wk W Cmp5.tab) (W := 0) (Nat.le_of_ble_eq_true rfl) (Nat.le_of_ble_eq_true rfl) (Nat.le_refl _) (by show 0 + len + 0 ≤ len; omega) (g := (mkF m 9 #[.val (.ref b), .val (.int (Int32.ofNat o)), .val (.int (Int32.ofNat len)), .val (.ref s.heap.size), .unset, .unset] [.int (Int32.ofNat len), .int (Int32.ofNat 0), .ref s.heap.size, .int (Int32.ofNat o), .ref b])) rfl (by rw [hml]; rfl) c5 (argsL := [.ref b, .int (Int32.ofNat o), .ref s.heap.size, .int (Int32.ofNat 0), .int (Int32.ofNat len)]) (rest := []) rfl rfl (by show 2 * 0 + 0 ≤ _; decide) (hb hbytes d9) (⟨rfl, hA3, ba3, hne, l1, by rw [bs3]; simp, hp⟩)
  obtain ⟨rfl, B6, p6, f6⟩ := E6
  have c7 : Steps p.tables e below (s₁.setTop (entryFrame m #[.ref b, .int (Int32.ofNat o), .int (Int32.ofNat len)] 6)) (T6.setTop (mkF m 12 #[.val (.ref b), .val (.int (Int32.ofNat o)), .val (.int (Int32.ofNat len)), .val (.ref s.heap.size), .unset, .unset] [.int (Int32.ofNat len)])) := g6
  have c8 : Steps p.tables e below (s₁.setTop (entryFrame m #[.ref b, .int (Int32.ofNat o), .int (Int32.ofNat len)] 6)) (T6.setTop (mkF m 58 #[.val (.ref b), .val (.int (Int32.ofNat o)), .val (.int (Int32.ofNat len)), .val (.ref s.heap.size), .val (.int (Int32.ofNat len)), .unset] [.ref s.heap.size])) := c7.trans (by
    refine XS.istore X6.here hexec rfl (hb hbytes d12) rfl rfl ?_
    refine XS.iload X6.here hexec rfl (hb hbytes d14) rfl ?_
    refine XS.iloadN X6.here hexec rfl (hb hbytes d16) rfl ?_
    refine XS.icmpYes X6.here hexec rfl (pc0 := 17) rfl (hb hbytes d17) rfl (ii_eq_t rfl) (by decide) rfl ?_
    refine XS.aloadN X6.here hexec rfl (hb hbytes d57) rfl rfl ?_
    exact Steps.refl _)
  have X8 := X6.wide (L' := []) (cells' := 1) (slots' := len) (fun x hx hlt => by
    simp only [List.nil_append, copyLocs, List.mem_map, List.mem_range] at hx
    obtain ⟨i, -, rfl⟩ := hx
    exact absurd hlt (Nat.lt_irrefl _)) (Nat.le_refl _) (by omega)
  exact ⟨T6, some (.ref s.heap.size), _, _, _, X8, rfl, rfl, rfl, (fun h => by cases h), ⟨⟨rfl, B6, ba3.like (X3.warmed.alike.symm.trans X6.warmed.alike) p6.1 f6.1 f6.2.1 f6.2.2.1, f6.2.1.trans bv3, by rw [X6.warmed.alike.findClass, f6.1]; exact bf3, by rw [f6.2.2.1, bs3]; simp, fun j hj => by rw [f6.2.2.2 j, if_pos (by omega)]; rfl, kp3.put p6 (Nat.le_refl _)⟩, by rw [p6.2.2, bh3, hh0]; simp⟩, fun fs hl => c8.trans (X8.areturnOut hexec rfl hret rfl (hb hbytes d58) hl)⟩
end Cmp3
namespace CodL
def yN : MethodName := ⟨"java/lang/StringUTF16", "coderFromArrayLen", "([BI)B"⟩
abbrev yB : ByteArray := jdk_52_method_15_code
theorem d0 : decode yB 0 = .ok (.iload_n 1, 1) := by decide +kernel
theorem d1 : decode yB 1 = .ok (.aload_n 0, 1) := by decide +kernel
theorem d2 : decode yB 2 = .ok (.arraylength, 1) := by decide +kernel
theorem d3 : decode yB 3 = .ok (.isub, 1) := by decide +kernel
theorem d4 : decode yB 4 = .ok (.bipush 31, 2) := by decide +kernel
theorem d6 : decode yB 6 = .ok (.iushr, 1) := by decide +kernel
theorem d7 : decode yB 7 = .ok (.i2b, 1) := by decide +kernel
theorem d8 : decode yB 8 = .ok (.ireturn, 1) := by decide +kernel
def site : List Cond := []
def tab : Cond := tabOf yN yB 2 (some .byte) site
def P (d : Addr) (B : Cell) (args : Array Value) (s : State) : Prop := args = #[.ref d, .int (Int32.ofNat B.slots.size)] ∧ Arr .byte d B s
def E (r : Option Value) (s u : State) : Prop := XT.PureE (some (.int 0)) r s u
/-- an array as long as the number of chars: LATIN1 -/
theorem law (l : Launch) (d : Addr) (B : Cell) : Law l yN 2 2 0 0 yB 2 (some .byte) site (P d B) E [] 0 0 := by
  refine Law.of_walk (plainFor_of_name (by decide +kernel)) (by decide +kernel) (by decide +kernel) (by decide) (fun _ _ h => by rw [h.1]; rfl) (fun _ U U' hal hh h => ⟨h.1, h.2.mv hal hh⟩) (fun r U U' V V' h1 hal h2 h => XT.PureE.mv r U U' V V' h1 hal h2 h) ?_
  intro p e s m args below meth c s₁ X0 hexec hbytes hml hret hlk hnm hown hh0 W hP
  obtain ⟨rfl, hB⟩ := hP
  have hB0 := hB.mv X0.warmed.alike hh0
  have c1 : Steps p.tables e below (s₁.setTop (entryFrame m #[.ref d, .int (Int32.ofNat B.slots.size)] 2)) (s₁.setTop (mkF m 0 #[.val (.ref d), .val (.int (Int32.ofNat B.slots.size))] [])) := entry rfl
  have c2 : Steps p.tables e below (s₁.setTop (entryFrame m #[.ref d, .int (Int32.ofNat B.slots.size)] 2)) (s₁.setTop (mkF m 2 #[.val (.ref d), .val (.int (Int32.ofNat B.slots.size))] [.ref d, .int (Int32.ofNat B.slots.size)])) := c1.trans (by
    refine XS.iloadN X0.here hexec rfl (hb hbytes d0) rfl ?_
    refine XS.aloadN X0.here hexec rfl (hb hbytes d1) rfl rfl ?_
    exact Steps.refl _)
  have c3 : Steps p.tables e below (s₁.setTop (entryFrame m #[.ref d, .int (Int32.ofNat B.slots.size)] 2)) (s₁.setTop (mkF m 8 #[.val (.ref d), .val (.int (Int32.ofNat B.slots.size))] [.int (lo8 (ushr (Int32.ofNat B.slots.size - Int32.ofNat B.slots.size) 31))])) := c2.trans (by
    refine X0.alen hexec hB0 rfl rfl (hb hbytes d2) ?_
    refine XS.isub X0.here hexec rfl (hb hbytes d3) rfl ?_
    refine bipushV X0.here hexec rfl 31 (hb hbytes d4) (by decide) ?_
    refine iushr X0.here hexec rfl (hb hbytes d6) rfl ?_
    refine i2b X0.here hexec rfl (hb hbytes d7) rfl ?_
    exact Steps.refl _)
  have e0 : lo8 (ushr (Int32.ofNat B.slots.size - Int32.ofNat B.slots.size) 31) = 0 := by rw [Int32.sub_self]; decide
  rw [e0] at c3
  exact ⟨s₁, some (.int 0), _, _, _, X0, rfl, rfl, rfl, (fun h => by cases h), ⟨rfl, hh0⟩, fun fs hl => c3.trans (X0.ireturnOut hexec hret rfl (Or.inr (Or.inr (Or.inl rfl))) (hb hbytes d8) hl)⟩
end CodL
/-- the String at a is Latin-1 over a new byte[] (the heap's one new cell): the low bytes of the len chars of A from o on; every cell but a is kept -/
def Got (a : Addr) (D : Cell) (fV fC : Field) (A : Cell) (o len : Nat) (r : Option Value) (s u : State) : Prop := r = none ∧ ∃ D' V : Cell, Blank "java/lang/String" a D' u ∧ Same D D' [fV.slot, fC.slot] ∧ D'.slots[fV.slot]? = some (.ref s.heap.size) ∧ D'.slots[fC.slot]? = some (.int 0) ∧ Arr .byte s.heap.size V u ∧ V.vm = .none ∧ u.vm.findClass "[B" = some V.cls ∧ V.slots.size = len ∧ (∀ j, j < len → V.slots[j]? = some (.int (lo8 (cv A (o + j))))) ∧ (∀ (y : Addr) (c : Cell), y ≠ a → s.heap[y]? = some c → u.heap[y]? = some c) ∧ u.heap.size = s.heap.size + 1
theorem Got.mv {a : Addr} {D A : Cell} {fV fC : Field} {o len : Nat} : ∀ r (U U' V V' : State), U'.heap = U.heap → V.vm.Alike V'.vm → V'.heap = V.heap → Got a D fV fC A o len r U V → Got a D fV fC A o len r U' V' :=
  fun r U U' V V' h1 hal h2 ⟨e0, D', X, a1, a2, a3, a4, a5, a6, a7, a8, a9, a10, a11⟩ => ⟨e0, D', X, a1.mv hal h2, a2, by rw [h1]; exact a3, a4, by rw [h1]; exact a5.mv hal h2, a6, by rw [hal.findClass]; exact a7, a8, a9, by rw [h1, h2]; exact a10, by rw [h1, h2]; exact a11⟩
namespace New4
def yN : MethodName := ⟨"java/lang/String", "<init>", "([CIILjava/lang/Void;)V"⟩
abbrev yB : ByteArray := jdk_42_method_149_code
theorem d0 : decode yB 0 = .ok (.aload_n 0, 1) := by decide +kernel
theorem d1 : decode yB 1 = .ok (.invokespecial 1, 3) := by decide +kernel
theorem d4 : decode yB 4 = .ok (.iload_n 3, 1) := by decide +kernel
theorem d5 : decode yB 5 = .ok (.ifCond (.ne) 22, 3) := by decide +kernel
theorem d27 : decode yB 27 = .ok (.getstatic 38, 3) := by decide +kernel
theorem d30 : decode yB 30 = .ok (.ifCond (.eq) 28, 3) := by decide +kernel
theorem d33 : decode yB 33 = .ok (.aload_n 1, 1) := by decide +kernel
theorem d34 : decode yB 34 = .ok (.iload_n 2, 1) := by decide +kernel
theorem d35 : decode yB 35 = .ok (.iload_n 3, 1) := by decide +kernel
theorem d36 : decode yB 36 = .ok (.invokestatic 177, 3) := by decide +kernel
theorem d39 : decode yB 39 = .ok (.astore 5, 2) := by decide +kernel
theorem d41 : decode yB 41 = .ok (.aload_n 0, 1) := by decide +kernel
theorem d42 : decode yB 42 = .ok (.aload 5, 2) := by decide +kernel
theorem d44 : decode yB 44 = .ok (.iload_n 3, 1) := by decide +kernel
theorem d45 : decode yB 45 = .ok (.invokestatic 47, 3) := by decide +kernel
theorem d48 : decode yB 48 = .ok (.putfield 15, 3) := by decide +kernel
theorem d51 : decode yB 51 = .ok (.aload_n 0, 1) := by decide +kernel
theorem d52 : decode yB 52 = .ok (.aload 5, 2) := by decide +kernel
theorem d54 : decode yB 54 = .ok (.putfield 9, 3) := by decide +kernel
theorem d57 : decode yB 57 = .ok (.return_, 1) := by decide +kernel
def site : List Cond := [.fieldLink "java/lang/String" 38 "java/lang/String" "COMPACT_STRINGS" "Z", Cmp3.tab, CodL.tab, .laysFinal "java/lang/String" "java/lang/String" "value" "[B", .fieldLink "java/lang/String" 9 "java/lang/String" "value" "[B", .laysFinal "java/lang/String" "java/lang/String" "coder" "B", .fieldLink "java/lang/String" 15 "java/lang/String" "coder" "B"] ++ objW "java/lang/String" 1 ++ staticW "java/lang/String" 177 Cmp3.yN ++ staticW "java/lang/String" 47 CodL.yN
def tab : Cond := tabOf yN yB 6 none site
def P (a : Addr) (D : Cell) (fV fC : Field) (b : Addr) (A : Cell) (z : Int32) (o len : Nat) (args : Array Value) (s : State) : Prop := args = #[.ref a, .ref b, .int (Int32.ofNat o), .int (Int32.ofNat len), .null] ∧ Blank "java/lang/String" a D s ∧ Found "java/lang/String" "value" "[B" fV s ∧ Found "java/lang/String" "coder" "B" fC s ∧ Ch b A s ∧ StaticIs s "java/lang/String" "COMPACT_STRINGS" "Z" (.int z) ∧ ¬ z = 0 ∧ 0 < len ∧ o + len ≤ A.slots.size ∧ len ≤ 536870912 ∧ ∀ i, i < len → ¬ 255 < cv A (o + i)
def E (a : Addr) (D : Cell) (fV fC : Field) (A : Cell) (o len : Nat) (r : Option Value) (s u : State) : Prop := Got a D fV fC A o len r s u
/-- len > 0, no char of the range above 255: a Latin-1 String of their low bytes -/
theorem law (l : Launch) (a : Addr) (D : Cell) (fV fC : Field) (b : Addr) (A : Cell) (z : Int32) (o len : Nat) : Law l yN 5 4 2 35 yB 6 none site (P a D fV fC b A z o len) (E a D fV fC A o len) [⟨a, fC.slot⟩, ⟨a, fV.slot⟩] 1 len := by
  refine Law.of_walk (plainFor_of_name (by decide +kernel)) (by decide +kernel) (by decide +kernel) (by decide) (fun _ _ h => by rw [h.1]; rfl) (fun _ U U' hal hh h => ⟨h.1, h.2.1.mv hal hh, h.2.2.1.al hal, h.2.2.2.1.al hal, h.2.2.2.2.1.mv hal hh, h.2.2.2.2.2.1.there hal hh, h.2.2.2.2.2.2⟩) (fun r U U' V V' h1 hal h2 h => Got.mv r U U' V V' h1 hal h2 h) ?_
  intro p e s m args below meth c s₁ X0 hexec hbytes hml hret hlk hnm hown hh0 W hP
  obtain ⟨rfl, hB, f1, f2, hA, s1, hz, l0, l1, l2, hp⟩ := hP
  have a31 := hA.1.2.2.2
  have c1 : Steps p.tables e below (s₁.setTop (entryFrame m #[.ref a, .ref b, .int (Int32.ofNat o), .int (Int32.ofNat len), .null] 6)) (s₁.setTop (mkF m 0 #[.val (.ref a), .val (.ref b), .val (.int (Int32.ofNat o)), .val (.int (Int32.ofNat len)), .val .null, .unset] [])) := entry rfl
  have c2 : Steps p.tables e below (s₁.setTop (entryFrame m #[.ref a, .ref b, .int (Int32.ofNat o), .int (Int32.ofNat len), .null] 6)) (s₁.setTop (mkF m 1 #[.val (.ref a), .val (.ref b), .val (.int (Int32.ofNat o)), .val (.int (Int32.ofNat len)), .val .null, .unset] [.ref a])) := c1.trans (by
    refine XS.aloadN X0.here hexec rfl (hb hbytes d0) rfl rfl ?_
    exact Steps.refl _)
  obtain ⟨T3, X3, q3, st3⟩ := X0.oinit hexec hown (wks W (objW "java/lang/String" 1)) (g := (mkF m 1 #[.val (.ref a), .val (.ref b), .val (.int (Int32.ofNat o)), .val (.int (Int32.ofNat len)), .val .null, .unset] [.ref a])) rfl (by rw [hml]; rfl) (rest := []) rfl (hb hbytes d1) (W := 0) (by show 2 * 0 + 0 ≤ _; decide) (Nat.le_of_ble_eq_true rfl) (Nat.le_of_ble_eq_true rfl)
  have hh3 := q3.trans hh0
  have c4 : Steps p.tables e below (s₁.setTop (entryFrame m #[.ref a, .ref b, .int (Int32.ofNat o), .int (Int32.ofNat len), .null] 6)) (T3.setTop (mkF m 27 #[.val (.ref a), .val (.ref b), .val (.int (Int32.ofNat o)), .val (.int (Int32.ofNat len)), .val .null, .unset] [])) := (c2.trans (st3 _ (Steps.refl _))).trans (by
    refine XS.iloadN X3.here hexec rfl (hb hbytes d4) rfl ?_
    refine XS.ifYes X3.here hexec rfl (pc0 := 5) rfl (hb hbytes d5) rfl (i0_ne_t (nz32 (by omega) l0)) (by decide) rfl ?_
    exact Steps.refl _)
  obtain ⟨T5, X5, q5, st5⟩ := X3.sget hexec hown (wk W (.fieldLink "java/lang/String" 38 "java/lang/String" "COMPACT_STRINGS" "Z")) s1 (fun _ _ h => by rw [hh3]; exact h) (g := (mkF m 27 #[.val (.ref a), .val (.ref b), .val (.int (Int32.ofNat o)), .val (.int (Int32.ofNat len)), .val .null, .unset] [])) rfl (hb hbytes d27)
  have hh5 := q5.trans hh3
  have c6 : Steps p.tables e below (s₁.setTop (entryFrame m #[.ref a, .ref b, .int (Int32.ofNat o), .int (Int32.ofNat len), .null] 6)) (T5.setTop (mkF m 30 #[.val (.ref a), .val (.ref b), .val (.int (Int32.ofNat o)), .val (.int (Int32.ofNat len)), .val .null, .unset] [.int z])) := c4.trans (st5 _ (Steps.refl _))
  have c7 : Steps p.tables e below (s₁.setTop (entryFrame m #[.ref a, .ref b, .int (Int32.ofNat o), .int (Int32.ofNat len), .null] 6)) (T5.setTop (mkF m 36 #[.val (.ref a), .val (.ref b), .val (.int (Int32.ofNat o)), .val (.int (Int32.ofNat len)), .val .null, .unset] [.int (Int32.ofNat len), .int (Int32.ofNat o), .ref b])) := c6.trans (by
    refine XS.ifNo X5.here hexec rfl (hb hbytes d30) rfl (i0_eq_f hz) ?_
    refine XS.aloadN X5.here hexec rfl (hb hbytes d33) rfl rfl ?_
    refine XS.iloadN X5.here hexec rfl (hb hbytes d34) rfl ?_
    refine XS.iloadN X5.here hexec rfl (hb hbytes d35) rfl ?_
    exact Steps.refl _)
  obtain ⟨v8, T8, X8, E8, g8⟩ := X5.callS hexec (Cmp3.law l b A o len) hown (wks W (staticW "java/lang/String" 177 Cmp3.yN)) (wk W Cmp3.tab) (W := 0) (Nat.le_of_ble_eq_true rfl) (Nat.le_of_ble_eq_true rfl) (Nat.le_refl _) (by show 0 + len ≤ len; omega) (g := (mkF m 36 #[.val (.ref a), .val (.ref b), .val (.int (Int32.ofNat o)), .val (.int (Int32.ofNat len)), .val .null, .unset] [.int (Int32.ofNat len), .int (Int32.ofNat o), .ref b])) rfl (by rw [hml]; rfl) c7 (argsL := [.ref b, .int (Int32.ofNat o), .int (Int32.ofNat len)]) (rest := []) rfl rfl (by show 2 * 0 + 0 ≤ _; decide) (hb hbytes d36) (⟨rfl, hA.mv X5.warmed.alike hh5, l1, l2, hp⟩)
  obtain ⟨e8, z8⟩ := E8
  obtain ⟨rfl, N, n1, n2, n3, n4, n5, n6⟩ := NewArr.mv _ T5 s _ _ hh5.symm (Vm.Alike.refl _) rfl e8
  rw [hh5] at z8
  have hB1 := hB.keep X8.warmed.alike (n6 _ _ hB.1)
  have hne : s.heap.size ≠ a := (Nat.ne_of_lt (Array.getElem?_eq_some_iff.mp hB.1).1).symm
  have c9 : Steps p.tables e below (s₁.setTop (entryFrame m #[.ref a, .ref b, .int (Int32.ofNat o), .int (Int32.ofNat len), .null] 6)) (T8.setTop (mkF m 39 #[.val (.ref a), .val (.ref b), .val (.int (Int32.ofNat o)), .val (.int (Int32.ofNat len)), .val .null, .unset] [.ref s.heap.size])) := g8
  have c10 : Steps p.tables e below (s₁.setTop (entryFrame m #[.ref a, .ref b, .int (Int32.ofNat o), .int (Int32.ofNat len), .null] 6)) (T8.setTop (mkF m 45 #[.val (.ref a), .val (.ref b), .val (.int (Int32.ofNat o)), .val (.int (Int32.ofNat len)), .val .null, .val (.ref s.heap.size)] [.int (Int32.ofNat N.slots.size), .ref s.heap.size, .ref a])) := by
    have hc : Steps p.tables e below (s₁.setTop (entryFrame m #[.ref a, .ref b, .int (Int32.ofNat o), .int (Int32.ofNat len), .null] 6)) (T8.setTop (mkF m 45 #[.val (.ref a), .val (.ref b), .val (.int (Int32.ofNat o)), .val (.int (Int32.ofNat len)), .val .null, .val (.ref s.heap.size)] [.int (Int32.ofNat len), .ref s.heap.size, .ref a])) := c9.trans (by
      refine XS.astore X8.here hexec rfl (hb hbytes d39) rfl rfl rfl ?_
      refine XS.aloadN X8.here hexec rfl (hb hbytes d41) rfl rfl ?_
      refine XS.aload X8.here hexec rfl (hb hbytes d42) rfl rfl ?_
      refine XS.iloadN X8.here hexec rfl (hb hbytes d44) rfl ?_
      exact Steps.refl _)
    rw [n4]; exact hc
  obtain ⟨v11, T11, X11, E11, g11⟩ := X8.callS hexec (CodL.law l s.heap.size N) hown (wks W (staticW "java/lang/String" 47 CodL.yN)) (wk W CodL.tab) (W := 1) (Nat.le_of_ble_eq_true rfl) (Nat.le_of_ble_eq_true rfl) (Nat.le_refl _) (by show 0 + len + 0 ≤ len; omega) (g := (mkF m 45 #[.val (.ref a), .val (.ref b), .val (.int (Int32.ofNat o)), .val (.int (Int32.ofNat len)), .val .null, .val (.ref s.heap.size)] [.int (Int32.ofNat N.slots.size), .ref s.heap.size, .ref a])) rfl (by rw [hml]; rfl) c10 (argsL := [.ref s.heap.size, .int (Int32.ofNat N.slots.size)]) (rest := [.ref a]) rfl rfl (by show 2 * 0 + (1 + 0) ≤ _; decide) (hb hbytes d45) (⟨rfl, n1⟩)
  obtain ⟨rfl, q11⟩ := E11
  have hB11 := hB1.mv (X8.warmed.alike.symm.trans X11.warmed.alike) q11
  have c12 : Steps p.tables e below (s₁.setTop (entryFrame m #[.ref a, .ref b, .int (Int32.ofNat o), .int (Int32.ofNat len), .null] 6)) (T11.setTop (mkF m 48 #[.val (.ref a), .val (.ref b), .val (.int (Int32.ofNat o)), .val (.int (Int32.ofNat len)), .val .null, .val (.ref s.heap.size)] [.int 0, .ref a])) := g11
  obtain ⟨T13, X13, p13, bl13, sl13, st13⟩ := X11.finit hexec hown (wk W (.fieldLink "java/lang/String" 15 "java/lang/String" "coder" "B")) (Or.inr ⟨_, (wk W (.laysFinal "java/lang/String" "java/lang/String" "coder" "B"))⟩) (Or.inl ⟨rfl, hnm⟩) f2 (Or.inl rfl) hB11 (t := .byte) (by decide +kernel) rfl (g := (mkF m 48 #[.val (.ref a), .val (.ref b), .val (.int (Int32.ofNat o)), .val (.int (Int32.ofNat len)), .val .null, .val (.ref s.heap.size)] [.int 0, .ref a])) rfl (rest := []) rfl (hb hbytes d48)
  have c14 : Steps p.tables e below (s₁.setTop (entryFrame m #[.ref a, .ref b, .int (Int32.ofNat o), .int (Int32.ofNat len), .null] 6)) (T13.setTop (mkF m 54 #[.val (.ref a), .val (.ref b), .val (.int (Int32.ofNat o)), .val (.int (Int32.ofNat len)), .val .null, .val (.ref s.heap.size)] [.ref s.heap.size, .ref a])) := (c12.trans (st13 _ (Steps.refl _))).trans (by
    refine XS.aloadN X13.here hexec rfl (hb hbytes d51) rfl rfl ?_
    refine XS.aload X13.here hexec rfl (hb hbytes d52) rfl rfl ?_
    exact Steps.refl _)
  obtain ⟨T15, X15, p15, bl15, sl15, st15⟩ := X13.finit hexec hown (wk W (.fieldLink "java/lang/String" 9 "java/lang/String" "value" "[B")) (Or.inr ⟨_, (wk W (.laysFinal "java/lang/String" "java/lang/String" "value" "[B"))⟩) (Or.inl ⟨rfl, hnm⟩) f1 (Or.inl rfl) bl13 (t := (.array .byte)) (by decide +kernel) rfl (g := (mkF m 54 #[.val (.ref a), .val (.ref b), .val (.int (Int32.ofNat o)), .val (.int (Int32.ofNat len)), .val .null, .val (.ref s.heap.size)] [.ref s.heap.size, .ref a])) rfl (rest := []) rfl (hb hbytes d54)
  have c16 : Steps p.tables e below (s₁.setTop (entryFrame m #[.ref a, .ref b, .int (Int32.ofNat o), .int (Int32.ofNat len), .null] 6)) (T15.setTop (mkF m 57 #[.val (.ref a), .val (.ref b), .val (.int (Int32.ofNat o)), .val (.int (Int32.ofNat len)), .val .null, .val (.ref s.heap.size)] [])) := c14.trans (st15 _ (Steps.refl _))
  have ap := apart (Or.inr ⟨_, (wk W (.laysFinal "java/lang/String" "java/lang/String" "value" "[B"))⟩) (Or.inr ⟨_, (wk W (.laysFinal "java/lang/String" "java/lang/String" "coder" "B"))⟩) f1 f2 (t₁ := .array .byte) (t₂ := .byte) (by decide +kernel) (by decide +kernel) (by decide)
  have al := X8.warmed.alike.symm.trans X15.warmed.alike
  have n7 : T11.heap[s.heap.size]? = some N := by rw [q11]; exact n1.1
  exact ⟨T15, none, _, _, _, X15, by simp, rfl, by omega, (fun _ => rfl), ⟨rfl, _, N, bl15, ((Same.refl D _).set _ (by simp)).set _ (by simp), sl15, (Cell.slots_setSlot_ne _ ap).trans sl13, n1.keep al (p15.other hne (p13.other hne n7)), n2, by rw [al.findClass]; exact n3, n4, n5, fun y c h1 h2 => p15.other h1 (p13.other h1 (by rw [q11]; exact n6 y c h2)), by rw [p15.2.2, p13.2.2, q11]; exact z8⟩, fun fs hl => c16.trans (X15.returnOut hexec hret (hb hbytes d57) hl)⟩
end New4
namespace New1
def yN : MethodName := ⟨"java/lang/String", "<init>", "([C)V"⟩
abbrev yB : ByteArray := jdk_42_method_3_code
theorem d0 : decode yB 0 = .ok (.aload_n 0, 1) := by decide +kernel
theorem d1 : decode yB 1 = .ok (.aload_n 1, 1) := by decide +kernel
theorem d2 : decode yB 2 = .ok (.iconst 0, 1) := by decide +kernel
theorem d3 : decode yB 3 = .ok (.aload_n 1, 1) := by decide +kernel
theorem d4 : decode yB 4 = .ok (.arraylength, 1) := by decide +kernel
theorem d5 : decode yB 5 = .ok (.aconst_null, 1) := by decide +kernel
theorem d6 : decode yB 6 = .ok (.invokespecial 27, 3) := by decide +kernel
theorem d9 : decode yB 9 = .ok (.return_, 1) := by decide +kernel
def site : List Cond := [New4.tab] ++ initW "java/lang/String" 27 New4.yN
def tab : Cond := tabOf yN yB 2 none site
def P (a : Addr) (D : Cell) (fV fC : Field) (b : Addr) (A : Cell) (z : Int32) (args : Array Value) (s : State) : Prop := args = #[.ref a, .ref b] ∧ Blank "java/lang/String" a D s ∧ Found "java/lang/String" "value" "[B" fV s ∧ Found "java/lang/String" "coder" "B" fC s ∧ Ch b A s ∧ StaticIs s "java/lang/String" "COMPACT_STRINGS" "Z" (.int z) ∧ ¬ z = 0 ∧ 0 < A.slots.size ∧ A.slots.size ≤ 536870912 ∧ ∀ i, i < A.slots.size → ¬ 255 < cv A i
def E (a : Addr) (D : Cell) (fV fC : Field) (A : Cell) (r : Option Value) (s u : State) : Prop := Got a D fV fC A 0 A.slots.size r s u
/-- new String(chars), not empty, no char above 255: a Latin-1 String of their low bytes -/
theorem law (l : Launch) (a : Addr) (D : Cell) (fV fC : Field) (b : Addr) (A : Cell) (z : Int32) : Law l yN 2 1 3 52 yB 2 none site (P a D fV fC b A z) (E a D fV fC A) [⟨a, fC.slot⟩, ⟨a, fV.slot⟩] 1 A.slots.size := by
  refine Law.of_walk (plainFor_of_name (by decide +kernel)) (by decide +kernel) (by decide +kernel) (by decide) (fun _ _ h => by rw [h.1]; rfl) (fun _ U U' hal hh h => ⟨h.1, h.2.1.mv hal hh, h.2.2.1.al hal, h.2.2.2.1.al hal, h.2.2.2.2.1.mv hal hh, h.2.2.2.2.2.1.there hal hh, h.2.2.2.2.2.2⟩) (fun r U U' V V' h1 hal h2 h => Got.mv r U U' V V' h1 hal h2 h) ?_
  intro p e s m args below meth c s₁ X0 hexec hbytes hml hret hlk hnm hown hh0 W hP
  obtain ⟨rfl, hB, f1, f2, hA, s1, hz, l0, l2, hp⟩ := hP
  have c1 : Steps p.tables e below (s₁.setTop (entryFrame m #[.ref a, .ref b] 2)) (s₁.setTop (mkF m 0 #[.val (.ref a), .val (.ref b)] [])) := entry rfl
  have c2 : Steps p.tables e below (s₁.setTop (entryFrame m #[.ref a, .ref b] 2)) (s₁.setTop (mkF m 6 #[.val (.ref a), .val (.ref b)] [.null, .int (Int32.ofNat A.slots.size), .int 0, .ref b, .ref a])) := c1.trans (by
    refine XS.aloadN X0.here hexec rfl (hb hbytes d0) rfl rfl ?_
    refine XS.aloadN X0.here hexec rfl (hb hbytes d1) rfl rfl ?_
    refine iconstV X0.here hexec rfl 0 (hb hbytes d2) (by decide) ?_
    refine XS.aloadN X0.here hexec rfl (hb hbytes d3) rfl rfl ?_
    refine X0.alen hexec (hA.1.mv X0.warmed.alike hh0) rfl rfl (hb hbytes d4) ?_
    refine XS.aconstNull X0.here hexec rfl (hb hbytes d5) ?_
    exact Steps.refl _)
  obtain ⟨v3, T3, X3, E3, g3⟩ := X0.callN hexec (New4.law l a D fV fC b A z 0 A.slots.size) rfl hown (wks W (initW "java/lang/String" 27 New4.yN)) (W New4.tab (by simp only [site, List.mem_cons, List.mem_append, true_or, or_true])) (W := 0) (Nat.le_of_ble_eq_true rfl) (Nat.le_of_ble_eq_true rfl) (Nat.le_refl _) (by show 0 + A.slots.size ≤ A.slots.size; omega) (g := (mkF m 6 #[.val (.ref a), .val (.ref b)] [.null, .int (Int32.ofNat A.slots.size), .int (Int32.ofNat 0), .ref b, .ref a])) rfl (by rw [hml]; rfl) c2 (argsL := [.ref b, .int (Int32.ofNat 0), .int (Int32.ofNat A.slots.size), .null]) (rest := []) rfl rfl (by show 2 * 0 + 0 ≤ _; decide) (hb hbytes d6) (⟨rfl, hB.mv X0.warmed.alike hh0, f1.al X0.warmed.alike, f2.al X0.warmed.alike, hA.mv X0.warmed.alike hh0, s1.there X0.warmed.alike hh0, hz, l0, by omega, l2, fun i hi => by rw [Nat.zero_add]; exact hp i hi⟩)
  have e0 := Got.mv _ s₁ s _ _ hh0.symm (Vm.Alike.refl _) rfl E3
  obtain rfl := e0.1
  have c4 : Steps p.tables e below (s₁.setTop (entryFrame m #[.ref a, .ref b] 2)) (T3.setTop (mkF m 9 #[.val (.ref a), .val (.ref b)] [])) := g3
  exact ⟨T3, none, _, _, _, X3, by simp, rfl, by omega, (fun _ => rfl), e0, fun fs hl => c4.trans (X3.returnOut hexec hret (hb hbytes d9) hl)⟩
theorem pays {l : Launch} {R : Room} {p : Program} {e : Env} {below : List Frame} {s : State} {sargs : Array Value} {len W : Nat} (a : Addr) (D : Cell) (fV fC : Field) (b : Addr) (A : Cell) (z : Int32) (htab : tab.before sargs s = true) (hfr : 4 ≤ R.frames) (hlo : W + 65 ≤ R.locals) :
    Back l R p e below s sargs yN len W (fun A₁ a₁ => A₁.cells + 1 ≤ R.cells ∧ A₁.slots + A.slots.size ≤ R.slots ∧ P a D fV fC b A z a₁ A₁.U) (fun A₁ _ v₁ B₁ => E a D fV fC A v₁ A₁.U B₁.U ∧ B₁.locs = A₁.locs ++ [⟨a, fC.slot⟩, ⟨a, fV.slot⟩] ∧ B₁.cells = A₁.cells + 1 ∧ B₁.slots = A₁.slots + A.slots.size) :=
  (law l a D fV fC b A z).pays htab hfr (by omega)
end New1
/-- the byte, read back as charAt reads it, is the char -/
theorem lo8_mask {x : Int32} (h0 : ¬ x < 0) (h1 : ¬ 255 < x) : lo8 x &&& 255 = x := by
  have t : ∀ k : Fin 256, lo8 (Int32.ofNat k.val) &&& 255 = Int32.ofNat k.val := by decide +kernel
  rw [Int32.lt_iff_toInt_lt] at h0 h1
  have e0 : (0 : Int32).toInt = 0 := rfl
  have e1 : (255 : Int32).toInt = 255 := rfl
  obtain ⟨k, hk⟩ : ∃ k : Nat, x.toInt = k := ⟨x.toInt.toNat, by omega⟩
  have hx : x = Int32.ofNat k := Int32.toInt_inj.mp (by rw [hk, Int32.toInt_ofNat_small (by omega)])
  rw [hx]
  exact t ⟨k, by omega⟩
end StrChars
namespace StrChars.Road
open Jvm Sem ClassFile Op Lib Jvm.Stand Jvm.Free Jvm.Free.XT
open Jvm.Lib.Cold (StaticIs)
abbrev ST : String := "java/lang/String"
/-- every table word that New1's law asks, flat -/
abbrev words : List Jvm.Cond := [.code New1.yN New1.yB 2 none, .initialized ST, .methodLink ST 27 New4.yN, .instanceMethod New4.yN,
  .code New4.yN New4.yB 6 none, .fieldLink ST 38 ST "COMPACT_STRINGS" "Z", .laysFinal ST ST "value" "[B", .fieldLink ST 9 ST "value" "[B", .laysFinal ST ST "coder" "B", .fieldLink ST 15 ST "coder" "B",
  .methodLink ST 1 Lib.objectInit, .instanceMethod Lib.objectInit, .code Lib.objectInit ⟨#[0xb1]⟩ 1 none, .methodLink ST 177 Cmp3.yN, .static Cmp3.yN, .methodLink ST 47 CodL.yN, .static CodL.yN,
  .code Cmp3.yN Cmp3.yB 6 (some (.array .byte)), .initialized U16, .arrayClass .byte, .methodLink U16 115 Cmp5.yN, .static Cmp5.yN, .code Cmp5.yN Cmp5.yB 7 (some .int), .code CodL.yN CodL.yB 2 (some .byte)]
theorem tab_of {a : Array Value} {s : State} (h : ∀ w ∈ words, w.before a s = true) : New1.tab.before a s = true := by
  have h5 : Cmp5.tab.before a s = true := unparts (wk h (.code Cmp5.yN Cmp5.yB 7 (some .int))) (wks h (.initialized Cmp5.yN.cls :: Cmp5.site))
  have hc : CodL.tab.before a s = true := unparts (wk h (.code CodL.yN CodL.yB 2 (some .byte))) (wks h (.initialized CodL.yN.cls :: CodL.site))
  have q5 : ∀ w ∈ Cmp5.tab :: words, w.before a s = true := fun w hw => (List.mem_cons.mp hw).elim (fun e => e ▸ h5) (h w)
  have h3 : Cmp3.tab.before a s = true := unparts (wk q5 (.code Cmp3.yN Cmp3.yB 6 (some (.array .byte)))) (wks q5 (.initialized Cmp3.yN.cls :: Cmp3.site))
  have q3 : ∀ w ∈ Cmp3.tab :: CodL.tab :: words, w.before a s = true := fun w hw => (List.mem_cons.mp hw).elim (fun e => e ▸ h3) fun hw => (List.mem_cons.mp hw).elim (fun e => e ▸ hc) (h w)
  have h4 : New4.tab.before a s = true := unparts (wk q3 (.code New4.yN New4.yB 6 none)) (wks q3 (.initialized New4.yN.cls :: New4.site))
  have q4 : ∀ w ∈ New4.tab :: words, w.before a s = true := fun w hw => (List.mem_cons.mp hw).elim (fun e => e ▸ h4) (h w)
  exact unparts (wk q4 (.code New1.yN New1.yB 2 none)) (wks q4 (.initialized New1.yN.cls :: New1.site))
/-- the words ride from the start Z to the walk's own state -/
theorem moved {Z s : State} {a0 args : Array Value} (hZ : Z.Warmed39 s.vm) (hw : ∀ d ∈ words, d.before a0 Z = true) : ∀ d ∈ words, d.before args s = true := fun d hd => by
  have q := hw d hd
  have t : ∀ d ∈ words, d = .arrayClass .byte ∨ (d.onTables && d.keepsFace) = true := by decide +kernel
  rcases t d hd with rfl | t
  · exact RoadKit.mvA hZ q
  · exact RoadKit.mv hZ q t
/-- WHAT COMES BACK, over the tables of the start Z: h the heap at the call, h' behind it -/
def Q (Z : State) (x : Addr) (A : Cell) (h : Heap) (v : Option Value) (h' : Heap) (L : List Loc) : Prop := v = none ∧ (∀ y ∈ L, y.base = x) ∧ RoadKit.Keep h h' [x] ∧ h'.size = h.size + 1 ∧ RoadKit.Exa Z h' x ST ∧ RoadKit.Fld Z h' x ST "value" "[B" (.ref h.size) ∧ RoadKit.Fld Z h' x ST "coder" "B" (.int 0) ∧
  (∃ V : Cell, RoadKit.Arr Z h' h.size V .byte ∧ V.vm = .none ∧ Z.vm.findClass "[B" = some V.cls ∧ V.slots.size = A.slots.size ∧ ∀ j, j < A.slots.size → V.slots[j]? = some (.int (lo8 (cv A j)))) ∧
  ∀ (O n d : String) (w : Value), RoadKit.Fld Z h x O n d w → RoadKit.slotOf Z O n d ≠ RoadKit.slotOf Z ST "value" "[B" → RoadKit.slotOf Z O n d ≠ RoadKit.slotOf Z ST "coder" "B" → RoadKit.Fld Z h' x O n d w
/-- **new String(chars) AT A CALL, IN THE ROAD'S FORM**: for specialBack behind newO: x the fresh String, b the char[] with the cell A -/
theorem back {p : Program} {l : Launch} {e : Env} {R : Room} {s : State} {args : Array Value} {below : List Frame} {len W : Nat} {Z : State} {a0 : Array Value} {h : Heap} (hZ : Z.Warmed39 s.vm) (hw : ∀ d ∈ words, d.before a0 Z = true) {kI : Nat} (wi : (Jvm.Cond.instantiable ST kI).before a0 Z = true)
    {x b : Addr} {A : Cell} {z : Int32} {v0 c0 : Value} (E : RoadKit.Exa Z h x ST) (V : RoadKit.Fld Z h x ST "value" "[B" v0) (C : RoadKit.Fld Z h x ST "coder" "B" c0) (K : RoadKit.Arr Z h b A .char) (hty : Typed .char A) (S : RoadKit.Sta Z h ST "COMPACT_STRINGS" "Z" (.int z)) (hz : ¬ z = 0)
    (l0 : 0 < A.slots.size) (l2 : A.slots.size ≤ 536870912) (hp : ∀ i, i < A.slots.size → ¬ 255 < cv A i) (hfr : 4 ≤ R.frames) (hlo : W + 65 ≤ R.locals) :
    Back l R p e below s args New1.yN len W (fun P a => a = #[.ref x, .ref b] ∧ P.U.heap = h ∧ P.cells + 1 ≤ R.cells ∧ P.slots + A.slots.size ≤ R.slots)
      (fun P _ v B => ∃ L, Q Z x A h v B.U.heap L ∧ B.locs = P.locs ++ L ∧ B.cells = P.cells + 1 ∧ B.slots = P.slots + A.slots.size) := by
  intro m meth c P g ig mk a X hg hsize hdg hW hn hp'
  obtain ⟨rfl, rfl, r1, r2⟩ := hp'
  have al : Z.vm.Alike P.U.vm := hZ.alike.trans X.warmed.alike
  obtain ⟨D, cfV, kV, iV, fV, hD, gV, stV, knV, obV, asV, slV⟩ := id V
  obtain ⟨D', cfC, kC, iC, fC, hD', gC, stC, -, -, asC, slC⟩ := id C
  cases hD.symm.trans hD'
  obtain ⟨D2, kD, e1, e2, e3, e4, e5⟩ := id E
  cases hD.symm.trans e1
  obtain ⟨c2, k2, i1, i2, i3, -⟩ := Cond.instantiable_spec wi
  cases e2.symm.trans i1
  cases e3.symm.trans i2
  obtain ⟨kU, u1, u2⟩ := al.2.2 _ _ e3
  have hB : Blank ST x D P.U := ⟨hD, ⟨knV, fun q hq => by rw [hq] at obV; cases obV⟩, by rw [al.findClass]; exact e2, kU, u1, by rw [u2]; exact i3, by rw [u2]; exact e5 i3⟩
  have F1 : Found ST "value" "[B" fV P.U := ⟨SBG.found_only al ⟨cfV, kV, iV, gV⟩, stV⟩
  have F2 : Found ST "coder" "B" fC P.U := ⟨SBG.found_only al ⟨cfC, kC, iC, gC⟩, stC⟩
  have hA : Ch b A P.U := ⟨⟨K.1, State.isArrayOf_alike al K.2.1, K.2.2, by omega⟩, hty⟩
  have hS : StaticIs P.U ST "COMPACT_STRINGS" "Z" (.int z) := by
    obtain ⟨cfS, iS, kS, fS, st, cS, t1, t2, t3, t4, t5, t6, t7⟩ := S
    exact StaticIs.there (s := { Z with heap := P.U.heap }) ⟨cfS, iS, kS, fS, st, cS, t1, t2, t3, t4, t5, (fun q => by rw [q] at t6; cases t6), t7⟩ al rfl
  obtain ⟨v, B, X', ⟨⟨hv, E', V', q1, q2, q3, q4, q5, q6, q7, q8, q9, q10, q11⟩, hl, hc, hs⟩, st⟩ := New1.pays x D fV fC b A z (tab_of (moved hZ hw)) hfr hlo m meth c P g ig mk _ X hg hsize hdg hW hn ⟨r1, r2, rfl, hB, F1, F2, hA, hS, hz, l0, l2, hp⟩
  have al' : Z.vm.Alike B.U.vm := hZ.alike.trans X'.warmed.alike
  have hsz : E'.slots.size = D.slots.size := by
    obtain ⟨-, -, -, kB, w1, w2, w3⟩ := q1
    obtain ⟨kB', y1, y2⟩ := al'.2.2 _ _ e3
    rw [q2.2.1] at w1
    cases w1.symm.trans y1
    rw [w3, e5 i3, y2]
  refine ⟨v, B, X', ⟨_, ⟨hv, ?_, ⟨by omega, fun y cy hy hn' => q10 y cy (by simpa using hn') hy, fun y cy hy => ?_⟩, q11, ⟨E', _, q1.1, by rw [q2.2.1]; exact e2, by rw [q2.2.1]; exact e3, by rw [q2.1]; exact obV, fun _ => by rw [hsz]; exact e5 i3⟩,
    ⟨E', cfV, kV, iV, fV, q1.1, gV, stV, by rw [q2.1]; exact knV, by rw [q2.1]; exact obV, by rw [q2.2.1]; exact asV, q3⟩, ⟨E', cfC, kC, iC, fC, q1.1, gC, stC, by rw [q2.1]; exact knV, by rw [q2.1]; exact obV, by rw [q2.2.1]; exact asC, q4⟩,
    ⟨V', ⟨q5.1, State.isArrayOf_alike al'.symm q5.2.1, q5.2.2.1⟩, q6, by rw [← al'.findClass]; exact q7, q8, fun j hj => by have := q9 j hj; rwa [Nat.zero_add] at this⟩, fun O n d w F n1 n2 => ?_⟩, hl, hc, hs⟩, st⟩
  · intro y hy
    simp only [List.mem_cons, List.not_mem_nil, or_false] at hy
    rcases hy with rfl | rfl <;> rfl
  · by_cases q : y = x
    · subst q
      cases hD.symm.trans hy
      exact ⟨E', q1.1, q2.2.1, q2.1, hsz⟩
    · exact ⟨cy, q10 y cy q hy, rfl, rfl, rfl⟩
  · obtain ⟨D3, cf, k, i, f, g1, g2, g3, g4, g5, g6, g7⟩ := F
    cases hD.symm.trans g1
    simp only [RoadKit.slotOf, g2, gV, gC, Option.map_some, Option.getD_some] at n1 n2
    exact ⟨E', cf, k, i, f, q1.1, g2, g3, by rw [q2.1]; exact g4, by rw [q2.1]; exact g5, by rw [q2.2.1]; exact g6, by rw [q2.2.2 f.slot (by simp [n1, n2])]; exact g7⟩
end StrChars.Road
namespace StrChars.Road
open Jvm Sem ClassFile Op Lib Jvm.Stand Jvm.Free Jvm.Free.XT
/-- WHAT COMES BACK, the byte[] as a list of values -/
def QA (Z : State) (x : Addr) (zn : Int32) (cs : List Int32) (h : Heap) (v : Option Value) (h' : Heap) (L : List Loc) : Prop := v = none ∧ (∀ y ∈ L, y.base = x) ∧ RoadKit.Keep h h' [x] ∧ h'.size = h.size + 1 ∧ RoadKit.Exa Z h' x ST ∧ RoadKit.Fld Z h' x ST "value" "[B" (.ref h.size) ∧ RoadKit.Fld Z h' x ST "coder" "B" (.int 0) ∧
  (∃ kb, Z.vm.findClass "[B" = some kb ∧ RoadKit.Arv Z h' h.size kb .byte zn (cs.map fun c => .int (lo8 c)) (.int 0)) ∧
  ∀ (O n d : String) (w : Value), RoadKit.Fld Z h x O n d w → RoadKit.slotOf Z O n d ≠ RoadKit.slotOf Z ST "value" "[B" → RoadKit.slotOf Z O n d ≠ RoadKit.slotOf Z ST "coder" "B" → RoadKit.Fld Z h' x O n d w
/-- **new String(chars) AT A CALL, THE ARRAYS AS LISTS**: the char[] at b holds cs, not empty, no char above 255 -/
theorem backArv {p : Program} {l : Launch} {e : Env} {R : Room} {s : State} {args : Array Value} {below : List Frame} {len W : Nat} {Z : State} {a0 : Array Value} {h : Heap} (hZ : Z.Warmed39 s.vm) (hw : ∀ d ∈ words, d.before a0 Z = true) {kI : Nat} (wi : (Jvm.Cond.instantiable ST kI).before a0 Z = true)
    {x b : Addr} {k : ClassId} {zn z : Int32} {cs : List Int32} {dv v0 c0 : Value} (E : RoadKit.Exa Z h x ST) (V : RoadKit.Fld Z h x ST "value" "[B" v0) (C : RoadKit.Fld Z h x ST "coder" "B" c0) (K : RoadKit.Arv Z h b k .char zn (cs.map Value.int) dv) (S : RoadKit.Sta Z h ST "COMPACT_STRINGS" "Z" (.int z)) (hz : ¬ z = 0)
    (hlen : zn.toNatClampNeg = cs.length) (h0 : 0 < cs.length) (hbig : cs.length ≤ 536870912) (hall : ∀ c ∈ cs, ¬ 255 < c) (hfr : 4 ≤ R.frames) (hlo : W + 65 ≤ R.locals) :
    Back l R p e below s args New1.yN len W (fun P a => a = #[.ref x, .ref b] ∧ P.U.heap = h ∧ P.cells + 1 ≤ R.cells ∧ P.slots + cs.length ≤ R.slots)
      (fun P _ v B => ∃ L, QA Z x zn cs h v B.U.heap L ∧ B.locs = P.locs ++ L ∧ B.cells = P.cells + 1 ∧ B.slots = P.slots + cs.length) := by
  obtain ⟨A, K1, K2, K3, K4, K5, K6⟩ := K
  have e : A.slots.size = cs.length := K3.trans hlen
  have hat : ∀ (i : Nat) (hi : i < cs.length), A.slots[i]? = some (.int cs[i]) := fun i hi => by rw [K5 i (by omega)]; simp [List.getD_eq_getElem?_getD, hi]
  have hcv : ∀ (i : Nat) (hi : i < cs.length), cv A i = cs[i] := fun i hi => by unfold cv; rw [hat i hi]
  have hty : Typed .char A := fun i v hv => by
    have hi : i < A.slots.size := (Array.getElem?_eq_some_iff.mp hv).1
    have q := K5 i hi
    rw [hv] at q
    rw [Option.some.inj q]
    exact K6 i hi
  refine Back.mono (back hZ hw wi E V C K1 hty S hz (by omega) (by omega) (fun i hi => by rw [hcv i (by omega)]; exact hall _ (List.getElem_mem _)) hfr hlo) (fun P a hp => ⟨hp.1, hp.2.1, hp.2.2.1, by rw [e]; exact hp.2.2.2⟩) (fun P a v B hp hq => ?_)
  obtain ⟨L, ⟨q1, q2, q3, q4, q5, q6, q7, ⟨V', v1, v2, v3, v4, v5⟩, q9⟩, hl, hc, hs⟩ := hq
  refine ⟨L, ⟨q1, q2, q3, q4, q5, q6, q7, ⟨V'.cls, v3, V', v1, rfl, by rw [v4, e, hlen], K4, fun i hi => ?_, fun i hi => ?_⟩, q9⟩, hl, hc, by rw [hs, e]⟩
  · have hi' : i < cs.length := by omega
    rw [v5 i (by omega), hcv i hi']; simp [List.getD_eq_getElem?_getD, hi']
  · have hi' : i < cs.length := by omega
    simp only [List.getD_eq_getElem?_getD, List.getElem?_map, List.getElem?_eq_getElem hi', Option.map_some, Option.getD_some]
    exact fits_lo8 _
end StrChars.Road
namespace StrChars.Road
open Jvm Sem ClassFile Op Lib Jvm.Stand Jvm.Free Jvm.Free.XT
/-- WHAT COMES BACK, in the writer's own shape -/
def QV (Z : State) (x : Addr) (N : Int32) (bs : List Int32) (h : Heap) (n0 : Nat) (v : Option Value) (h' : Heap) (L : List Loc) : Prop := v = none ∧ RoadKit.Fr n0 L ∧ RoadKit.Keep h h' [x] ∧ RoadKit.Exa Z h' x ST ∧ RoadKit.Fld Z h' x ST "coder" "B" (.int 0) ∧
  ∃ (t : Addr) (kb : ClassId), n0 ≤ t ∧ h.size ≤ t ∧ ¬ t = x ∧ RoadKit.Fld Z h' x ST "value" "[B" (.ref t) ∧ RoadKit.Arv Z h' t kb .byte N (bs.map Value.int) (.int 0)
/-- **new String(chars) AT A CALL, FOR THE WRITER**: a char[] of n known ints, each 0 to 255 -/
theorem backV {p : Program} {l : Launch} {e : Env} {R : Room} {s : State} {args : Array Value} {below : List Frame} {len W : Nat} {Z : State} {a0 : Array Value} {h : Heap} (hZ : Z.Warmed39 s.vm) (hw : ∀ d ∈ words, d.before a0 Z = true) {kI : Nat} (wi : (Jvm.Cond.instantiable ST kI).before a0 Z = true)
    {x b : Addr} {kC : ClassId} {cs bs : List Int32} {d v0 c0 : Value} {z N : Int32} {n n0 : Nat} (hx0 : n0 ≤ x) (hh0 : n0 ≤ h.size) (E : RoadKit.Exa Z h x ST) (V : RoadKit.Fld Z h x ST "value" "[B" v0) (C : RoadKit.Fld Z h x ST "coder" "B" c0) (K : RoadKit.Arv Z h b kC .char N (cs.map Value.int) d) (S : RoadKit.Sta Z h ST "COMPACT_STRINGS" "Z" (.int z)) (hz : ¬ z = 0)
    (hn : cs.length = n) (hN : N = Int32.ofNat n) (l0 : 0 < n) (l2 : n ≤ 4000) (hp : ∀ c ∈ cs, ¬ c < 0 ∧ ¬ (255 : Int32) < c) (hb : bs = cs.map (fun c => c.toInt8.toInt32)) (hfr : 4 ≤ R.frames) (hlo : W + 65 ≤ R.locals) :
    Back l R p e below s args (⟨"java/lang/String", "<init>", "([C)V"⟩ : MethodName) len W (fun P a => a = #[.ref x, .ref b] ∧ P.U.heap = h ∧ P.cells + 1 ≤ R.cells ∧ P.slots + n ≤ R.slots)
      (fun P _ v B => ∃ L, QV Z x N bs h n0 v B.U.heap L ∧ B.locs = P.locs ++ L ∧ B.cells = P.cells + 1 ∧ B.slots = P.slots + n) := by
  subst hn hN hb
  refine Back.mono (backArv hZ hw wi E V C K S hz (n32 (by omega)) l0 (by omega) (fun c hc => (hp c hc).2) hfr hlo) (fun P a hp => hp) (fun P a v B hp hq => ?_)
  obtain ⟨L, ⟨q1, q2, q3, q4, q5, q6, q7, ⟨kb, v1, v2⟩, q9⟩, hl, hc, hs⟩ := hq
  exact ⟨L, ⟨q1, fun y hy => by rw [q2 y hy]; exact hx0, q3, q5, q7, h.size, kb, hh0, Nat.le_refl _, Nat.ne_of_gt E.lt, q6, by rw [List.map_map]; exact v2⟩, hl, hc, hs⟩
end StrChars.Road
namespace StrChars
open Jvm Sem ClassFile Op Lib Jvm.Stand Jvm.Free.XT Jvm.Free.ALB Jvm.Free.JM Jvm.Free
open Jvm.Lib.Cold (StaticIs)
def hi8 (x : Int32) : Int32 := lo8 (x >>> ((8 : Int32) &&& 31))
/-- what StringUTF16.getChar makes of two bytes -/
def pairCh (u v : Int32) : Int32 := (((u &&& 255) <<< ((0 : Int32) &&& 31)) ||| ((v &&& 255) <<< ((8 : Int32) &&& 31))).toUInt32.toUInt16.toUInt32.toInt32
theorem shr0 (c : Int32) : c >>> ((0 : Int32) &&& 31) = c := by
  have e : ((0 : Int32) &&& 31) = 0 := by decide
  rw [e]
  apply Int32.toBitVec_inj.mp
  rw [Int32.toBitVec_shiftRight]
  have e1 : ((0 : Int32).toBitVec.smod 32) = 0#32 := by decide
  rw [e1, BitVec.sshiftRight_eq']
  exact BitVec.sshiftRight_zero
theorem lo8_and (x : Int32) : (lo8 x &&& 255).toBitVec.toNat = x.toBitVec.toNat % 256 := by
  have h : (lo8 x).toBitVec = (x.toBitVec.signExtend 8).signExtend 32 := by rw [lo8, Int8.toBitVec_toInt32, Int32.toBitVec_toInt8]
  rw [Int32.toBitVec_and, BitVec.toNat_and, h]
  have e : ((x.toBitVec.signExtend 8).signExtend 32).toNat % 256 = x.toBitVec.toNat % 256 := by
    rw [BitVec.toNat_signExtend]
    have hlt := x.toBitVec.isLt
    simp only [BitVec.toNat_setWidth, BitVec.toNat_signExtend]
    split <;> split <;> omega
  rw [← e]
  exact Nat.and_two_pow_sub_one_eq_mod _ 8
theorem pair_says {c : Int32} (h0 : ¬ c < 0) (h1 : ¬ 65535 < c) : pairCh (lo8 c) (hi8 c) = c := by
  rw [Int32.lt_iff_toInt_lt] at h0 h1
  have e0 : (0 : Int32).toInt = 0 := rfl
  have e1 : (65535 : Int32).toInt = 65535 := rfl
  have hc : c.toInt = c.toBitVec.toNat := by
    have := c.toBitVec.isLt
    have e : c.toInt = c.toBitVec.toInt := rfl
    rw [e] at h0 h1
    rw [e]
    rw [BitVec.toInt_eq_toNat_cond] at h0 h1 ⊢
    split at h0 <;> split <;> omega
  have hn : c.toBitVec.toNat < 65536 := by omega
  have a1 := lo8_and c
  have a2 : (hi8 c &&& 255).toBitVec.toNat = c.toBitVec.toNat / 256 := by
    rw [hi8, lo8_and]
    have e : ((8 : Int32) &&& 31) = 8 := by decide
    rw [e, Int32.toBitVec_shiftRight]
    have e2 : ((8 : Int32).toBitVec.smod 32) = 8#32 := by decide
    rw [e2, BitVec.sshiftRight_eq', BitVec.toNat_sshiftRight_of_msb_false (by rw [BitVec.msb_eq_false_iff_two_mul_lt]; omega)]
    show c.toBitVec.toNat >>> 8 % 256 = _
    rw [Nat.shiftRight_eq_div_pow]
    omega
  unfold pairCh
  apply Int32.toBitVec_inj.mp
  apply BitVec.eq_of_toNat_eq
  have f0 : ((0 : Int32) &&& 31) = 0 := by decide
  have f8 : ((8 : Int32) &&& 31) = 8 := by decide
  rw [f0, f8]
  have g : (((lo8 c &&& 255) <<< (0 : Int32)) ||| ((hi8 c &&& 255) <<< (8 : Int32))).toBitVec.toNat = c.toBitVec.toNat := by
    rw [Int32.toBitVec_or, Int32.toBitVec_shiftLeft, Int32.toBitVec_shiftLeft]
    have s0 : ((0 : Int32).toBitVec.smod 32) = 0#32 := by decide
    have s8 : ((8 : Int32).toBitVec.smod 32) = 8#32 := by decide
    rw [s0, s8, BitVec.toNat_or]
    simp only [BitVec.shiftLeft_eq', BitVec.toNat_shiftLeft, a1, a2]
    show (c.toBitVec.toNat % 256) <<< 0 % 2 ^ 32 ||| (c.toBitVec.toNat / 256) <<< 8 % 2 ^ 32 = _
    rw [Nat.shiftLeft_zero, Nat.mod_eq_of_lt (show c.toBitVec.toNat % 256 < 2 ^ 32 by omega), Nat.mod_eq_of_lt (show (c.toBitVec.toNat / 256) <<< 8 < 2 ^ 32 by rw [Nat.shiftLeft_eq]; omega), Nat.or_comm, ← Nat.shiftLeft_add_eq_or_of_lt (by omega), Nat.shiftLeft_eq]
    omega
  show BitVec.toNat (((((lo8 c &&& 255) <<< (0 : Int32)) ||| ((hi8 c &&& 255) <<< (8 : Int32))).toBitVec.setWidth 16).setWidth 32) = _
  rw [BitVec.toNat_setWidth, BitVec.toNat_setWidth, g]
  omega
end StrChars
namespace StrChars
open Jvm Sem ClassFile Op Lib Jvm.Stand Jvm.Free.XT Jvm.Free.ALB Jvm.Free.JM Jvm.Free
open Jvm.Lib.Cold (StaticIs)
theorem shr1 {n : Nat} (h : 2 * n < 2 ^ 31) : Int32.ofNat (2 * n) >>> ((1 : Int32) &&& 31) = Int32.ofNat n := by
  have e : ((1 : Int32) &&& 31) = 1 := by decide
  rw [e]
  apply Int32.toBitVec_inj.mp
  rw [Int32.toBitVec_shiftRight]
  have e1 : ((1 : Int32).toBitVec.smod 32) = 1#32 := by decide
  have hm : (BitVec.ofNat 32 (2 * n)).toNat = 2 * n := by rw [BitVec.toNat_ofNat, Nat.mod_eq_of_lt (by omega)]
  rw [e1, BitVec.sshiftRight_eq']
  apply BitVec.eq_of_toNat_eq
  show ((BitVec.ofNat 32 (2 * n)).sshiftRight 1).toNat = (BitVec.ofNat 32 n).toNat
  rw [BitVec.toNat_sshiftRight_of_msb_false (by rw [BitVec.msb_eq_false_iff_two_mul_lt, hm]; omega), hm, BitVec.toNat_ofNat, Nat.shiftRight_eq_div_pow]
  omega
/-- charAt's cast of a byte read back -/
def chr8 (u : Int32) : Int32 := (u &&& 255).toUInt32.toUInt16.toUInt32.toInt32
theorem chr8_lo8 {c : Int32} (h0 : ¬ c < 0) (h1 : ¬ 255 < c) : chr8 (lo8 c) = c := by
  have t : ∀ k : Fin 256, (Int32.ofNat k.val).toUInt32.toUInt16.toUInt32.toInt32 = Int32.ofNat k.val := by decide +kernel
  unfold chr8
  rw [lo8_mask h0 h1]
  rw [Int32.lt_iff_toInt_lt] at h0 h1
  have e0 : (0 : Int32).toInt = 0 := rfl
  have e1 : (255 : Int32).toInt = 255 := rfl
  obtain ⟨k, hk⟩ : ∃ k : Nat, c.toInt = k := ⟨c.toInt.toNat, by omega⟩
  have hx : c = Int32.ofNat k := Int32.toInt_inj.mp (by rw [hk, Int32.toInt_ofNat_small (by omega)])
  rw [hx]
  exact t ⟨k, by omega⟩
theorem narrow_ch {c : Int32} (h0 : ¬ c < 0) (h1 : ¬ 65535 < c) : narrow .char (.int c) = .int c := by
  have q : narrow .char (.int (pairCh (lo8 c) (hi8 c))) = .int (pairCh (lo8 c) (hi8 c)) := narrow_c _
  rwa [pair_says h0 h1] at q
/-- the array's cell V codes the n chars f 0 .. f (n - 1) by the coder cd, as the JDK does: coder 1 just where some char is above 255 -/
def Cod (cd : Int32) (n : Nat) (f : Nat → Int32) (V : Cell) : Prop := (cd = 0 ∧ V.slots.size = n ∧ ∀ j, j < n → V.slots[j]? = some (.int (lo8 (f j))) ∧ ¬ 255 < f j) ∨ (cd = 1 ∧ V.slots.size = 2 * n ∧ (∀ j, j < n → V.slots[2 * j]? = some (.int (lo8 (f j))) ∧ V.slots[2 * j + 1]? = some (.int (hi8 (f j)))) ∧ ∃ j, j < n ∧ 255 < f j)
theorem Cod.cd {cd : Int32} {n : Nat} {f : Nat → Int32} {V : Cell} (h : Cod cd n f V) : cd = 0 ∨ cd = 1 := h.imp (fun q => q.1) fun q => q.1
theorem Cod.len {cd : Int32} {n : Nat} {f : Nat → Int32} {V : Cell} (h : Cod cd n f V) (hs : V.slots.size < 2 ^ 31) : Int32.ofNat V.slots.size >>> (cd &&& 31) = Int32.ofNat n := by
  rcases h with ⟨rfl, h, -⟩ | ⟨rfl, h, -⟩
  · rw [shr0, h]
  · rw [h, shr1 (by omega)]
/-- **x is a String of the n chars f 0 .. f (n - 1)**, Latin-1 or UTF-16; its array at t has the cell V -/
def Txt (x t : Addr) (V : Cell) (cd : Int32) (n : Nat) (f : Nat → Int32) (U : State) : Prop := Exact "java/lang/String" x U ∧ Has x "java/lang/String" "value" "[B" (.ref t) U ∧ Has x "java/lang/String" "coder" "B" (.int cd) U ∧ XT.Arr .byte t V U ∧ Cod cd n f V ∧ ∀ j, j < n → ¬ f j < 0 ∧ ¬ 65535 < f j
theorem Txt.mv {x t : Addr} {V : Cell} {cd : Int32} {n : Nat} {f : Nat → Int32} {U U' : State} (h : Txt x t V cd n f U) (hal : U.vm.Alike U'.vm) (hh : U'.heap = U.heap) : Txt x t V cd n f U' := ⟨h.1.mv hal hh, h.2.1.mv hal hh, h.2.2.1.mv hal hh, h.2.2.2.1.mv hal hh, h.2.2.2.2⟩
namespace Cdr
def yN : MethodName := ⟨"java/lang/String", "coder", "()B"⟩
abbrev yB : ByteArray := jdk_42_method_152_code
theorem d0 : decode yB 0 = .ok (.getstatic 38, 3) := by decide +kernel
theorem d3 : decode yB 3 = .ok (.ifCond (.eq) 10, 3) := by decide +kernel
theorem d6 : decode yB 6 = .ok (.aload_n 0, 1) := by decide +kernel
theorem d7 : decode yB 7 = .ok (.getfield 15, 3) := by decide +kernel
theorem d10 : decode yB 10 = .ok (.goto 4, 3) := by decide +kernel
theorem d14 : decode yB 14 = .ok (.ireturn, 1) := by decide +kernel
def site : List Cond := [.fieldLink "java/lang/String" 38 "java/lang/String" "COMPACT_STRINGS" "Z", .fieldLink "java/lang/String" 15 "java/lang/String" "coder" "B"]
def tab : Cond := tabOf yN yB 1 (some .byte) site
def P (x : Addr) (cd z : Int32) (args : Array Value) (s : State) : Prop := args = #[.ref x] ∧ Has x "java/lang/String" "coder" "B" (.int cd) s ∧ (cd = 0 ∨ cd = 1) ∧ StaticIs s "java/lang/String" "COMPACT_STRINGS" "Z" (.int z) ∧ ¬ z = 0
def E (cd : Int32) (r : Option Value) (s u : State) : Prop := XT.PureE (some (.int cd)) r s u
theorem law (l : Launch) (x : Addr) (cd z : Int32) : Law l yN 1 0 0 0 yB 1 (some .byte) site (P x cd z) (E cd) [] 0 0 := by
  refine Law.of_walk (plainFor_of_name (by decide +kernel)) (by decide +kernel) (by decide +kernel) (by decide) (fun _ _ h => by rw [h.1]; rfl) (fun _ U U' hal hh h => ⟨h.1, h.2.1.mv hal hh, h.2.2.1, h.2.2.2.1.there hal hh, h.2.2.2.2⟩) (fun r U U' V V' h1 hal h2 h => XT.PureE.mv r U U' V V' h1 hal h2 h) ?_
  intro p e s m args below meth c s₁ X0 hexec hbytes hml hret hlk hnm hown hh0 W hP
  obtain ⟨rfl, hx, hc, s1, hz⟩ := hP
  have c1 : Steps p.tables e below (s₁.setTop (entryFrame m #[.ref x] 1)) (s₁.setTop (mkF m 0 #[.val (.ref x)] [])) := entry rfl
  obtain ⟨T2, X2, q2, st2⟩ := X0.sget hexec hown (wk W (.fieldLink "java/lang/String" 38 "java/lang/String" "COMPACT_STRINGS" "Z")) s1 (fun _ _ h => by rw [hh0]; exact h) (g := (mkF m 0 #[.val (.ref x)] [])) rfl (hb hbytes d0)
  have hh2 := q2.trans hh0
  have c3 : Steps p.tables e below (s₁.setTop (entryFrame m #[.ref x] 1)) (T2.setTop (mkF m 7 #[.val (.ref x)] [.ref x])) := (c1.trans (st2 _ (Steps.refl _))).trans (by
    refine XS.ifNo X2.here hexec rfl (hb hbytes d3) rfl (i0_eq_f hz) ?_
    refine XS.aloadN X2.here hexec rfl (hb hbytes d6) rfl rfl ?_
    exact Steps.refl _)
  obtain ⟨T4, X4, q4, st4⟩ := X2.hget hexec hown (wk W (.fieldLink "java/lang/String" 15 "java/lang/String" "coder" "B")) (hx.mv X2.warmed.alike hh2) (g := (mkF m 7 #[.val (.ref x)] [.ref x])) rfl (rest := []) rfl (hb hbytes d7)
  have c5 : Steps p.tables e below (s₁.setTop (entryFrame m #[.ref x] 1)) (T4.setTop (mkF m 14 #[.val (.ref x)] [.int cd])) := (c3.trans (st4 _ (Steps.refl _))).trans (by
    refine XS.goto X4.here hexec rfl (pc0 := 10) rfl (hb hbytes d10) (by decide) rfl ?_
    exact Steps.refl _)
  exact ⟨T4, some (.int cd), _, _, _, X4, rfl, rfl, rfl, (fun h => by cases h), ⟨rfl, q4.trans hh2⟩, fun fs hl => c5.trans (X4.ireturnOut hexec hret (by rcases hc with rfl | rfl <;> rfl) (Or.inr (Or.inr (Or.inl rfl))) (hb hbytes d14) hl)⟩
end Cdr
namespace Len
def yN : MethodName := ⟨"java/lang/String", "length", "()I"⟩
abbrev yB : ByteArray := jdk_42_method_54_code
theorem d0 : decode yB 0 = .ok (.aload_n 0, 1) := by decide +kernel
theorem d1 : decode yB 1 = .ok (.getfield 9, 3) := by decide +kernel
theorem d4 : decode yB 4 = .ok (.arraylength, 1) := by decide +kernel
theorem d5 : decode yB 5 = .ok (.aload_n 0, 1) := by decide +kernel
theorem d6 : decode yB 6 = .ok (.invokevirtual 335, 3) := by decide +kernel
theorem d9 : decode yB 9 = .ok (.ishr, 1) := by decide +kernel
theorem d10 : decode yB 10 = .ok (.ireturn, 1) := by decide +kernel
def site : List Cond := [.fieldLink "java/lang/String" 9 "java/lang/String" "value" "[B", Cdr.tab] ++ virtW "java/lang/String" 335 "java/lang/String" Cdr.yN Cdr.yN
def tab : Cond := tabOf yN yB 1 (some .int) site
def P (x t : Addr) (V : Cell) (cd : Int32) (n : Nat) (f : Nat → Int32) (z : Int32) (args : Array Value) (s : State) : Prop := args = #[.ref x] ∧ Txt x t V cd n f s ∧ StaticIs s "java/lang/String" "COMPACT_STRINGS" "Z" (.int z) ∧ ¬ z = 0
def E (n : Nat) (r : Option Value) (s u : State) : Prop := XT.PureE (some (.int (Int32.ofNat n))) r s u
/-- length() of a String of n chars, in either coding -/
theorem law (l : Launch) (x t : Addr) (V : Cell) (cd : Int32) (n : Nat) (f : Nat → Int32) (z : Int32) : Law l yN 1 0 1 13 yB 1 (some .int) site (P x t V cd n f z) (E n) [] 0 0 := by
  refine Law.of_walk (plainFor_of_name (by decide +kernel)) (by decide +kernel) (by decide +kernel) (by decide) (fun _ _ h => by rw [h.1]; rfl) (fun _ U U' hal hh h => ⟨h.1, h.2.1.mv hal hh, h.2.2.1.there hal hh, h.2.2.2⟩) (fun r U U' V V' h1 hal h2 h => XT.PureE.mv r U U' V V' h1 hal h2 h) ?_
  intro p e s m args below meth c s₁ X0 hexec hbytes hml hret hlk hnm hown hh0 W hP
  obtain ⟨rfl, hx, s1, hz⟩ := hP
  have v31 := hx.2.2.2.1.2.2.2
  have c1 : Steps p.tables e below (s₁.setTop (entryFrame m #[.ref x] 1)) (s₁.setTop (mkF m 1 #[.val (.ref x)] [.ref x])) := Steps.trans (entry rfl) (by
    show Steps p.tables e below (s₁.setTop (mkF m 0 #[.val (.ref x)] [])) _
    refine XS.aloadN X0.here hexec rfl (hb hbytes d0) rfl rfl ?_
    exact Steps.refl _)
  obtain ⟨T2, X2, q2, st2⟩ := X0.hget hexec hown (wk W (.fieldLink "java/lang/String" 9 "java/lang/String" "value" "[B")) (hx.mv X0.warmed.alike hh0).2.1 (g := (mkF m 1 #[.val (.ref x)] [.ref x])) rfl (rest := []) rfl (hb hbytes d1)
  have hh2 := q2.trans hh0
  have hx2 := hx.mv X2.warmed.alike hh2
  have c3 : Steps p.tables e below (s₁.setTop (entryFrame m #[.ref x] 1)) (T2.setTop (mkF m 6 #[.val (.ref x)] [.ref x, .int (Int32.ofNat V.slots.size)])) := (c1.trans (st2 _ (Steps.refl _))).trans (by
    refine X2.alen hexec hx2.2.2.2.1 rfl rfl (hb hbytes d4) ?_
    refine XS.aloadN X2.here hexec rfl (hb hbytes d5) rfl rfl ?_
    exact Steps.refl _)
  obtain ⟨v4, T4, X4, E4, g4⟩ := X2.callV hexec (Cdr.law l x cd z) hown (wks W (virtW "java/lang/String" 335 "java/lang/String" Cdr.yN Cdr.yN)) rfl (by decide) (wk W Cdr.tab) (W := 1) (Nat.le_of_ble_eq_true rfl) (Nat.le_of_ble_eq_true rfl) (Nat.le_refl _) (Nat.le_refl _) (hx2.1.fc X2.warmed.alike) hx2.1.is (g := (mkF m 6 #[.val (.ref x)] [.ref x, .int (Int32.ofNat V.slots.size)])) rfl (by rw [hml]; rfl) c3 (argsL := []) (rest := [.int (Int32.ofNat V.slots.size)]) rfl rfl (by show 2 * 0 + (1 + 0) ≤ _; decide) (hb hbytes d6) (⟨rfl, hx2.2.2.1, hx.2.2.2.2.1.cd, s1.there X2.warmed.alike hh2, hz⟩)
  obtain ⟨rfl, q4⟩ := E4
  have c5 : Steps p.tables e below (s₁.setTop (entryFrame m #[.ref x] 1)) (T4.setTop (mkF m 10 #[.val (.ref x)] [.int (Int32.ofNat V.slots.size >>> (cd &&& 31))])) := Steps.trans g4 (by
    refine ishr X4.here hexec rfl (hb hbytes d9) rfl ?_
    exact Steps.refl _)
  rw [hx.2.2.2.2.1.len v31] at c5
  exact ⟨T4, some (.int (Int32.ofNat n)), _, _, _, X4, rfl, rfl, rfl, (fun h => by cases h), ⟨rfl, q4.trans hh2⟩, fun fs hl => c5.trans (X4.ireturnOut hexec hret rfl (Or.inl rfl) (hb hbytes d10) hl)⟩
theorem pays {l : Launch} {R : Room} {p : Program} {e : Env} {below : List Frame} {s : State} {sargs : Array Value} {len W : Nat} (x t : Addr) (V : Cell) (cd : Int32) (n : Nat) (f : Nat → Int32) (z : Int32) (htab : tab.before sargs s = true) (hfr : 2 ≤ R.frames) (hlo : W + 25 ≤ R.locals) :
    Back l R p e below s sargs yN len W (fun A₁ a₁ => A₁.cells + 0 ≤ R.cells ∧ A₁.slots + 0 ≤ R.slots ∧ P x t V cd n f z a₁ A₁.U) (fun A₁ _ v₁ B₁ => E n v₁ A₁.U B₁.U ∧ B₁.locs = A₁.locs ++ [] ∧ B₁.cells = A₁.cells + 0 ∧ B₁.slots = A₁.slots + 0) :=
  (law l x t V cd n f z).pays htab hfr (by omega)
end Len
namespace IsL
def yN : MethodName := ⟨"java/lang/String", "isLatin1", "()Z"⟩
abbrev yB : ByteArray := jdk_42_method_154_code
theorem d0 : decode yB 0 = .ok (.getstatic 38, 3) := by decide +kernel
theorem d3 : decode yB 3 = .ok (.ifCond (.eq) 14, 3) := by decide +kernel
theorem d6 : decode yB 6 = .ok (.aload_n 0, 1) := by decide +kernel
theorem d7 : decode yB 7 = .ok (.getfield 15, 3) := by decide +kernel
theorem d10 : decode yB 10 = .ok (.ifCond (.ne) 7, 3) := by decide +kernel
theorem d13 : decode yB 13 = .ok (.iconst 1, 1) := by decide +kernel
theorem d14 : decode yB 14 = .ok (.goto 4, 3) := by decide +kernel
theorem d17 : decode yB 17 = .ok (.iconst 0, 1) := by decide +kernel
theorem d18 : decode yB 18 = .ok (.ireturn, 1) := by decide +kernel
def site : List Cond := [.fieldLink "java/lang/String" 38 "java/lang/String" "COMPACT_STRINGS" "Z", .fieldLink "java/lang/String" 15 "java/lang/String" "coder" "B"]
def tab : Cond := tabOf yN yB 1 (some .boolean) site
def P (x : Addr) (cd z : Int32) (args : Array Value) (s : State) : Prop := args = #[.ref x] ∧ Has x "java/lang/String" "coder" "B" (.int cd) s ∧ (cd = 0 ∨ cd = 1) ∧ StaticIs s "java/lang/String" "COMPACT_STRINGS" "Z" (.int z) ∧ ¬ z = 0
def E (cd : Int32) (r : Option Value) (s u : State) : Prop := XT.PureE (some (.int (1 - cd))) r s u
theorem law (l : Launch) (x : Addr) (cd z : Int32) : Law l yN 1 0 0 0 yB 1 (some .boolean) site (P x cd z) (E cd) [] 0 0 := by
  refine Law.of_walk (plainFor_of_name (by decide +kernel)) (by decide +kernel) (by decide +kernel) (by decide) (fun _ _ h => by rw [h.1]; rfl) (fun _ U U' hal hh h => ⟨h.1, h.2.1.mv hal hh, h.2.2.1, h.2.2.2.1.there hal hh, h.2.2.2.2⟩) (fun r U U' V V' h1 hal h2 h => XT.PureE.mv r U U' V V' h1 hal h2 h) ?_
  intro p e s m args below meth c s₁ X0 hexec hbytes hml hret hlk hnm hown hh0 W hP
  obtain ⟨rfl, hx, hc, s1, hz⟩ := hP
  have c1 : Steps p.tables e below (s₁.setTop (entryFrame m #[.ref x] 1)) (s₁.setTop (mkF m 0 #[.val (.ref x)] [])) := entry rfl
  obtain ⟨T2, X2, q2, st2⟩ := X0.sget hexec hown (wk W (.fieldLink "java/lang/String" 38 "java/lang/String" "COMPACT_STRINGS" "Z")) s1 (fun _ _ h => by rw [hh0]; exact h) (g := (mkF m 0 #[.val (.ref x)] [])) rfl (hb hbytes d0)
  have hh2 := q2.trans hh0
  have c3 : Steps p.tables e below (s₁.setTop (entryFrame m #[.ref x] 1)) (T2.setTop (mkF m 7 #[.val (.ref x)] [.ref x])) := (c1.trans (st2 _ (Steps.refl _))).trans (by
    refine XS.ifNo X2.here hexec rfl (hb hbytes d3) rfl (i0_eq_f hz) ?_
    refine XS.aloadN X2.here hexec rfl (hb hbytes d6) rfl rfl ?_
    exact Steps.refl _)
  obtain ⟨T4, X4, q4, st4⟩ := X2.hget hexec hown (wk W (.fieldLink "java/lang/String" 15 "java/lang/String" "coder" "B")) (hx.mv X2.warmed.alike hh2) (g := (mkF m 7 #[.val (.ref x)] [.ref x])) rfl (rest := []) rfl (hb hbytes d7)
  have c5 : Steps p.tables e below (s₁.setTop (entryFrame m #[.ref x] 1)) (T4.setTop (mkF m 10 #[.val (.ref x)] [.int cd])) := c3.trans (st4 _ (Steps.refl _))
  have c6 : Steps p.tables e below (s₁.setTop (entryFrame m #[.ref x] 1)) (T4.setTop (mkF m 18 #[.val (.ref x)] [.int (1 - cd)])) := by
    rcases hc with rfl | rfl
    · exact c5.trans (by
        refine XS.ifNo X4.here hexec rfl (hb hbytes d10) rfl (i0_ne_f rfl) ?_
        refine iconstV X4.here hexec rfl 1 (hb hbytes d13) (by decide) ?_
        refine XS.goto X4.here hexec rfl (pc0 := 14) rfl (hb hbytes d14) (by decide) rfl ?_
        exact Steps.refl _)
    · exact c5.trans (by
        refine XS.ifYes X4.here hexec rfl (pc0 := 10) rfl (hb hbytes d10) rfl (i0_ne_t (by decide)) (by decide) rfl ?_
        refine iconstV X4.here hexec rfl 0 (hb hbytes d17) (by decide) ?_
        exact Steps.refl _)
  exact ⟨T4, some (.int (1 - cd)), _, _, _, X4, rfl, rfl, rfl, (fun h => by cases h), ⟨rfl, q4.trans hh2⟩, fun fs hl => c6.trans (X4.ireturnOut hexec hret (by rcases hc with rfl | rfl <;> rfl) (Or.inr (Or.inl rfl)) (hb hbytes d18) hl)⟩
end IsL
namespace LChA
def yN : MethodName := ⟨"java/lang/StringLatin1", "charAt", "([BI)C"⟩
abbrev yB : ByteArray := jdk_43_method_2_code
theorem d0 : decode yB 0 = .ok (.iload_n 1, 1) := by decide +kernel
theorem d1 : decode yB 1 = .ok (.aload_n 0, 1) := by decide +kernel
theorem d2 : decode yB 2 = .ok (.arraylength, 1) := by decide +kernel
theorem d3 : decode yB 3 = .ok (.invokestatic 9, 3) := by decide +kernel
theorem d6 : decode yB 6 = .ok (.aload_n 0, 1) := by decide +kernel
theorem d7 : decode yB 7 = .ok (.iload_n 1, 1) := by decide +kernel
theorem d8 : decode yB 8 = .ok (.baload, 1) := by decide +kernel
theorem d9 : decode yB 9 = .ok (.sipush 255, 3) := by decide +kernel
theorem d12 : decode yB 12 = .ok (.iand, 1) := by decide +kernel
theorem d13 : decode yB 13 = .ok (.i2c, 1) := by decide +kernel
theorem d14 : decode yB 14 = .ok (.ireturn, 1) := by decide +kernel
def site : List Cond := [JO.Str_checkIndex.tab] ++ staticW "java/lang/StringLatin1" 9 JO.Str_checkIndex.yN
def tab : Cond := tabOf yN yB 2 (some .char) site
def P (t : Addr) (V : Cell) (i : Nat) (u : Int32) (fm : Value) (args : Array Value) (s : State) : Prop := args = #[.ref t, .int (Int32.ofNat i)] ∧ XT.Arr .byte t V s ∧ V.slots[i]? = some (.int u) ∧ (StaticIs s "jdk/internal/util/Preconditions" "SIOOBE_FORMATTER" "Ljava/util/function/BiFunction;" fm ∧ fm.isRef = true)
def E (u : Int32) (r : Option Value) (s w : State) : Prop := XT.PureE (some (.int (chr8 u))) r s w
theorem law (l : Launch) (t : Addr) (V : Cell) (i : Nat) (u : Int32) (fm : Value) : Law l yN 2 2 2 27 yB 2 (some .char) site (P t V i u fm) (E u) [] 0 0 := by
  refine Law.of_walk (plainFor_of_name (by decide +kernel)) (by decide +kernel) (by decide +kernel) (by decide) (fun _ _ h => by rw [h.1]; rfl) (fun _ U U' hal hh h => ⟨h.1, h.2.1.mv hal hh, h.2.2.1, h.2.2.2.1.there hal hh, h.2.2.2.2⟩) (fun r U U' V V' h1 hal h2 h => XT.PureE.mv r U U' V V' h1 hal h2 h) ?_
  intro p e s m args below meth c s₁ X0 hexec hbytes hml hret hlk hnm hown hh0 W hP
  obtain ⟨rfl, hV, hu, s1, rf⟩ := hP
  have v31 := hV.2.2.2
  have hi : i < V.slots.size := (Array.getElem?_eq_some_iff.mp hu).1
  have c1 : Steps p.tables e below (s₁.setTop (entryFrame m #[.ref t, .int (Int32.ofNat i)] 2)) (s₁.setTop (mkF m 0 #[.val (.ref t), .val (.int (Int32.ofNat i))] [])) := entry rfl
  have c2 : Steps p.tables e below (s₁.setTop (entryFrame m #[.ref t, .int (Int32.ofNat i)] 2)) (s₁.setTop (mkF m 3 #[.val (.ref t), .val (.int (Int32.ofNat i))] [.int (Int32.ofNat V.slots.size), .int (Int32.ofNat i)])) := c1.trans (by
    refine XS.iloadN X0.here hexec rfl (hb hbytes d0) rfl ?_
    refine XS.aloadN X0.here hexec rfl (hb hbytes d1) rfl rfl ?_
    refine X0.alen hexec (hV.mv X0.warmed.alike hh0) rfl rfl (hb hbytes d2) ?_
    exact Steps.refl _)
  obtain ⟨v3, T3, X3, E3, g3⟩ := X0.callS hexec (JO.Str_checkIndex.law l (Int32.ofNat i) (Int32.ofNat V.slots.size) fm) hown (wks W (staticW "java/lang/StringLatin1" 9 JO.Str_checkIndex.yN)) (wk W JO.Str_checkIndex.tab) (W := 0) (Nat.le_of_ble_eq_true rfl) (Nat.le_of_ble_eq_true rfl) (Nat.le_refl _) (Nat.le_refl _) (g := (mkF m 3 #[.val (.ref t), .val (.int (Int32.ofNat i))] [.int (Int32.ofNat V.slots.size), .int (Int32.ofNat i)])) rfl (by rw [hml]; rfl) c2 (argsL := [.int (Int32.ofNat i), .int (Int32.ofNat V.slots.size)]) (rest := []) rfl rfl (by show 2 * 0 + 0 ≤ _; decide) (hb hbytes d3) (⟨rfl, rf, s1.there X0.warmed.alike hh0, Int32.ofNat_not_neg (by omega), lt32 v31 hi⟩)
  obtain ⟨rfl, q3⟩ := E3
  have hh3 := q3.trans hh0
  have c4 : Steps p.tables e below (s₁.setTop (entryFrame m #[.ref t, .int (Int32.ofNat i)] 2)) (T3.setTop (mkF m 14 #[.val (.ref t), .val (.int (Int32.ofNat i))] [.int (chr8 u)])) := Steps.trans g3 (by
    refine XS.aloadN X3.here hexec rfl (hb hbytes d6) rfl rfl ?_
    refine XS.iloadN X3.here hexec rfl (hb hbytes d7) rfl ?_
    refine X3.aget hexec (hV.mv X3.warmed.alike hh3) rfl hu rfl rfl (hb hbytes d8) ?_
    refine sipushV X3.here hexec rfl 255 (hb hbytes d9) (by decide) ?_
    refine XS.iand X3.here hexec rfl (hb hbytes d12) rfl ?_
    refine i2c X3.here hexec rfl (hb hbytes d13) rfl ?_
    exact Steps.refl _)
  exact ⟨T3, some (.int (chr8 u)), _, _, _, X3, rfl, rfl, rfl, (fun h => by cases h), ⟨rfl, hh3⟩, fun fs hl => c4.trans (X3.ireturnOut hexec hret (narrow_c _) (Or.inr (Or.inr (Or.inr (Or.inl rfl)))) (hb hbytes d14) hl)⟩
end LChA
end StrChars
namespace StrChars.Road
open Jvm Sem ClassFile Op Lib Jvm.Stand Jvm.Free Jvm.Free.XT
open Jvm.Lib.Cold (StaticIs)
theorem consq {a : Array Value} {s : State} {c : Jvm.Cond} {L : List Jvm.Cond} (h0 : c.before a s = true) (h : ∀ w ∈ L, w.before a s = true) : ∀ w ∈ c :: L, w.before a s = true := fun w hw => (List.mem_cons.mp hw).elim (fun e => e ▸ h0) (h w)
/-- the words of String.length(), either coding -/
abbrev wordsLen : List Jvm.Cond := [.code Len.yN Len.yB 1 (some .int), .initialized ST, .fieldLink ST 9 ST "value" "[B", .fieldLink ST 38 ST "COMPACT_STRINGS" "Z", .fieldLink ST 15 ST "coder" "B", .code Cdr.yN Cdr.yB 1 (some .byte), .methodLink ST 335 Cdr.yN, .declares Cdr.yN, .selects ST Cdr.yN Cdr.yN, .instanceMethod Cdr.yN]
theorem tabLen_of {a : Array Value} {s : State} (h : ∀ w ∈ wordsLen, w.before a s = true) : Len.tab.before a s = true := by
  have hc : Cdr.tab.before a s = true := unparts (wk h (.code Cdr.yN Cdr.yB 1 (some .byte))) (wks h (.initialized Cdr.yN.cls :: Cdr.site))
  have q := consq hc h
  exact unparts (wk q (.code Len.yN Len.yB 1 (some .int))) (wks q (.initialized Len.yN.cls :: Len.site))
theorem movedLen {Z s : State} {a0 args : Array Value} (hZ : Z.Warmed39 s.vm) (hw : ∀ d ∈ wordsLen, d.before a0 Z = true) : ∀ d ∈ wordsLen, d.before args s = true := fun d hd => by
  have q := hw d hd
  have t : ∀ d ∈ wordsLen, d = .arrayClass .byte ∨ (d.onTables && d.keepsFace) = true := by decide +kernel
  rcases t d hd with rfl | t
  · exact RoadKit.mvA hZ q
  · exact RoadKit.mv hZ q t
/-- the bytes of the chars cs, low before high -/
def wideBytes : List Int32 → List Value
  | [] => []
  | c :: cs => .int (lo8 c) :: .int (hi8 c) :: wideBytes cs
theorem wide_lo (d : Value) : ∀ (cs : List Int32) (j : Nat), j < cs.length → (wideBytes cs).getD (2 * j) d = .int (lo8 (cs.getD j 0))
  | [], j, h => absurd h (Nat.not_lt_zero j)
  | c :: cs, 0, _ => rfl
  | c :: cs, j + 1, h => by
    have q := wide_lo d cs j (by simpa using h)
    rw [show 2 * (j + 1) = 2 * j + 1 + 1 from by omega]
    simpa [wideBytes] using q
theorem wide_hi (d : Value) : ∀ (cs : List Int32) (j : Nat), j < cs.length → (wideBytes cs).getD (2 * j + 1) d = .int (hi8 (cs.getD j 0))
  | [], j, h => absurd h (Nat.not_lt_zero j)
  | c :: cs, 0, _ => rfl
  | c :: cs, j + 1, h => by
    have q := wide_hi d cs j (by simpa using h)
    rw [show 2 * (j + 1) + 1 = 2 * j + 1 + 1 + 1 from by omega]
    simpa [wideBytes] using q
theorem low_at (d : Value) (cs : List Int32) (j : Nat) (h : j < cs.length) : (cs.map fun c => Value.int (lo8 c)).getD j d = .int (lo8 (cs.getD j 0)) := by
  simp [List.getD_eq_getElem?_getD, h]
/-- an array of N2 bytes vs codes the chars cs by the coder cd -/
def CodA (cs : List Int32) (cd N2 : Int32) (vs : List Value) : Prop := (cd = 0 ∧ N2 = Int32.ofNat cs.length ∧ vs = (cs.map fun c => Value.int (lo8 c)) ∧ ∀ c ∈ cs, ¬ 255 < c) ∨ (cd = 1 ∧ N2 = Int32.ofNat (2 * cs.length) ∧ vs = wideBytes cs ∧ ∃ c ∈ cs, 255 < c)
theorem CodA.cod {cs : List Int32} {cd N2 : Int32} {vs : List Value} {V : Cell} (h : CodA cs cd N2 vs) (hn : 2 * cs.length < 2 ^ 31) (hs : V.slots.size = N2.toNatClampNeg) (hv : RoadKit.Has V vs (.int 0)) : Cod cd cs.length (fun j => cs.getD j 0) V := by
  rcases h with ⟨rfl, rfl, rfl, h⟩ | ⟨rfl, rfl, rfl, c, hc, hw⟩
  · rw [n32 (by omega)] at hs
    exact Or.inl ⟨rfl, hs, fun j hj => ⟨by rw [hv j (by omega), low_at _ _ _ hj], by
      have e : cs.getD j 0 = cs[j] := by simp [List.getD_eq_getElem?_getD, hj]
      show ¬ 255 < cs.getD j 0
      rw [e]; exact h _ (List.getElem_mem _)⟩⟩
  · rw [n32 (by omega)] at hs
    obtain ⟨j, hj, rfl⟩ := List.getElem_of_mem hc
    exact Or.inr ⟨rfl, hs, fun j hj => ⟨by rw [hv _ (by omega), wide_lo _ _ _ hj], by rw [hv _ (by omega), wide_hi _ _ _ hj]⟩, j, hj, by
      have e : cs.getD j 0 = cs[j] := by simp [List.getD_eq_getElem?_getD, hj]
      show 255 < cs.getD j 0
      rw [e]; exact hw⟩
/-- an object of exactly java/lang/String, its two fields found: as the laws ask it -/
theorem strObj {Z U : State} {a0 : Array Value} {kI : Nat} (wi : (Jvm.Cond.instantiable ST kI).before a0 Z = true) (al : Z.vm.Alike U.vm) {x : Addr} {v0 c0 : Value} (E : RoadKit.Exa Z U.heap x ST) (V : RoadKit.Fld Z U.heap x ST "value" "[B" v0) (C : RoadKit.Fld Z U.heap x ST "coder" "B" c0) :
    ∃ (D : Cell) (fV fC : Field), Blank ST x D U ∧ Found ST "value" "[B" fV U ∧ Found ST "coder" "B" fC U ∧ D.slots[fV.slot]? = some v0 ∧ D.slots[fC.slot]? = some c0 ∧ RoadKit.slotOf Z ST "value" "[B" = fV.slot ∧ RoadKit.slotOf Z ST "coder" "B" = fC.slot := by
  obtain ⟨D, cfV, kV, iV, fV, hD, gV, stV, knV, obV, asV, slV⟩ := V
  obtain ⟨D', cfC, kC, iC, fC, hD', gC, stC, -, -, asC, slC⟩ := C
  cases hD.symm.trans hD'
  obtain ⟨D2, kD, e1, e2, e3, e4, e5⟩ := E
  cases hD.symm.trans e1
  obtain ⟨c2, k2, i1, i2, i3, -⟩ := Cond.instantiable_spec wi
  cases e2.symm.trans i1
  cases e3.symm.trans i2
  obtain ⟨kU, u1, u2⟩ := al.2.2 _ _ e3
  exact ⟨D, fV, fC, ⟨hD, ⟨knV, fun q hq => by rw [hq] at obV; cases obV⟩, by rw [al.findClass]; exact e2, kU, u1, by rw [u2]; exact i3, by rw [u2]; exact e5 i3⟩, ⟨SBG.found_only al ⟨cfV, kV, iV, gV⟩, stV⟩, ⟨SBG.found_only al ⟨cfC, kC, iC, gC⟩, stC⟩, slV, slC, by simp [RoadKit.slotOf, gV], by simp [RoadKit.slotOf, gC]⟩
theorem sta_is {Z U : State} (al : Z.vm.Alike U.vm) {C n d : String} {v : Value} (S : RoadKit.Sta Z U.heap C n d v) : StaticIs U C n d v := by
  obtain ⟨cfS, iS, kS, fS, st, cS, t1, t2, t3, t4, t5, t6, t7⟩ := S
  exact StaticIs.there (s := { Z with heap := U.heap }) ⟨cfS, iS, kS, fS, st, cS, t1, t2, t3, t4, t5, (fun q => by rw [q] at t6; cases t6), t7⟩ al rfl
/-- **length() OF SUCH A STRING** -/
theorem lenW {p : Program} {l : Launch} {e : Env} {R : Room} {s : State} {args : Array Value} {below : List Frame} {len W : Nat} {Z : State} {a0 : Array Value} {h : Heap} (hZ : Z.Warmed39 s.vm) (hw : ∀ d ∈ wordsLen, d.before a0 Z = true) {kI : Nat} (wi : (Jvm.Cond.instantiable ST kI).before a0 Z = true)
    {x t : Addr} {kb : ClassId} {cs : List Int32} {cd N2 z : Int32} {vs : List Value} (E : RoadKit.Exa Z h x ST) (V : RoadKit.Fld Z h x ST "value" "[B" (.ref t)) (C : RoadKit.Fld Z h x ST "coder" "B" (.int cd)) (K : RoadKit.Arv Z h t kb .byte N2 vs (.int 0)) (hc : CodA cs cd N2 vs) (hb : ∀ c ∈ cs, ¬ c < 0 ∧ ¬ (65535 : Int32) < c)
    (S : RoadKit.Sta Z h ST "COMPACT_STRINGS" "Z" (.int z)) (hz : ¬ z = 0) (l2 : cs.length ≤ 4000) (hfr : 2 ≤ R.frames) (hlo : W + 25 ≤ R.locals) :
    Back l R p e below s args (⟨"java/lang/String", "length", "()I"⟩ : MethodName) len W (fun P a => a = #[.ref x] ∧ P.U.heap = h ∧ P.cells + 0 ≤ R.cells ∧ P.slots + 0 ≤ R.slots)
      (fun P _ v B => ∃ L, (v = some (.int (Int32.ofNat cs.length)) ∧ L = [] ∧ B.U.heap = h) ∧ B.locs = P.locs ++ L ∧ B.cells = P.cells + 0 ∧ B.slots = P.slots + 0) := by
  obtain ⟨A, K1, K2, K3, K4, K5, K6⟩ := K
  have hcod := hc.cod (by omega) K3 K5
  intro m meth c P g ig mk a X hg hsize hdg hW hn hp'
  obtain ⟨rfl, rfl, r1, r2⟩ := hp'
  have al : Z.vm.Alike P.U.vm := hZ.alike.trans X.warmed.alike
  obtain ⟨D, fV, fC, hB, F1, F2, g1, g2, -, -⟩ := strObj wi al E V C
  have hx : Txt x t A cd cs.length (fun j => cs.getD j 0) P.U := ⟨⟨_, hB.2.2.1, D, hB.1, rfl, by cases q : D.vm <;> first | rfl | exact absurd q (hB.2.1.2 _)⟩, Has.of hB F1 g1, Has.of hB F2 g2, ⟨K1.1, State.isArrayOf_alike al K1.2.1, K1.2.2, by rcases hcod with ⟨-, q, -⟩ | ⟨-, q, -⟩ <;> omega⟩, hcod, fun j hj => by
    have e : cs.getD j 0 = cs[j] := by simp [List.getD_eq_getElem?_getD, hj]
    show ¬ cs.getD j 0 < 0 ∧ ¬ 65535 < cs.getD j 0
    rw [e]; exact hb _ (List.getElem_mem _)⟩
  obtain ⟨v, B, X', ⟨⟨hv, hh⟩, hl, hk, hs⟩, st⟩ := Len.pays x t A cd cs.length (fun j => cs.getD j 0) z (tabLen_of (movedLen hZ hw)) hfr hlo m meth c P g ig mk _ X hg hsize hdg hW hn ⟨r1, r2, rfl, hx, sta_is al S, hz⟩
  exact ⟨v, B, X', ⟨[], ⟨hv, rfl, hh⟩, hl, hk, hs⟩, st⟩
end StrChars.Road
namespace StrChars
open Jvm Sem ClassFile Op Lib Jvm.Stand Jvm.Free.XT Jvm.Free.ALB Jvm.Free.JM Jvm.Free
open Jvm.Lib.Cold (StaticIs)
namespace Emp
def yN : MethodName := ⟨"java/lang/String", "isEmpty", "()Z"⟩
abbrev yB : ByteArray := jdk_42_method_55_code
theorem d0 : decode yB 0 = .ok (.aload_n 0, 1) := by decide +kernel
theorem d1 : decode yB 1 = .ok (.getfield 9, 3) := by decide +kernel
theorem d4 : decode yB 4 = .ok (.arraylength, 1) := by decide +kernel
theorem d5 : decode yB 5 = .ok (.ifCond (.ne) 7, 3) := by decide +kernel
theorem d8 : decode yB 8 = .ok (.iconst 1, 1) := by decide +kernel
theorem d9 : decode yB 9 = .ok (.goto 4, 3) := by decide +kernel
theorem d12 : decode yB 12 = .ok (.iconst 0, 1) := by decide +kernel
theorem d13 : decode yB 13 = .ok (.ireturn, 1) := by decide +kernel
def site : List Cond := [.fieldLink "java/lang/String" 9 "java/lang/String" "value" "[B"]
def tab : Cond := tabOf yN yB 1 (some .boolean) site
def P (x t : Addr) (V : Cell) (cd : Int32) (n : Nat) (f : Nat → Int32) (args : Array Value) (s : State) : Prop := args = #[.ref x] ∧ Txt x t V cd n f s
def E (n : Nat) (r : Option Value) (s u : State) : Prop := XT.PureE (some (.int (if n = 0 then 1 else 0))) r s u
/-- isEmpty() of a String of n chars -/
theorem law (l : Launch) (x t : Addr) (V : Cell) (cd : Int32) (n : Nat) (f : Nat → Int32) : Law l yN 1 0 0 0 yB 1 (some .boolean) site (P x t V cd n f) (E n) [] 0 0 := by
  refine Law.of_walk (plainFor_of_name (by decide +kernel)) (by decide +kernel) (by decide +kernel) (by decide) (fun _ _ h => by rw [h.1]; rfl) (fun _ U U' hal hh h => ⟨h.1, h.2.mv hal hh⟩) (fun r U U' V V' h1 hal h2 h => XT.PureE.mv r U U' V V' h1 hal h2 h) ?_
  intro p e s m args below meth c s₁ X0 hexec hbytes hml hret hlk hnm hown hh0 W hP
  obtain ⟨rfl, hx⟩ := hP
  have v31 := hx.2.2.2.1.2.2.2
  have c1 : Steps p.tables e below (s₁.setTop (entryFrame m #[.ref x] 1)) (s₁.setTop (mkF m 1 #[.val (.ref x)] [.ref x])) := Steps.trans (entry rfl) (by
    show Steps p.tables e below (s₁.setTop (mkF m 0 #[.val (.ref x)] [])) _
    refine XS.aloadN X0.here hexec rfl (hb hbytes d0) rfl rfl ?_
    exact Steps.refl _)
  obtain ⟨T2, X2, q2, st2⟩ := X0.hget hexec hown (wk W (.fieldLink "java/lang/String" 9 "java/lang/String" "value" "[B")) (hx.mv X0.warmed.alike hh0).2.1 (g := (mkF m 1 #[.val (.ref x)] [.ref x])) rfl (rest := []) rfl (hb hbytes d1)
  have hh2 := q2.trans hh0
  have hx2 := hx.mv X2.warmed.alike hh2
  have c3 : Steps p.tables e below (s₁.setTop (entryFrame m #[.ref x] 1)) (T2.setTop (mkF m 5 #[.val (.ref x)] [.int (Int32.ofNat V.slots.size)])) := (c1.trans (st2 _ (Steps.refl _))).trans (by
    refine X2.alen hexec hx2.2.2.2.1 rfl rfl (hb hbytes d4) ?_
    exact Steps.refl _)
  have hz : V.slots.size = 0 ↔ n = 0 := by
    rcases hx.2.2.2.2.1 with ⟨-, q, -⟩ | ⟨-, q, -⟩ <;> omega
  by_cases h0 : n = 0
  · have c4 : Steps p.tables e below (s₁.setTop (entryFrame m #[.ref x] 1)) (T2.setTop (mkF m 13 #[.val (.ref x)] [.int 1])) := c3.trans (by
      refine XS.ifNo X2.here hexec rfl (hb hbytes d5) rfl (i0_ne_f (by rw [hz.mpr h0]; rfl)) ?_
      refine iconstV X2.here hexec rfl 1 (hb hbytes d8) (by decide) ?_
      refine XS.goto X2.here hexec rfl (pc0 := 9) rfl (hb hbytes d9) (by decide) rfl ?_
      exact Steps.refl _)
    exact ⟨T2, some (.int 1), _, _, _, X2, rfl, rfl, rfl, (fun h => by cases h), ⟨by rw [if_pos h0], hh2⟩, fun fs hl => c4.trans (X2.ireturnOut hexec hret rfl (Or.inr (Or.inl rfl)) (hb hbytes d13) hl)⟩
  · have c4 : Steps p.tables e below (s₁.setTop (entryFrame m #[.ref x] 1)) (T2.setTop (mkF m 13 #[.val (.ref x)] [.int 0])) := c3.trans (by
      refine XS.ifYes X2.here hexec rfl (pc0 := 5) rfl (hb hbytes d5) rfl (i0_ne_t (nz32 v31 (by omega))) (by decide) rfl ?_
      refine iconstV X2.here hexec rfl 0 (hb hbytes d12) (by decide) ?_
      exact Steps.refl _)
    exact ⟨T2, some (.int 0), _, _, _, X2, rfl, rfl, rfl, (fun h => by cases h), ⟨by rw [if_neg h0], hh2⟩, fun fs hl => c4.trans (X2.ireturnOut hexec hret rfl (Or.inr (Or.inl rfl)) (hb hbytes d13) hl)⟩
theorem pays {l : Launch} {R : Room} {p : Program} {e : Env} {below : List Frame} {s : State} {sargs : Array Value} {len W : Nat} (x t : Addr) (V : Cell) (cd : Int32) (n : Nat) (f : Nat → Int32) (htab : tab.before sargs s = true) (hfr : 1 ≤ R.frames) (hlo : W + 12 ≤ R.locals) :
    Back l R p e below s sargs yN len W (fun A₁ a₁ => A₁.cells + 0 ≤ R.cells ∧ A₁.slots + 0 ≤ R.slots ∧ P x t V cd n f a₁ A₁.U) (fun A₁ _ v₁ B₁ => E n v₁ A₁.U B₁.U ∧ B₁.locs = A₁.locs ++ [] ∧ B₁.cells = A₁.cells + 0 ∧ B₁.slots = A₁.slots + 0) :=
  (law l x t V cd n f).pays htab hfr (by omega)
end Emp
/-- what place i of a byte[]'s cell holds -/
def yv (A : Cell) (i : Nat) : Int32 := match A.slots[i]? with | some (.int x) => x | _ => 0
theorem yv_get {a : Addr} {A : Cell} {U : State} (h : XT.Arr .byte a A U) (ht : Typed .byte A) {i : Nat} (hi : i < A.slots.size) : A.slots[i]? = some (.int (yv A i)) := by
  have e := Array.getElem?_eq_getElem hi
  have f := ht i _ e
  unfold yv; rw [e]
  generalize A.slots[i] = v at f
  cases v <;> simp [fits] at f ⊢
/-- the two arrays are equal, place for place -/
def EqC (A B : Cell) : Prop := A.slots.size = B.slots.size ∧ ∀ i, i < A.slots.size → yv A i = yv B i
/-- a boolean that says whether p -/
def Says01 (q : Prop) (r : Option Value) (s u : State) : Prop := ∃ v : Int32, r = some (.int v) ∧ u.heap = s.heap ∧ ((v = 1 ∧ q) ∨ (v = 0 ∧ ¬ q))
theorem Says01.mv {q : Prop} : ∀ r (U U' V V' : State), U'.heap = U.heap → V.vm.Alike V'.vm → V'.heap = V.heap → Says01 q r U V → Says01 q r U' V' :=
  fun r U U' V V' h1 _ h2 ⟨v, a, b, c⟩ => ⟨v, a, by rw [h1, h2]; exact b, c⟩
namespace LEq
def yN : MethodName := ⟨"java/lang/StringLatin1", "equals", "([B[B)Z"⟩
abbrev yB : ByteArray := jdk_43_method_13_code
theorem d0 : decode yB 0 = .ok (.aload_n 0, 1) := by decide +kernel
theorem d1 : decode yB 1 = .ok (.arraylength, 1) := by decide +kernel
theorem d2 : decode yB 2 = .ok (.aload_n 1, 1) := by decide +kernel
theorem d3 : decode yB 3 = .ok (.arraylength, 1) := by decide +kernel
theorem d4 : decode yB 4 = .ok (.if_icmp (.ne) 30, 3) := by decide +kernel
theorem d7 : decode yB 7 = .ok (.iconst 0, 1) := by decide +kernel
theorem d8 : decode yB 8 = .ok (.istore_n 2, 1) := by decide +kernel
theorem d9 : decode yB 9 = .ok (.iload_n 2, 1) := by decide +kernel
theorem d10 : decode yB 10 = .ok (.aload_n 0, 1) := by decide +kernel
theorem d11 : decode yB 11 = .ok (.arraylength, 1) := by decide +kernel
theorem d12 : decode yB 12 = .ok (.if_icmp (.ge) 20, 3) := by decide +kernel
theorem d15 : decode yB 15 = .ok (.aload_n 0, 1) := by decide +kernel
theorem d16 : decode yB 16 = .ok (.iload_n 2, 1) := by decide +kernel
theorem d17 : decode yB 17 = .ok (.baload, 1) := by decide +kernel
theorem d18 : decode yB 18 = .ok (.aload_n 1, 1) := by decide +kernel
theorem d19 : decode yB 19 = .ok (.iload_n 2, 1) := by decide +kernel
theorem d20 : decode yB 20 = .ok (.baload, 1) := by decide +kernel
theorem d21 : decode yB 21 = .ok (.if_icmp (.eq) 5, 3) := by decide +kernel
theorem d24 : decode yB 24 = .ok (.iconst 0, 1) := by decide +kernel
theorem d25 : decode yB 25 = .ok (.ireturn, 1) := by decide +kernel
theorem d26 : decode yB 26 = .ok (.iinc 2 1, 3) := by decide +kernel
theorem d29 : decode yB 29 = .ok (.goto (-20), 3) := by decide +kernel
theorem d32 : decode yB 32 = .ok (.iconst 1, 1) := by decide +kernel
theorem d33 : decode yB 33 = .ok (.ireturn, 1) := by decide +kernel
theorem d34 : decode yB 34 = .ok (.iconst 0, 1) := by decide +kernel
theorem d35 : decode yB 35 = .ok (.ireturn, 1) := by decide +kernel
def site : List Cond := []
def tab : Cond := tabOf yN yB 3 (some .boolean) site
def P (a : Addr) (A : Cell) (b : Addr) (B : Cell) (args : Array Value) (s : State) : Prop := args = #[.ref a, .ref b] ∧ XT.Arr .byte a A s ∧ Typed .byte A ∧ XT.Arr .byte b B s ∧ Typed .byte B
/-- whether two byte[] are equal, place for place -/
theorem law (l : Launch) (a : Addr) (A : Cell) (b : Addr) (B : Cell) : Law l yN 2 2 0 0 yB 3 (some .boolean) site (P a A b B) (Says01 (EqC A B)) [] 0 0 := by
  refine Law.of_walk (plainFor_of_name (by decide +kernel)) (by decide +kernel) (by decide +kernel) (by decide) (fun _ _ h => by rw [h.1]; rfl) (fun _ U U' hal hh h => ⟨h.1, h.2.1.mv hal hh, h.2.2.1, h.2.2.2.1.mv hal hh, h.2.2.2.2⟩) (fun r U U' V V' h1 hal h2 h => Says01.mv r U U' V V' h1 hal h2 h) ?_
  intro p e s m args below meth c s₁ X0 hexec hbytes hml hret hlk hnm hown hh0 W hP
  obtain ⟨rfl, hA, tA, hB, tB⟩ := hP
  have a31 := hA.2.2.2
  have b31 := hB.2.2.2
  have hA0 := hA.mv X0.warmed.alike hh0
  have hB0 := hB.mv X0.warmed.alike hh0
  have c1 : Steps p.tables e below (s₁.setTop (entryFrame m #[.ref a, .ref b] 3)) (s₁.setTop (mkF m 0 #[.val (.ref a), .val (.ref b), .unset] [])) := entry rfl
  have c2 : Steps p.tables e below (s₁.setTop (entryFrame m #[.ref a, .ref b] 3)) (s₁.setTop (mkF m 4 #[.val (.ref a), .val (.ref b), .unset] [.int (Int32.ofNat B.slots.size), .int (Int32.ofNat A.slots.size)])) := c1.trans (by
    refine XS.aloadN X0.here hexec rfl (hb hbytes d0) rfl rfl ?_
    refine X0.alen hexec hA0 rfl rfl (hb hbytes d1) ?_
    refine XS.aloadN X0.here hexec rfl (hb hbytes d2) rfl rfl ?_
    refine X0.alen hexec hB0 rfl rfl (hb hbytes d3) ?_
    exact Steps.refl _)
  by_cases hs : A.slots.size = B.slots.size
  · have c3 : Steps p.tables e below (s₁.setTop (entryFrame m #[.ref a, .ref b] 3)) (s₁.setTop (mkF m 9 #[.val (.ref a), .val (.ref b), .val (.int 0)] [])) := c2.trans (by
      refine XS.icmpNo X0.here hexec rfl (hb hbytes d4) rfl (ii_ne_f (by rw [hs])) ?_
      refine iconstV X0.here hexec rfl 0 (hb hbytes d7) (by decide) ?_
      refine XS.istoreN X0.here hexec rfl (hb hbytes d8) rfl rfl ?_
      exact Steps.refl _)
    have loop : ∀ (r i : Nat), i + r = A.slots.size → (∀ j, j < i → yv A j = yv B j) → Steps p.tables e below (s₁.setTop (entryFrame m #[.ref a, .ref b] 3)) (s₁.setTop (mkF m 9 #[.val (.ref a), .val (.ref b), .val (.int (Int32.ofNat i))] [])) → ∃ (pc : Nat) (Ls : Array Slot) (v : Int32), (pc = 25 ∨ pc = 33) ∧ ((v = 1 ∧ EqC A B) ∨ (v = 0 ∧ ¬ EqC A B)) ∧ Steps p.tables e below (s₁.setTop (entryFrame m #[.ref a, .ref b] 3)) (s₁.setTop (mkF m pc Ls [.int v])) := by
      intro r
      induction r with
      | zero =>
        intro i hi he cl
        exact ⟨33, _, 1, Or.inr rfl, Or.inl ⟨rfl, hs, fun j hj => he j (by omega)⟩, cl.trans (by
          refine XS.iloadN X0.here hexec rfl (hb hbytes d9) rfl ?_
          refine XS.aloadN X0.here hexec rfl (hb hbytes d10) rfl rfl ?_
          refine X0.alen hexec hA0 rfl rfl (hb hbytes d11) ?_
          refine XS.icmpYes X0.here hexec rfl (pc0 := 12) rfl (hb hbytes d12) rfl (ii_ge_t (nlt32 (by omega) (by omega))) (by decide) rfl ?_
          refine iconstV X0.here hexec rfl 1 (hb hbytes d32) (by decide) ?_
          exact Steps.refl _)⟩
      | succ r ih =>
        intro i hi he cl
        have c4 : Steps p.tables e below (s₁.setTop (entryFrame m #[.ref a, .ref b] 3)) (s₁.setTop (mkF m 21 #[.val (.ref a), .val (.ref b), .val (.int (Int32.ofNat i))] [.int (yv B i), .int (yv A i)])) := cl.trans (by
          refine XS.iloadN X0.here hexec rfl (hb hbytes d9) rfl ?_
          refine XS.aloadN X0.here hexec rfl (hb hbytes d10) rfl rfl ?_
          refine X0.alen hexec hA0 rfl rfl (hb hbytes d11) ?_
          refine XS.icmpNo X0.here hexec rfl (hb hbytes d12) rfl (ii_ge_f (lt32 (by omega) (by omega))) ?_
          refine XS.aloadN X0.here hexec rfl (hb hbytes d15) rfl rfl ?_
          refine XS.iloadN X0.here hexec rfl (hb hbytes d16) rfl ?_
          refine X0.aget hexec hA0 rfl (yv_get hA tA (i := i) (by omega)) rfl rfl (hb hbytes d17) ?_
          refine XS.aloadN X0.here hexec rfl (hb hbytes d18) rfl rfl ?_
          refine XS.iloadN X0.here hexec rfl (hb hbytes d19) rfl ?_
          refine X0.aget hexec hB0 rfl (yv_get hB tB (i := i) (by omega)) rfl rfl (hb hbytes d20) ?_
          exact Steps.refl _)
        by_cases hv : yv A i = yv B i
        · have c5 : Steps p.tables e below (s₁.setTop (entryFrame m #[.ref a, .ref b] 3)) (s₁.setTop (mkF m 9 #[.val (.ref a), .val (.ref b), .val (.int (Int32.ofNat i + 1))] [])) := c4.trans (by
            refine XS.icmpYes X0.here hexec rfl (pc0 := 21) rfl (hb hbytes d21) rfl (ii_eq_t hv) (by decide) rfl ?_
            refine iincV X0.here hexec rfl 1 (hb hbytes d26) (by decide) rfl rfl ?_
            refine XS.goto X0.here hexec rfl (pc0 := 29) rfl (hb hbytes d29) (by decide) rfl ?_
            exact Steps.refl _)
          rw [succ32] at c5
          exact ih (i + 1) (by omega) (fun j hj => by
            by_cases e : j = i
            · rw [e]; exact hv
            · exact he j (by omega)) c5
        · exact ⟨25, _, 0, Or.inl rfl, Or.inr ⟨rfl, fun q => hv (q.2 i (by omega))⟩, c4.trans (by
            refine XS.icmpNo X0.here hexec rfl (hb hbytes d21) rfl (ii_eq_f hv) ?_
            refine iconstV X0.here hexec rfl 0 (hb hbytes d24) (by decide) ?_
            exact Steps.refl _)⟩
    obtain ⟨pc, Ls, v, hpc, hv, cz⟩ := loop A.slots.size 0 (by omega) (fun j hj => absurd hj (Nat.not_lt_zero j)) c3
    have nv : narrow .boolean (.int v) = .int v := by rcases hv with ⟨rfl, -⟩ | ⟨rfl, -⟩ <;> rfl
    rcases hpc with rfl | rfl
    · exact ⟨s₁, some (.int v), _, _, _, X0, rfl, rfl, rfl, (fun h => by cases h), ⟨v, rfl, hh0, hv⟩, fun fs hl => cz.trans (X0.ireturnOut hexec hret nv (Or.inr (Or.inl rfl)) (hb hbytes d25) hl)⟩
    · exact ⟨s₁, some (.int v), _, _, _, X0, rfl, rfl, rfl, (fun h => by cases h), ⟨v, rfl, hh0, hv⟩, fun fs hl => cz.trans (X0.ireturnOut hexec hret nv (Or.inr (Or.inl rfl)) (hb hbytes d33) hl)⟩
  · have c3 : Steps p.tables e below (s₁.setTop (entryFrame m #[.ref a, .ref b] 3)) (s₁.setTop (mkF m 35 #[.val (.ref a), .val (.ref b), .unset] [.int 0])) := c2.trans (by
      refine XS.icmpYes X0.here hexec rfl (pc0 := 4) rfl (hb hbytes d4) rfl (ii_ne_t (ne32 a31 b31 hs)) (by decide) rfl ?_
      refine iconstV X0.here hexec rfl 0 (hb hbytes d34) (by decide) ?_
      exact Steps.refl _)
    exact ⟨s₁, some (.int 0), _, _, _, X0, rfl, rfl, rfl, (fun h => by cases h), ⟨0, rfl, hh0, Or.inr ⟨rfl, fun q => hs q.1⟩⟩, fun fs hl => c3.trans (X0.ireturnOut hexec hret rfl (Or.inr (Or.inl rfl)) (hb hbytes d35) hl)⟩
end LEq
theorem Cod.ty {cd : Int32} {n : Nat} {f : Nat → Int32} {V : Cell} (h : Cod cd n f V) : Typed .byte V := fun i v hv => by
  have hi : i < V.slots.size := (Array.getElem?_eq_some_iff.mp hv).1
  rcases h with ⟨-, k1, k2⟩ | ⟨-, k1, k2, -⟩
  · rw [(k2 i (by omega)).1] at hv; cases hv; exact fits_lo8 _
  · rcases Nat.mod_two_eq_zero_or_one i with e | e
    · obtain ⟨j, rfl⟩ : ∃ j, i = 2 * j := ⟨i / 2, by omega⟩
      rw [(k2 j (by omega)).1] at hv; cases hv; exact fits_lo8 _
    · obtain ⟨j, rfl⟩ : ∃ j, i = 2 * j + 1 := ⟨i / 2, by omega⟩
      rw [(k2 j (by omega)).2] at hv; cases hv; exact fits_lo8 _
/-- the same text -/
def SameT (n : Nat) (f : Nat → Int32) (k : Nat) (g : Nat → Int32) : Prop := n = k ∧ ∀ j, j < n → f j = g j
theorem lo8_inj {x y : Int32} (h0 : ¬ x < 0) (h1 : ¬ 255 < x) (k0 : ¬ y < 0) (k1 : ¬ 255 < y) (h : lo8 x = lo8 y) : x = y := by
  rw [← lo8_mask h0 h1, ← lo8_mask k0 k1, h]
/-- arrays coded by one coder are equal just where the texts are -/
theorem Cod.eqv {cd : Int32} {n k : Nat} {f g : Nat → Int32} {V V' : Cell} (h : Cod cd n f V) (h' : Cod cd k g V') (hf : ∀ j, j < n → ¬ f j < 0 ∧ ¬ 65535 < f j) (hg : ∀ j, j < k → ¬ g j < 0 ∧ ¬ 65535 < g j) : EqC V V' ↔ SameT n f k g := by
  have yvv : ∀ {W : Cell} {i : Nat} {x : Int32}, W.slots[i]? = some (.int x) → yv W i = x := fun q => by unfold yv; rw [q]
  rcases h with ⟨rfl, k1, k2⟩ | ⟨rfl, k1, k2, -⟩
  · rcases h' with ⟨-, m1, m2⟩ | ⟨e, -⟩
    · constructor
      · rintro ⟨e1, e2⟩
        refine ⟨by omega, fun j hj => ?_⟩
        have q := e2 j (by omega)
        rw [yvv (k2 j hj).1, yvv (m2 j (by omega)).1] at q
        exact lo8_inj (hf j hj).1 (k2 j hj).2 (hg j (by omega)).1 (m2 j (by omega)).2 q
      · rintro ⟨rfl, e2⟩
        refine ⟨by omega, fun j hj => ?_⟩
        rw [yvv (k2 j (by omega)).1, yvv (m2 j (by omega)).1, e2 j (by omega)]
    · exact absurd e (by decide)
  · rcases h' with ⟨e, -⟩ | ⟨-, m1, m2, -⟩
    · exact absurd e (by decide)
    · constructor
      · rintro ⟨e1, e2⟩
        refine ⟨by omega, fun j hj => ?_⟩
        have q1 := e2 (2 * j) (by omega)
        have q2 := e2 (2 * j + 1) (by omega)
        rw [yvv (k2 j hj).1, yvv (m2 j (by omega)).1] at q1
        rw [yvv (k2 j hj).2, yvv (m2 j (by omega)).2] at q2
        rw [← pair_says (hf j hj).1 (hf j hj).2, ← pair_says (hg j (by omega)).1 (hg j (by omega)).2, q1, q2]
      · rintro ⟨rfl, e2⟩
        refine ⟨by omega, fun i hi => ?_⟩
        rcases Nat.mod_two_eq_zero_or_one i with e | e
        · obtain ⟨j, rfl⟩ : ∃ j, i = 2 * j := ⟨i / 2, by omega⟩
          rw [yvv (k2 j (by omega)).1, yvv (m2 j (by omega)).1, e2 j (by omega)]
        · obtain ⟨j, rfl⟩ : ∃ j, i = 2 * j + 1 := ⟨i / 2, by omega⟩
          rw [yvv (k2 j (by omega)).2, yvv (m2 j (by omega)).2, e2 j (by omega)]
/-- two codings differ: so do the texts -/
theorem Cod.dif {cd cd' : Int32} {n k : Nat} {f g : Nat → Int32} {V V' : Cell} (h : Cod cd n f V) (h' : Cod cd' k g V') (hne : ¬ cd = cd') : ¬ SameT n f k g := by
  rintro ⟨rfl, e⟩
  rcases h with ⟨rfl, -, k2⟩ | ⟨rfl, -, -, j, hj, hw⟩
  · rcases h' with ⟨rfl, -⟩ | ⟨-, -, -, j, hj, hw⟩
    · exact hne rfl
    · exact (k2 j hj).2 (by rw [e j hj]; exact hw)
  · rcases h' with ⟨-, -, m2⟩ | ⟨rfl, -⟩
    · exact (m2 j hj).2 (by rw [← e j hj]; exact hw)
    · exact hne rfl
/-- an object of exactly C is an instance of C -/
theorem cinst {p : Program} {l : Launch} {e : Env} {R : Room} {s : State} {m : MethodId} {args : Array Value} {below : List Frame} {meth : Method} {c : Code} {T : State} {locs : List Loc} {cells slots : Nat} (X : Stand p l e R s m args below meth c T locs cells slots) (hexec : p.tables.exec = Jvm.exec) {own C : String} {index : Nat} (hown : s.vm.findClass own = some m.cls) (hlink : (Cond.classLink own index C).before args s = true) {a : Addr} (hE : Exact C a T)
    {g : JFrame} (hg : g.method = m) {rest : List Value} (hstack : g.stack = .ref a :: rest) (hdg : decode c.code g.pc = .ok (.instanceof index, 3)) :
    ∃ T', Stand p l e R s m args below meth c T' locs cells slots ∧ T'.heap = T.heap ∧ ∀ target, Steps p.tables e below (T'.setTop { g with pc := g.pc + 3, stack := .int 1 :: rest }) target → Steps p.tables e below (T.setTop g) target := by
  obtain ⟨cB, h1, D, h2, h3, h4⟩ := hE
  have h1' : s.vm.findClass C = some cB := by rw [← X.warmed.alike.findClass]; exact h1
  obtain ⟨vm', X', st⟩ := X.instanceofYes hexec hown hlink h2 h4 h1' (by rw [h3]; exact Jvm.Free.SB.assignable_self _ _) hg hstack hdg
  exact ⟨_, X', rfl, st⟩
theorem cself {p : Program} {l : Launch} {e : Env} {R : Room} {s : State} {m : MethodId} {args : Array Value} {below : List Frame} {meth : Method} {c : Code} {T : State} {locs : List Loc} {cells slots : Nat} (X : Stand p l e R s m args below meth c T locs cells slots) (hexec : p.tables.exec = Jvm.exec) {own C : String} {index : Nat} (hown : s.vm.findClass own = some m.cls) (hlink : (Cond.classLink own index C).before args s = true) {a : Addr} (hE : Exact C a T)
    {g : JFrame} (hg : g.method = m) {rest : List Value} (hstack : g.stack = .ref a :: rest) (hdg : decode c.code g.pc = .ok (.checkcast index, 3)) :
    ∃ T', Stand p l e R s m args below meth c T' locs cells slots ∧ T'.heap = T.heap ∧ ∀ target, Steps p.tables e below (T'.setTop { g with pc := g.pc + 3, stack := .ref a :: rest }) target → Steps p.tables e below (T.setTop g) target := by
  obtain ⟨cB, h1, D, h2, h3, h4⟩ := hE
  have h1' : s.vm.findClass C = some cB := by rw [← X.warmed.alike.findClass]; exact h1
  obtain ⟨vm', X', st⟩ := X.checkcastYes hexec hown hlink h2 h4 h1' (by rw [h3]; exact Jvm.Free.SB.assignable_self _ _) hg hstack hdg
  exact ⟨_, X', rfl, fun t h => st t (by rw [← hstack] at h; exact h)⟩
namespace SEq
def yN : MethodName := ⟨"java/lang/String", "equals", "(Ljava/lang/Object;)Z"⟩
abbrev yB : ByteArray := jdk_42_method_66_code
theorem d0 : decode yB 0 = .ok (.aload_n 0, 1) := by decide +kernel
theorem d1 : decode yB 1 = .ok (.aload_n 1, 1) := by decide +kernel
theorem d2 : decode yB 2 = .ok (.if_acmp (.ne) 5, 3) := by decide +kernel
theorem d5 : decode yB 5 = .ok (.iconst 1, 1) := by decide +kernel
theorem d6 : decode yB 6 = .ok (.ireturn, 1) := by decide +kernel
theorem d7 : decode yB 7 = .ok (.aload_n 1, 1) := by decide +kernel
theorem d8 : decode yB 8 = .ok (.instanceof 10, 3) := by decide +kernel
theorem d11 : decode yB 11 = .ok (.ifCond (.eq) 43, 3) := by decide +kernel
theorem d14 : decode yB 14 = .ok (.aload_n 1, 1) := by decide +kernel
theorem d15 : decode yB 15 = .ok (.checkcast 10, 3) := by decide +kernel
theorem d18 : decode yB 18 = .ok (.astore_n 2, 1) := by decide +kernel
theorem d19 : decode yB 19 = .ok (.getstatic 38, 3) := by decide +kernel
theorem d22 : decode yB 22 = .ok (.ifCond (.eq) 14, 3) := by decide +kernel
theorem d25 : decode yB 25 = .ok (.aload_n 0, 1) := by decide +kernel
theorem d26 : decode yB 26 = .ok (.getfield 15, 3) := by decide +kernel
theorem d29 : decode yB 29 = .ok (.aload_n 2, 1) := by decide +kernel
theorem d30 : decode yB 30 = .ok (.getfield 15, 3) := by decide +kernel
theorem d33 : decode yB 33 = .ok (.if_icmp (.ne) 21, 3) := by decide +kernel
theorem d36 : decode yB 36 = .ok (.aload_n 0, 1) := by decide +kernel
theorem d37 : decode yB 37 = .ok (.getfield 9, 3) := by decide +kernel
theorem d40 : decode yB 40 = .ok (.aload_n 2, 1) := by decide +kernel
theorem d41 : decode yB 41 = .ok (.getfield 9, 3) := by decide +kernel
theorem d44 : decode yB 44 = .ok (.invokestatic 541, 3) := by decide +kernel
theorem d47 : decode yB 47 = .ok (.ifCond (.eq) 7, 3) := by decide +kernel
theorem d50 : decode yB 50 = .ok (.iconst 1, 1) := by decide +kernel
theorem d51 : decode yB 51 = .ok (.goto 4, 3) := by decide +kernel
theorem d54 : decode yB 54 = .ok (.iconst 0, 1) := by decide +kernel
theorem d55 : decode yB 55 = .ok (.ireturn, 1) := by decide +kernel
def site : List Cond := [.classLink "java/lang/String" 10 "java/lang/String", .fieldLink "java/lang/String" 38 "java/lang/String" "COMPACT_STRINGS" "Z", .fieldLink "java/lang/String" 15 "java/lang/String" "coder" "B", .fieldLink "java/lang/String" 9 "java/lang/String" "value" "[B", LEq.tab] ++ staticW "java/lang/String" 541 LEq.yN
def tab : Cond := tabOf yN yB 3 (some .boolean) site
def P (x t : Addr) (V : Cell) (cd : Int32) (n : Nat) (f : Nat → Int32) (y t' : Addr) (V' : Cell) (cd' : Int32) (k : Nat) (g : Nat → Int32) (z : Int32) (args : Array Value) (s : State) : Prop := args = #[.ref x, .ref y] ∧ Txt x t V cd n f s ∧ Txt y t' V' cd' k g s ∧ StaticIs s "java/lang/String" "COMPACT_STRINGS" "Z" (.int z) ∧ ¬ z = 0
/-- equals(Object) of two Strings: whether the texts are the same -/
theorem law (l : Launch) (x t : Addr) (V : Cell) (cd : Int32) (n : Nat) (f : Nat → Int32) (y t' : Addr) (V' : Cell) (cd' : Int32) (k : Nat) (g : Nat → Int32) (z : Int32) : Law l yN 2 1 1 14 yB 3 (some .boolean) site (P x t V cd n f y t' V' cd' k g z) (Says01 (SameT n f k g)) [] 0 0 := by
  refine Law.of_walk (plainFor_of_name (by decide +kernel)) (by decide +kernel) (by decide +kernel) (by decide) (fun _ _ h => by rw [h.1]; rfl) (fun _ U U' hal hh h => ⟨h.1, h.2.1.mv hal hh, h.2.2.1.mv hal hh, h.2.2.2.1.there hal hh, h.2.2.2.2⟩) (fun r U U' V V' h1 hal h2 h => Says01.mv r U U' V V' h1 hal h2 h) ?_
  intro p e s m args below meth c s₁ X0 hexec hbytes hml hret hlk hnm hown hh0 W hP
  obtain ⟨rfl, hx, hy, s1, hz⟩ := hP
  have c1 : Steps p.tables e below (s₁.setTop (entryFrame m #[.ref x, .ref y] 3)) (s₁.setTop (mkF m 2 #[.val (.ref x), .val (.ref y), .unset] [.ref y, .ref x])) := Steps.trans (entry rfl) (by
    show Steps p.tables e below (s₁.setTop (mkF m 0 #[.val (.ref x), .val (.ref y), .unset] [])) _
    refine XS.aloadN X0.here hexec rfl (hb hbytes d0) rfl rfl ?_
    refine XS.aloadN X0.here hexec rfl (hb hbytes d1) rfl rfl ?_
    exact Steps.refl _)
  by_cases hxy : x = y
  · have c2 : Steps p.tables e below (s₁.setTop (entryFrame m #[.ref x, .ref y] 3)) (s₁.setTop (mkF m 6 #[.val (.ref x), .val (.ref y), .unset] [.int 1])) := c1.trans (by
      refine acmpNo X0.here hexec rfl (hb hbytes d2) rfl rfl rfl (by simp [acmp, hxy]) ?_
      refine iconstV X0.here hexec rfl 1 (hb hbytes d5) (by decide) ?_
      exact Steps.refl _)
    subst hxy
    have ec : cd = cd' := by
      obtain ⟨D, fd, a1, a2, a3⟩ := hx.2.2.1
      obtain ⟨D', fd', b1, b2, b3⟩ := hy.2.2.1
      cases a1.symm.trans b1
      obtain ⟨q1, q2, q3, q4⟩ := a2.1
      obtain ⟨r1, r2, r3, r4⟩ := b2.1
      cases q4.symm.trans r4
      cases a3.symm.trans b3; rfl
    have et : t = t' := by
      obtain ⟨D, fd, a1, a2, a3⟩ := hx.2.1
      obtain ⟨D', fd', b1, b2, b3⟩ := hy.2.1
      cases a1.symm.trans b1
      obtain ⟨q1, q2, q3, q4⟩ := a2.1
      obtain ⟨r1, r2, r3, r4⟩ := b2.1
      cases q4.symm.trans r4
      cases a3.symm.trans b3; rfl
    subst ec et
    have ev : V = V' := by cases hx.2.2.2.1.1.symm.trans hy.2.2.2.1.1; rfl
    subst ev
    have hs : SameT n f k g := (Cod.eqv hx.2.2.2.2.1 hy.2.2.2.2.1 hx.2.2.2.2.2 hy.2.2.2.2.2).mp ⟨rfl, fun _ _ => rfl⟩
    exact ⟨s₁, some (.int 1), _, _, _, X0, rfl, rfl, rfl, (fun h => by cases h), ⟨1, rfl, hh0, Or.inl ⟨rfl, hs⟩⟩, fun fs hl => c2.trans (X0.ireturnOut hexec hret rfl (Or.inr (Or.inl rfl)) (hb hbytes d6) hl)⟩
  · have c2 : Steps p.tables e below (s₁.setTop (entryFrame m #[.ref x, .ref y] 3)) (s₁.setTop (mkF m 8 #[.val (.ref x), .val (.ref y), .unset] [.ref y])) := c1.trans (by
      refine acmpYes X0.here hexec rfl (pc0 := 2) rfl (hb hbytes d2) rfl rfl rfl (by simp [acmp, hxy]) (by decide) rfl ?_
      refine XS.aloadN X0.here hexec rfl (hb hbytes d7) rfl rfl ?_
      exact Steps.refl _)
    obtain ⟨T3, X3, q3, st3⟩ := cinst X0 hexec hown (wk W (.classLink "java/lang/String" 10 "java/lang/String")) (hy.mv X0.warmed.alike hh0).1 (g := (mkF m 8 #[.val (.ref x), .val (.ref y), .unset] [.ref y])) rfl (rest := []) rfl (hb hbytes d8)
    have hh3 := q3.trans hh0
    have c4 : Steps p.tables e below (s₁.setTop (entryFrame m #[.ref x, .ref y] 3)) (T3.setTop (mkF m 15 #[.val (.ref x), .val (.ref y), .unset] [.ref y])) := (c2.trans (st3 _ (Steps.refl _))).trans (by
      refine XS.ifNo X3.here hexec rfl (hb hbytes d11) rfl (i0_eq_f (by decide)) ?_
      refine XS.aloadN X3.here hexec rfl (hb hbytes d14) rfl rfl ?_
      exact Steps.refl _)
    obtain ⟨T5, X5, q5, st5⟩ := cself X3 hexec hown (wk W (.classLink "java/lang/String" 10 "java/lang/String")) (hy.mv X3.warmed.alike hh3).1 (g := (mkF m 15 #[.val (.ref x), .val (.ref y), .unset] [.ref y])) rfl (rest := []) rfl (hb hbytes d15)
    have hh5 := q5.trans hh3
    have c6 : Steps p.tables e below (s₁.setTop (entryFrame m #[.ref x, .ref y] 3)) (T5.setTop (mkF m 19 #[.val (.ref x), .val (.ref y), .val (.ref y)] [])) := (c4.trans (st5 _ (Steps.refl _))).trans (by
      refine XS.astoreN X5.here hexec rfl (hb hbytes d18) rfl rfl rfl ?_
      exact Steps.refl _)
    obtain ⟨T7, X7, q7, st7⟩ := X5.sget hexec hown (wk W (.fieldLink "java/lang/String" 38 "java/lang/String" "COMPACT_STRINGS" "Z")) s1 (fun _ _ h => by rw [hh5]; exact h) (g := (mkF m 19 #[.val (.ref x), .val (.ref y), .val (.ref y)] [])) rfl (hb hbytes d19)
    have hh7 := q7.trans hh5
    have c8 : Steps p.tables e below (s₁.setTop (entryFrame m #[.ref x, .ref y] 3)) (T7.setTop (mkF m 26 #[.val (.ref x), .val (.ref y), .val (.ref y)] [.ref x])) := (c6.trans (st7 _ (Steps.refl _))).trans (by
      refine XS.ifNo X7.here hexec rfl (hb hbytes d22) rfl (i0_eq_f hz) ?_
      refine XS.aloadN X7.here hexec rfl (hb hbytes d25) rfl rfl ?_
      exact Steps.refl _)
    obtain ⟨T9, X9, q9, st9⟩ := X7.hget hexec hown (wk W (.fieldLink "java/lang/String" 15 "java/lang/String" "coder" "B")) (hx.mv X7.warmed.alike hh7).2.2.1 (g := (mkF m 26 #[.val (.ref x), .val (.ref y), .val (.ref y)] [.ref x])) rfl (rest := []) rfl (hb hbytes d26)
    have hh9 := q9.trans hh7
    have c10 : Steps p.tables e below (s₁.setTop (entryFrame m #[.ref x, .ref y] 3)) (T9.setTop (mkF m 30 #[.val (.ref x), .val (.ref y), .val (.ref y)] [.ref y, .int cd])) := (c8.trans (st9 _ (Steps.refl _))).trans (by
      refine XS.aloadN X9.here hexec rfl (hb hbytes d29) rfl rfl ?_
      exact Steps.refl _)
    obtain ⟨T11, X11, q11, st11⟩ := X9.hget hexec hown (wk W (.fieldLink "java/lang/String" 15 "java/lang/String" "coder" "B")) (hy.mv X9.warmed.alike hh9).2.2.1 (g := (mkF m 30 #[.val (.ref x), .val (.ref y), .val (.ref y)] [.ref y, .int cd])) rfl (rest := [.int cd]) rfl (hb hbytes d30)
    have hh11 := q11.trans hh9
    have c12 : Steps p.tables e below (s₁.setTop (entryFrame m #[.ref x, .ref y] 3)) (T11.setTop (mkF m 33 #[.val (.ref x), .val (.ref y), .val (.ref y)] [.int cd', .int cd])) := c10.trans (st11 _ (Steps.refl _))
    by_cases hcd : cd = cd'
    · subst hcd
      have c13 : Steps p.tables e below (s₁.setTop (entryFrame m #[.ref x, .ref y] 3)) (T11.setTop (mkF m 37 #[.val (.ref x), .val (.ref y), .val (.ref y)] [.ref x])) := c12.trans (by
        refine XS.icmpNo X11.here hexec rfl (hb hbytes d33) rfl (ii_ne_f rfl) ?_
        refine XS.aloadN X11.here hexec rfl (hb hbytes d36) rfl rfl ?_
        exact Steps.refl _)
      obtain ⟨T14, X14, q14, st14⟩ := X11.hget hexec hown (wk W (.fieldLink "java/lang/String" 9 "java/lang/String" "value" "[B")) (hx.mv X11.warmed.alike hh11).2.1 (g := (mkF m 37 #[.val (.ref x), .val (.ref y), .val (.ref y)] [.ref x])) rfl (rest := []) rfl (hb hbytes d37)
      have hh14 := q14.trans hh11
      have c15 : Steps p.tables e below (s₁.setTop (entryFrame m #[.ref x, .ref y] 3)) (T14.setTop (mkF m 41 #[.val (.ref x), .val (.ref y), .val (.ref y)] [.ref y, .ref t])) := (c13.trans (st14 _ (Steps.refl _))).trans (by
        refine XS.aloadN X14.here hexec rfl (hb hbytes d40) rfl rfl ?_
        exact Steps.refl _)
      obtain ⟨T16, X16, q16, st16⟩ := X14.hget hexec hown (wk W (.fieldLink "java/lang/String" 9 "java/lang/String" "value" "[B")) (hy.mv X14.warmed.alike hh14).2.1 (g := (mkF m 41 #[.val (.ref x), .val (.ref y), .val (.ref y)] [.ref y, .ref t])) rfl (rest := [.ref t]) rfl (hb hbytes d41)
      have hh16 := q16.trans hh14
      have c17 : Steps p.tables e below (s₁.setTop (entryFrame m #[.ref x, .ref y] 3)) (T16.setTop (mkF m 44 #[.val (.ref x), .val (.ref y), .val (.ref y)] [.ref t', .ref t])) := c15.trans (st16 _ (Steps.refl _))
      obtain ⟨v18, T18, X18, E18, g18⟩ := X16.callS hexec (LEq.law l t V t' V') hown (wks W (staticW "java/lang/String" 541 LEq.yN)) (wk W LEq.tab) (W := 0) (Nat.le_of_ble_eq_true rfl) (Nat.le_of_ble_eq_true rfl) (Nat.le_refl _) (Nat.le_refl _) (g := (mkF m 44 #[.val (.ref x), .val (.ref y), .val (.ref y)] [.ref t', .ref t])) rfl (by rw [hml]; rfl) c17 (argsL := [.ref t, .ref t']) (rest := []) rfl rfl (by show 2 * 0 + 0 ≤ _; decide) (hb hbytes d44) (⟨rfl, hx.2.2.2.1.mv X16.warmed.alike hh16, hx.2.2.2.2.1.ty, hy.2.2.2.1.mv X16.warmed.alike hh16, hy.2.2.2.2.1.ty⟩)
      obtain ⟨v, rfl, q18, hv⟩ := E18
      have iff := Cod.eqv hx.2.2.2.2.1 hy.2.2.2.2.1 hx.2.2.2.2.2 hy.2.2.2.2.2
      rcases hv with ⟨rfl, he⟩ | ⟨rfl, he⟩
      · have c19 : Steps p.tables e below (s₁.setTop (entryFrame m #[.ref x, .ref y] 3)) (T18.setTop (mkF m 55 #[.val (.ref x), .val (.ref y), .val (.ref y)] [.int 1])) := Steps.trans g18 (by
          refine XS.ifNo X18.here hexec rfl (hb hbytes d47) rfl (i0_eq_f (by decide)) ?_
          refine iconstV X18.here hexec rfl 1 (hb hbytes d50) (by decide) ?_
          refine XS.goto X18.here hexec rfl (pc0 := 51) rfl (hb hbytes d51) (by decide) rfl ?_
          exact Steps.refl _)
        exact ⟨T18, some (.int 1), _, _, _, X18, rfl, rfl, rfl, (fun h => by cases h), ⟨1, rfl, q18.trans hh16, Or.inl ⟨rfl, iff.mp he⟩⟩, fun fs hl => c19.trans (X18.ireturnOut hexec hret rfl (Or.inr (Or.inl rfl)) (hb hbytes d55) hl)⟩
      · have c19 : Steps p.tables e below (s₁.setTop (entryFrame m #[.ref x, .ref y] 3)) (T18.setTop (mkF m 55 #[.val (.ref x), .val (.ref y), .val (.ref y)] [.int 0])) := Steps.trans g18 (by
          refine XS.ifYes X18.here hexec rfl (pc0 := 47) rfl (hb hbytes d47) rfl (i0_eq_t rfl) (by decide) rfl ?_
          refine iconstV X18.here hexec rfl 0 (hb hbytes d54) (by decide) ?_
          exact Steps.refl _)
        exact ⟨T18, some (.int 0), _, _, _, X18, rfl, rfl, rfl, (fun h => by cases h), ⟨0, rfl, q18.trans hh16, Or.inr ⟨rfl, fun q => he (iff.mpr q)⟩⟩, fun fs hl => c19.trans (X18.ireturnOut hexec hret rfl (Or.inr (Or.inl rfl)) (hb hbytes d55) hl)⟩
    · have c13 : Steps p.tables e below (s₁.setTop (entryFrame m #[.ref x, .ref y] 3)) (T11.setTop (mkF m 55 #[.val (.ref x), .val (.ref y), .val (.ref y)] [.int 0])) := c12.trans (by
        refine XS.icmpYes X11.here hexec rfl (pc0 := 33) rfl (hb hbytes d33) rfl (ii_ne_t hcd) (by decide) rfl ?_
        refine iconstV X11.here hexec rfl 0 (hb hbytes d54) (by decide) ?_
        exact Steps.refl _)
      exact ⟨T11, some (.int 0), _, _, _, X11, rfl, rfl, rfl, (fun h => by cases h), ⟨0, rfl, hh11, Or.inr ⟨rfl, Cod.dif hx.2.2.2.2.1 hy.2.2.2.2.1 hcd⟩⟩, fun fs hl => c13.trans (X11.ireturnOut hexec hret rfl (Or.inr (Or.inl rfl)) (hb hbytes d55) hl)⟩
theorem pays {l : Launch} {R : Room} {p : Program} {e : Env} {below : List Frame} {s : State} {sargs : Array Value} {len W : Nat} (x t : Addr) (V : Cell) (cd : Int32) (n : Nat) (f : Nat → Int32) (y t' : Addr) (V' : Cell) (cd' : Int32) (k : Nat) (g : Nat → Int32) (z : Int32) (htab : tab.before sargs s = true) (hfr : 2 ≤ R.frames) (hlo : W + 28 ≤ R.locals) :
    Back l R p e below s sargs yN len W (fun A₁ a₁ => A₁.cells + 0 ≤ R.cells ∧ A₁.slots + 0 ≤ R.slots ∧ P x t V cd n f y t' V' cd' k g z a₁ A₁.U) (fun A₁ _ v₁ B₁ => Says01 (SameT n f k g) v₁ A₁.U B₁.U ∧ B₁.locs = A₁.locs ++ [] ∧ B₁.cells = A₁.cells + 0 ∧ B₁.slots = A₁.slots + 0) :=
  (law l x t V cd n f y t' V' cd' k g z).pays htab hfr (by omega)
end SEq
end StrChars
namespace StrChars.Road
open Jvm Sem ClassFile Op Lib Jvm.Stand Jvm.Free Jvm.Free.XT
open Jvm.Lib.Cold (StaticIs)
/-- the words of String.isEmpty() -/
abbrev wordsEmp : List Jvm.Cond := [.code Emp.yN Emp.yB 1 (some .boolean), .initialized ST, .fieldLink ST 9 ST "value" "[B"]
theorem tabEmp_of {a : Array Value} {s : State} (h : ∀ w ∈ wordsEmp, w.before a s = true) : Emp.tab.before a s = true := unparts (wk h (.code Emp.yN Emp.yB 1 (some .boolean))) (wks h (.initialized Emp.yN.cls :: Emp.site))
theorem movedEmp {Z s : State} {a0 args : Array Value} (hZ : Z.Warmed39 s.vm) (hw : ∀ d ∈ wordsEmp, d.before a0 Z = true) : ∀ d ∈ wordsEmp, d.before args s = true := fun d hd => by
  have t : ∀ d ∈ wordsEmp, (d.onTables && d.keepsFace) = true := by decide +kernel
  exact RoadKit.mv hZ (hw d hd) (t d hd)
/-- the words of String.equals(Object) -/
abbrev wordsEq : List Jvm.Cond := [.code SEq.yN SEq.yB 3 (some .boolean), .initialized ST, .classLink ST 10 ST, .fieldLink ST 38 ST "COMPACT_STRINGS" "Z", .fieldLink ST 15 ST "coder" "B", .fieldLink ST 9 ST "value" "[B", .methodLink ST 541 LEq.yN, .static LEq.yN, .code LEq.yN LEq.yB 3 (some .boolean), .initialized "java/lang/StringLatin1"]
theorem tabEq_of {a : Array Value} {s : State} (h : ∀ w ∈ wordsEq, w.before a s = true) : SEq.tab.before a s = true := by
  have hl : LEq.tab.before a s = true := unparts (wk h (.code LEq.yN LEq.yB 3 (some .boolean))) (wks h (.initialized LEq.yN.cls :: LEq.site))
  have q := consq hl h
  exact unparts (wk q (.code SEq.yN SEq.yB 3 (some .boolean))) (wks q (.initialized SEq.yN.cls :: SEq.site))
theorem movedEq {Z s : State} {a0 args : Array Value} (hZ : Z.Warmed39 s.vm) (hw : ∀ d ∈ wordsEq, d.before a0 Z = true) : ∀ d ∈ wordsEq, d.before args s = true := fun d hd => by
  have t : ∀ d ∈ wordsEq, (d.onTables && d.keepsFace) = true := by decide +kernel
  exact RoadKit.mv hZ (hw d hd) (t d hd)
/-- the road's facts of a String, as the laws ask it -/
theorem txt_of {Z U : State} {a0 : Array Value} {kI : Nat} (wi : (Jvm.Cond.instantiable ST kI).before a0 Z = true) (al : Z.vm.Alike U.vm) {x t : Addr} {kb : ClassId} {cs : List Int32} {cd N2 : Int32} {vs : List Value} (E : RoadKit.Exa Z U.heap x ST) (V : RoadKit.Fld Z U.heap x ST "value" "[B" (.ref t)) (C : RoadKit.Fld Z U.heap x ST "coder" "B" (.int cd)) (K : RoadKit.Arv Z U.heap t kb .byte N2 vs (.int 0)) (hc : CodA cs cd N2 vs) (hb : ∀ c ∈ cs, ¬ c < 0 ∧ ¬ (65535 : Int32) < c) (l2 : cs.length ≤ 4000) :
    ∃ A, Txt x t A cd cs.length (fun j => cs.getD j 0) U := by
  obtain ⟨A, K1, K2, K3, K4, K5, K6⟩ := K
  have hcod := hc.cod (by omega) K3 K5
  obtain ⟨D, fV, fC, hB, F1, F2, g1, g2, -, -⟩ := strObj wi al E V C
  exact ⟨A, ⟨_, hB.2.2.1, D, hB.1, rfl, by cases q : D.vm <;> first | rfl | exact absurd q (hB.2.1.2 _)⟩, Has.of hB F1 g1, Has.of hB F2 g2, ⟨K1.1, State.isArrayOf_alike al K1.2.1, K1.2.2, by rcases hcod with ⟨-, q, -⟩ | ⟨-, q, -⟩ <;> omega⟩, hcod, fun j hj => by
    have e : cs.getD j 0 = cs[j] := by simp [List.getD_eq_getElem?_getD, hj]
    show ¬ cs.getD j 0 < 0 ∧ ¬ 65535 < cs.getD j 0
    rw [e]; exact hb _ (List.getElem_mem _)⟩
theorem same_list (cs ds : List Int32) : SameT cs.length (fun j => cs.getD j 0) ds.length (fun j => ds.getD j 0) ↔ cs = ds := by
  constructor
  · rintro ⟨e, q⟩
    refine List.ext_getElem e fun j h1 h2 => ?_
    have := q j h1
    simpa [List.getD_eq_getElem?_getD, h1, h2] using this
  · rintro rfl
    exact ⟨rfl, fun _ _ => rfl⟩
/-- **isEmpty() OF SUCH A STRING** -/
theorem empW {p : Program} {l : Launch} {e : Env} {R : Room} {s : State} {args : Array Value} {below : List Frame} {len W : Nat} {Z : State} {a0 : Array Value} {h : Heap} (hZ : Z.Warmed39 s.vm) (hw : ∀ d ∈ wordsEmp, d.before a0 Z = true) {kI : Nat} (wi : (Jvm.Cond.instantiable ST kI).before a0 Z = true)
    {x t : Addr} {kb : ClassId} {cs : List Int32} {cd N2 : Int32} {vs : List Value} (E : RoadKit.Exa Z h x ST) (V : RoadKit.Fld Z h x ST "value" "[B" (.ref t)) (C : RoadKit.Fld Z h x ST "coder" "B" (.int cd)) (K : RoadKit.Arv Z h t kb .byte N2 vs (.int 0)) (hc : CodA cs cd N2 vs) (hb : ∀ c ∈ cs, ¬ c < 0 ∧ ¬ (65535 : Int32) < c) (l2 : cs.length ≤ 4000) (hfr : 1 ≤ R.frames) (hlo : W + 12 ≤ R.locals) :
    Back l R p e below s args (⟨"java/lang/String", "isEmpty", "()Z"⟩ : MethodName) len W (fun P a => a = #[.ref x] ∧ P.U.heap = h ∧ P.cells + 0 ≤ R.cells ∧ P.slots + 0 ≤ R.slots)
      (fun P _ v B => ∃ L, (v = some (.int (if cs.length = 0 then 1 else 0)) ∧ L = [] ∧ B.U.heap = h) ∧ B.locs = P.locs ++ L ∧ B.cells = P.cells + 0 ∧ B.slots = P.slots + 0) := by
  intro m meth c P g ig mk a X hg hsize hdg hW hn hp'
  obtain ⟨rfl, rfl, r1, r2⟩ := hp'
  have al : Z.vm.Alike P.U.vm := hZ.alike.trans X.warmed.alike
  obtain ⟨A, hx⟩ := txt_of wi al E V C K hc hb l2
  obtain ⟨v, B, X', ⟨⟨hv, hh⟩, hl, hk, hs⟩, st⟩ := Emp.pays x t A cd cs.length (fun j => cs.getD j 0) (tabEmp_of (movedEmp hZ hw)) hfr hlo m meth c P g ig mk _ X hg hsize hdg hW hn ⟨r1, r2, rfl, hx⟩
  exact ⟨v, B, X', ⟨[], ⟨hv, rfl, hh⟩, hl, hk, hs⟩, st⟩
/-- **equals(Object) OF TWO SUCH STRINGS**: 1 just where the chars are the same -/
theorem eqW {p : Program} {l : Launch} {e : Env} {R : Room} {s : State} {args : Array Value} {below : List Frame} {len W : Nat} {Z : State} {a0 : Array Value} {h : Heap} (hZ : Z.Warmed39 s.vm) (hw : ∀ d ∈ wordsEq, d.before a0 Z = true) {kI : Nat} (wi : (Jvm.Cond.instantiable ST kI).before a0 Z = true)
    {x t : Addr} {kb : ClassId} {cs : List Int32} {cd N2 : Int32} {vs : List Value} (E : RoadKit.Exa Z h x ST) (V : RoadKit.Fld Z h x ST "value" "[B" (.ref t)) (C : RoadKit.Fld Z h x ST "coder" "B" (.int cd)) (K : RoadKit.Arv Z h t kb .byte N2 vs (.int 0)) (hc : CodA cs cd N2 vs) (hb : ∀ c ∈ cs, ¬ c < 0 ∧ ¬ (65535 : Int32) < c) (l2 : cs.length ≤ 4000)
    {y t' : Addr} {kb' : ClassId} {ds : List Int32} {cd' N2' : Int32} {vs' : List Value} (E' : RoadKit.Exa Z h y ST) (V' : RoadKit.Fld Z h y ST "value" "[B" (.ref t')) (C' : RoadKit.Fld Z h y ST "coder" "B" (.int cd')) (K' : RoadKit.Arv Z h t' kb' .byte N2' vs' (.int 0)) (hc' : CodA ds cd' N2' vs') (hb' : ∀ c ∈ ds, ¬ c < 0 ∧ ¬ (65535 : Int32) < c) (l2' : ds.length ≤ 4000)
    {z : Int32} (S : RoadKit.Sta Z h ST "COMPACT_STRINGS" "Z" (.int z)) (hz : ¬ z = 0) (hfr : 2 ≤ R.frames) (hlo : W + 28 ≤ R.locals) :
    Back l R p e below s args (⟨"java/lang/String", "equals", "(Ljava/lang/Object;)Z"⟩ : MethodName) len W (fun P a => a = #[.ref x, .ref y] ∧ P.U.heap = h ∧ P.cells + 0 ≤ R.cells ∧ P.slots + 0 ≤ R.slots)
      (fun P _ v B => ∃ L, (((v = some (.int 1) ∧ cs = ds) ∨ (v = some (.int 0) ∧ ¬ cs = ds)) ∧ L = [] ∧ B.U.heap = h) ∧ B.locs = P.locs ++ L ∧ B.cells = P.cells + 0 ∧ B.slots = P.slots + 0) := by
  intro m meth c P g ig mk a X hg hsize hdg hW hn hp'
  obtain ⟨rfl, rfl, r1, r2⟩ := hp'
  have al : Z.vm.Alike P.U.vm := hZ.alike.trans X.warmed.alike
  obtain ⟨A, hx⟩ := txt_of wi al E V C K hc hb l2
  obtain ⟨A', hy⟩ := txt_of wi al E' V' C' K' hc' hb' l2'
  obtain ⟨v, B, X', ⟨⟨w, hv, hh, hq⟩, hl, hk, hs⟩, st⟩ := SEq.pays x t A cd cs.length (fun j => cs.getD j 0) y t' A' cd' ds.length (fun j => ds.getD j 0) z (tabEq_of (movedEq hZ hw)) hfr hlo m meth c P g ig mk _ X hg hsize hdg hW hn ⟨r1, r2, rfl, hx, hy, sta_is al S, hz⟩
  refine ⟨v, B, X', ⟨[], ⟨?_, rfl, hh⟩, hl, hk, hs⟩, st⟩
  rcases hq with ⟨rfl, q⟩ | ⟨rfl, q⟩
  · exact Or.inl ⟨hv, (same_list cs ds).mp q⟩
  · exact Or.inr ⟨hv, fun e => q ((same_list cs ds).mpr e)⟩
end StrChars.Road
namespace StrChars
open Jvm Sem ClassFile Op Lib Jvm.Stand Jvm.Free.XT Jvm.Free.ALB Jvm.Free.JM Jvm.Free
open Jvm.Lib.Cold (StaticIs)
namespace ChN
def yN : MethodName := ⟨"java/lang/String", "charAt", "(I)C"⟩
abbrev yB : ByteArray := jdk_42_method_56_code
theorem d0 : decode yB 0 = .ok (.aload_n 0, 1) := by decide +kernel
theorem d1 : decode yB 1 = .ok (.invokevirtual 492, 3) := by decide +kernel
theorem d4 : decode yB 4 = .ok (.ifCond (.eq) 12, 3) := by decide +kernel
theorem d7 : decode yB 7 = .ok (.aload_n 0, 1) := by decide +kernel
theorem d8 : decode yB 8 = .ok (.getfield 9, 3) := by decide +kernel
theorem d11 : decode yB 11 = .ok (.iload_n 1, 1) := by decide +kernel
theorem d12 : decode yB 12 = .ok (.invokestatic 495, 3) := by decide +kernel
theorem d15 : decode yB 15 = .ok (.ireturn, 1) := by decide +kernel
def site : List Cond := [.fieldLink "java/lang/String" 9 "java/lang/String" "value" "[B", IsL.tab, LChA.tab] ++ virtW "java/lang/String" 492 "java/lang/String" IsL.yN IsL.yN ++ staticW "java/lang/String" 495 LChA.yN
def tab : Cond := tabOf yN yB 2 (some .char) site
def P (x t : Addr) (V : Cell) (n : Nat) (f : Nat → Int32) (z : Int32) (fm : Value) (i : Nat) (args : Array Value) (s : State) : Prop := args = #[.ref x, .int (Int32.ofNat i)] ∧ Txt x t V 0 n f s ∧ i < n ∧ StaticIs s "java/lang/String" "COMPACT_STRINGS" "Z" (.int z) ∧ ¬ z = 0 ∧ StaticIs s "jdk/internal/util/Preconditions" "SIOOBE_FORMATTER" "Ljava/util/function/BiFunction;" fm ∧ fm.isRef = true
def E (f : Nat → Int32) (i : Nat) (r : Option Value) (s u : State) : Prop := XT.PureE (some (.int (f i))) r s u
/-- charAt(i) of a Latin-1 String of n chars, i < n: f i -/
theorem law (l : Launch) (x t : Addr) (V : Cell) (n : Nat) (f : Nat → Int32) (z : Int32) (fm : Value) (i : Nat) : Law l yN 2 1 3 40 yB 2 (some .char) site (P x t V n f z fm i) (E f i) [] 0 0 := by
  refine Law.of_walk (plainFor_of_name (by decide +kernel)) (by decide +kernel) (by decide +kernel) (by decide) (fun _ _ h => by rw [h.1]; rfl) (fun _ U U' hal hh h => ⟨h.1, h.2.1.mv hal hh, h.2.2.1, h.2.2.2.1.there hal hh, h.2.2.2.2.1, h.2.2.2.2.2.1.there hal hh, h.2.2.2.2.2.2⟩) (fun r U U' V V' h1 hal h2 h => XT.PureE.mv r U U' V V' h1 hal h2 h) ?_
  intro p e s m args below meth c s₁ X0 hexec hbytes hml hret hlk hnm hown hh0 W hP
  obtain ⟨rfl, hx, hi, s1, hz, s3, rf⟩ := hP
  have v31 := hx.2.2.2.1.2.2.2
  have hr := hx.2.2.2.2.2 i hi
  have hx0 := hx.mv X0.warmed.alike hh0
  have c1 : Steps p.tables e below (s₁.setTop (entryFrame m #[.ref x, .int (Int32.ofNat i)] 2)) (s₁.setTop (mkF m 1 #[.val (.ref x), .val (.int (Int32.ofNat i))] [.ref x])) := Steps.trans (entry rfl) (by
    show Steps p.tables e below (s₁.setTop (mkF m 0 #[.val (.ref x), .val (.int (Int32.ofNat i))] [])) _
    refine XS.aloadN X0.here hexec rfl (hb hbytes d0) rfl rfl ?_
    exact Steps.refl _)
  obtain ⟨v2, T2, X2, E2, g2⟩ := X0.callV hexec (IsL.law l x 0 z) hown (wks W (virtW "java/lang/String" 492 "java/lang/String" IsL.yN IsL.yN)) rfl (by decide) (wk W IsL.tab) (W := 0) (Nat.le_of_ble_eq_true rfl) (Nat.le_of_ble_eq_true rfl) (Nat.le_refl _) (Nat.le_refl _) (hx0.1.fc X0.warmed.alike) hx0.1.is (g := (mkF m 1 #[.val (.ref x), .val (.int (Int32.ofNat i))] [.ref x])) rfl (by rw [hml]; rfl) c1 (argsL := []) (rest := []) rfl rfl (by show 2 * 0 + 0 ≤ _; decide) (hb hbytes d1) (⟨rfl, hx0.2.2.1, hx.2.2.2.2.1.cd, s1.there X0.warmed.alike hh0, hz⟩)
  obtain ⟨rfl, q2⟩ := E2
  have hh2 := q2.trans hh0
  have hx2 := hx.mv X2.warmed.alike hh2
  obtain ⟨-, k1, k2⟩ | ⟨k0, -⟩ := hx.2.2.2.2.1
  · have c3 : Steps p.tables e below (s₁.setTop (entryFrame m #[.ref x, .int (Int32.ofNat i)] 2)) (T2.setTop (mkF m 8 #[.val (.ref x), .val (.int (Int32.ofNat i))] [.ref x])) := Steps.trans g2 (by
      refine XS.ifNo X2.here hexec rfl (hb hbytes d4) rfl (i0_eq_f (by decide)) ?_
      refine XS.aloadN X2.here hexec rfl (hb hbytes d7) rfl rfl ?_
      exact Steps.refl _)
    obtain ⟨T4, X4, q4, st4⟩ := X2.hget hexec hown (wk W (.fieldLink "java/lang/String" 9 "java/lang/String" "value" "[B")) hx2.2.1 (g := (mkF m 8 #[.val (.ref x), .val (.int (Int32.ofNat i))] [.ref x])) rfl (rest := []) rfl (hb hbytes d8)
    have hh4 := q4.trans hh2
    have c5 : Steps p.tables e below (s₁.setTop (entryFrame m #[.ref x, .int (Int32.ofNat i)] 2)) (T4.setTop (mkF m 12 #[.val (.ref x), .val (.int (Int32.ofNat i))] [.int (Int32.ofNat i), .ref t])) := (c3.trans (st4 _ (Steps.refl _))).trans (by
      refine XS.iloadN X4.here hexec rfl (hb hbytes d11) rfl ?_
      exact Steps.refl _)
    obtain ⟨v6, T6, X6, E6, g6⟩ := X4.callS hexec (LChA.law l t V i (lo8 (f i)) fm) hown (wks W (staticW "java/lang/String" 495 LChA.yN)) (wk W LChA.tab) (W := 0) (Nat.le_of_ble_eq_true rfl) (Nat.le_of_ble_eq_true rfl) (Nat.le_refl _) (Nat.le_refl _) (g := (mkF m 12 #[.val (.ref x), .val (.int (Int32.ofNat i))] [.int (Int32.ofNat i), .ref t])) rfl (by rw [hml]; rfl) c5 (argsL := [.ref t, .int (Int32.ofNat i)]) (rest := []) rfl rfl (by show 2 * 0 + 0 ≤ _; decide) (hb hbytes d12) (⟨rfl, hx.2.2.2.1.mv X4.warmed.alike hh4, (k2 i hi).1, s3.there X4.warmed.alike hh4, rf⟩)
    obtain ⟨rfl, q6⟩ := E6
    rw [chr8_lo8 hr.1 (k2 i hi).2] at g6
    exact ⟨T6, some (.int (f i)), _, _, _, X6, rfl, rfl, rfl, (fun h => by cases h), ⟨rfl, q6.trans hh4⟩, fun fs hl => Steps.trans g6 (X6.ireturnOut hexec hret (narrow_ch hr.1 hr.2) (Or.inr (Or.inr (Or.inr (Or.inl rfl)))) (hb hbytes d15) hl)⟩
  · exact absurd k0 (by decide)
theorem pays {l : Launch} {R : Room} {p : Program} {e : Env} {below : List Frame} {s : State} {sargs : Array Value} {len W : Nat} (x t : Addr) (V : Cell) (n : Nat) (f : Nat → Int32) (z : Int32) (fm : Value) (i : Nat) (htab : tab.before sargs s = true) (hfr : 4 ≤ R.frames) (hlo : W + 53 ≤ R.locals) :
    Back l R p e below s sargs yN len W (fun A₁ a₁ => A₁.cells + 0 ≤ R.cells ∧ A₁.slots + 0 ≤ R.slots ∧ P x t V n f z fm i a₁ A₁.U) (fun A₁ _ v₁ B₁ => E f i v₁ A₁.U B₁.U ∧ B₁.locs = A₁.locs ++ [] ∧ B₁.cells = A₁.cells + 0 ∧ B₁.slots = A₁.slots + 0) :=
  (law l x t V n f z fm i).pays htab hfr (by omega)
end ChN
end StrChars
namespace StrChars.Road
open Jvm Sem ClassFile Op Lib Jvm.Stand Jvm.Free Jvm.Free.XT
open Jvm.Lib.Cold (StaticIs)
/-- the words of String.charAt(int), the Latin-1 road alone -/
abbrev wordsChN : List Jvm.Cond := [.code ChN.yN ChN.yB 2 (some .char), .initialized ST, .fieldLink ST 9 ST "value" "[B", .fieldLink ST 38 ST "COMPACT_STRINGS" "Z", .fieldLink ST 15 ST "coder" "B", .code IsL.yN IsL.yB 1 (some .boolean), .methodLink ST 492 IsL.yN, .declares IsL.yN, .selects ST IsL.yN IsL.yN, .instanceMethod IsL.yN,
  .methodLink ST 495 LChA.yN, .static LChA.yN, .code LChA.yN LChA.yB 2 (some .char), .initialized "java/lang/StringLatin1", .methodLink "java/lang/StringLatin1" 9 JO.Str_checkIndex.yN, .static JO.Str_checkIndex.yN, .code JO.Str_checkIndex.yN JO.Str_checkIndex.yB 2 none,
  .fieldLink ST 1053 "jdk/internal/util/Preconditions" "SIOOBE_FORMATTER" "Ljava/util/function/BiFunction;", .methodLink ST 1059 JC.PreCheck.yN, .static JC.PreCheck.yN, .code JC.PreCheck.yN JC.PreCheck.yB 3 (some .int), .initialized "jdk/internal/util/Preconditions"]
theorem tabChN_of {a : Array Value} {s : State} (h : ∀ w ∈ wordsChN, w.before a s = true) : ChN.tab.before a s = true := by
  have hp : JC.PreCheck.tab.before a s = true := unparts (wk h (.code JC.PreCheck.yN JC.PreCheck.yB 3 (some .int))) (wks h (.initialized JC.PreCheck.yN.cls :: JC.PreCheck.site))
  have qk := consq hp h
  have hk : JO.Str_checkIndex.tab.before a s = true := unparts (wk qk (.code JO.Str_checkIndex.yN JO.Str_checkIndex.yB 2 none)) (wks qk (.initialized JO.Str_checkIndex.yN.cls :: JO.Str_checkIndex.site))
  have ql := consq hk h
  have hl : LChA.tab.before a s = true := unparts (wk ql (.code LChA.yN LChA.yB 2 (some .char))) (wks ql (.initialized LChA.yN.cls :: LChA.site))
  have hi : IsL.tab.before a s = true := unparts (wk h (.code IsL.yN IsL.yB 1 (some .boolean))) (wks h (.initialized IsL.yN.cls :: IsL.site))
  have q := consq hi (consq hl h)
  exact unparts (wk q (.code ChN.yN ChN.yB 2 (some .char))) (wks q (.initialized ChN.yN.cls :: ChN.site))
theorem movedChN {Z s : State} {a0 args : Array Value} (hZ : Z.Warmed39 s.vm) (hw : ∀ d ∈ wordsChN, d.before a0 Z = true) : ∀ d ∈ wordsChN, d.before args s = true := fun d hd => by
  have t : ∀ d ∈ wordsChN, (d.onTables && d.keepsFace) = true := by decide +kernel
  exact RoadKit.mv hZ (hw d hd) (t d hd)
/-- **charAt(i) OF A LATIN-1 STRING**, i < n: the char -/
theorem chN {p : Program} {l : Launch} {e : Env} {R : Room} {s : State} {args : Array Value} {below : List Frame} {len W : Nat} {Z : State} {a0 : Array Value} {h : Heap} (hZ : Z.Warmed39 s.vm) (hw : ∀ d ∈ wordsChN, d.before a0 Z = true) {kI : Nat} (wi : (Jvm.Cond.instantiable ST kI).before a0 Z = true)
    {x t : Addr} {kb : ClassId} {cs : List Int32} {N2 z : Int32} {vs : List Value} {fm : Value} {i : Nat} {j : Int32} (E : RoadKit.Exa Z h x ST) (V : RoadKit.Fld Z h x ST "value" "[B" (.ref t)) (C : RoadKit.Fld Z h x ST "coder" "B" (.int 0)) (K : RoadKit.Arv Z h t kb .byte N2 vs (.int 0)) (hc : CodA cs 0 N2 vs) (hb : ∀ c ∈ cs, ¬ c < 0 ∧ ¬ (65535 : Int32) < c)
    (S : RoadKit.Sta Z h ST "COMPACT_STRINGS" "Z" (.int z)) (hz : ¬ z = 0) (F : RoadKit.Sta Z h "jdk/internal/util/Preconditions" "SIOOBE_FORMATTER" "Ljava/util/function/BiFunction;" fm) (rf : fm.isRef = true) (l2 : cs.length ≤ 4000) (hi : i < cs.length) (hj : j = Int32.ofNat i) (hfr : 4 ≤ R.frames) (hlo : W + 53 ≤ R.locals) :
    Back l R p e below s args (⟨"java/lang/String", "charAt", "(I)C"⟩ : MethodName) len W (fun P a => a = #[.ref x, .int j] ∧ P.U.heap = h ∧ P.cells + 0 ≤ R.cells ∧ P.slots + 0 ≤ R.slots)
      (fun P _ v B => ∃ L, (v = some (.int (cs.getD i 0)) ∧ L = [] ∧ B.U.heap = h) ∧ B.locs = P.locs ++ L ∧ B.cells = P.cells + 0 ∧ B.slots = P.slots + 0) := by
  subst hj
  intro m meth c P g ig mk a X hg hsize hdg hW hn hp'
  obtain ⟨rfl, rfl, r1, r2⟩ := hp'
  have al : Z.vm.Alike P.U.vm := hZ.alike.trans X.warmed.alike
  obtain ⟨A, hx⟩ := txt_of wi al E V C K hc hb l2
  obtain ⟨v, B, X', ⟨⟨hv, hh⟩, hl, hk, hs⟩, st⟩ := ChN.pays x t A cs.length (fun j => cs.getD j 0) z fm i (tabChN_of (movedChN hZ hw)) hfr hlo m meth c P g ig mk _ X hg hsize hdg hW hn ⟨r1, r2, rfl, hx, hi, sta_is al S, hz, sta_is al F, rf⟩
  exact ⟨v, B, X', ⟨[], ⟨hv, rfl, hh⟩, hl, hk, hs⟩, st⟩
/-- what backV says of its String, as the contracts of this text ask it: cs's low bytes, coder 0 -/
theorem codOf {cs : List Int32} {n : Nat} (hn : cs.length = n) (hb : ∀ c ∈ cs, ¬ 255 < c) : CodA cs 0 (Int32.ofNat n) ((cs.map lo8).map Value.int) := Or.inl ⟨rfl, by rw [hn], by simp [List.map_map, Function.comp_def], hb⟩
end StrChars.Road
end Jvm.Pilot.@@N@@
namespace Jvm.Pilot.@@N@@
open Jvm Jvm.ClassFile Sem Op Lib Jvm.Free Jvm.Stand Jvm.LawKit Jvm.RoadKit Bundle Jvm.Pilot.@@N@@.Jvm.D
-- OWN KIT: walks in continuation style over the library's Stand laws (own text, pasted into each Proof.lean)
section OwnKit
variable {p : Program} {l : Launch} {e : Env} {R : Room} {s : State} {m : MethodId} {args : Array Value} {below : List Frame} {meth : Method} {c : Code} {T : State} {locs : List Loc} {cells slots : Nat} {Z : State} {a0 : Array Value} {h : Heap} {own : String} {cd : ByteArray} {maxL : Nat} {ret : Option FieldType} {nm : String} {n0 : Nat} {F : Option Value → Heap → Prop} {kc ks : Nat} {En : Outcome → State → Prop} {pc : Nat} {ls : Array Slot} {st : List Value}
/-- from the frame g over T the method runs to its end, returns v, leaves a heap, F holds of both; only new cells are written -/
def own_Go (p : Program) (e : Env) (below : List Frame) (En : Outcome → State → Prop) (T : State) (g : JFrame) : Prop :=
  ∃ s₂ o, Steps p.tables e below (T.setTop g) s₂ ∧ s₂.status = .running ∧ Ended s₂ below o ∧ En o s₂
def own_En (s : State) (n0 : Nat) (F : Option Value → Heap → Prop) (kc ks : Nat) (o : Outcome) (s₂ : State) : Prop := ∃ v L, o = .returned v ∧ (F v s₂.heap ∧ Fr n0 L) ∧ FrameEnd s o s₂ L kc ks
theorem own_step {T' : State} {g g' : JFrame} (st : ∀ t, Steps p.tables e below (T'.setTop g') t → Steps p.tables e below (T.setTop g) t) (k : own_Go p e below En T' g') : own_Go p e below En T g := by
  obtain ⟨s₂, o, h1, h2⟩ := k
  exact ⟨s₂, o, st _ h1, h2⟩
/-- what stays the same in one body -/
def own_Cx (p : Program) (s : State) (m : MethodId) (meth : Method) (c : Code) (Z : State) (own : String) (cd : ByteArray) (maxL : Nat) (ret : Option FieldType) (nm : String) : Prop :=
  p.tables.exec = Jvm.exec ∧ c.code = cd ∧ c.maxLocals = maxL ∧ s.vm.findClass own = some m.cls ∧ meth.name = nm ∧ meth.sig.returnType = ret ∧ meth.locks = false ∧ Z.Warmed39 s.vm
/-- where the walk stands: the heap is h, at most so many cells and slots have been made, nothing old was written -/
def own_S (p : Program) (l : Launch) (e : Env) (R : Room) (s : State) (m : MethodId) (args : Array Value) (below : List Frame) (meth : Method) (c : Code) (n0 : Nat) (T : State) (h : Heap) (cells slots : Nat) : Prop :=
  ∃ locs k n, Stand p l e R s m args below meth c T locs k n ∧ T.heap = h ∧ Fr n0 locs ∧ k ≤ cells ∧ n ≤ slots
theorem own_S.mono {c' s' : Nat} (S : own_S p l e R s m args below meth c n0 T h cells slots) (h1 : cells ≤ c') (h2 : slots ≤ s') : own_S p l e R s m args below meth c n0 T h c' s' := by
  obtain ⟨locs, k, n, X, e1, N, q1, q2⟩ := S
  exact ⟨locs, k, n, X, e1, N, Nat.le_trans q1 h1, Nat.le_trans q2 h2⟩
theorem own_hd (C : own_Cx p s m meth c Z own cd maxL ret nm) {i : Instr} {len : Nat} (hd : decode cd pc = .ok (i, len)) : decode c.code pc = .ok (i, len) := by rw [C.2.1]; exact hd
theorem own_hsz (C : own_Cx p s m meth c Z own cd maxL ret nm) (hsz : ls.size = maxL) : ls.size = c.maxLocals := by rw [C.2.2.1]; exact hsz
/-- the k-th table word -/
theorem own_wd {L : List Jvm.Cond} (hw : ∀ d ∈ L, d.before a0 Z = true) (i : Nat) {d : Jvm.Cond} (hi : L[i]? = some d) : d.before a0 Z = true := hw d (List.mem_of_getElem? hi)
/-- one plain instruction -/
def own_st (i : Instr) (len pc : Nat) (ls : Array Slot) (st : List Value) : Option (Nat × Array Slot × List Value) :=
  match i with
  | .iload_n k => match len, ls[k.val]? with | 1, some (.val (.int v)) => some (pc + 1, ls, .int v :: st) | _, _ => none
  | .iload k => match len, ls[k]? with | 2, some (.val (.int v)) => some (pc + 2, ls, .int v :: st) | _, _ => none
  | .lload_n k => match len, ls[k.val]? with | 1, some (.val (.long v)) => some (pc + 1, ls, .long v :: st) | _, _ => none
  | .lload k => match len, ls[k]? with | 2, some (.val (.long v)) => some (pc + 2, ls, .long v :: st) | _, _ => none
  | .dload_n k => match len, ls[k.val]? with | 1, some (.val (.double v)) => some (pc + 1, ls, .double v :: st) | _, _ => none
  | .dload k => match len, ls[k]? with | 2, some (.val (.double v)) => some (pc + 2, ls, .double v :: st) | _, _ => none
  | .aload_n k => match len, ls[k.val]? with | 1, some (.val (.ref v)) => some (pc + 1, ls, .ref v :: st) | 1, some (.val .null) => some (pc + 1, ls, .null :: st) | _, _ => none
  | .aload k => match len, ls[k]? with | 2, some (.val (.ref v)) => some (pc + 2, ls, .ref v :: st) | 2, some (.val .null) => some (pc + 2, ls, .null :: st) | _, _ => none
  | .istore_n k => match len, st with | 1, .int x :: r => (match storeLocals ls k.val (.int x) with | some l' => some (pc + 1, l', r) | none => none) | _, _ => none
  | .istore k => match len, st with | 2, .int x :: r => (match storeLocals ls k (.int x) with | some l' => some (pc + 2, l', r) | none => none) | _, _ => none
  | .lstore_n k => match len, st with | 1, .long x :: r => (match storeLocals ls k.val (.long x) with | some l' => some (pc + 1, l', r) | none => none) | _, _ => none
  | .lstore k => match len, st with | 2, .long x :: r => (match storeLocals ls k (.long x) with | some l' => some (pc + 2, l', r) | none => none) | _, _ => none
  | .dstore_n k => match len, st with | 1, .double x :: r => (match storeLocals ls k.val (.double x) with | some l' => some (pc + 1, l', r) | none => none) | _, _ => none
  | .dstore k => match len, st with | 2, .double x :: r => (match storeLocals ls k (.double x) with | some l' => some (pc + 2, l', r) | none => none) | _, _ => none
  | .astore_n k => match len, st with
    | 1, .ref x :: r => (match storeLocals ls k.val (.ref x) with | some l' => some (pc + 1, l', r) | none => none)
    | 1, .null :: r => (match storeLocals ls k.val .null with | some l' => some (pc + 1, l', r) | none => none)
    | _, _ => none
  | .astore k => match len, st with
    | 2, .ref x :: r => (match storeLocals ls k (.ref x) with | some l' => some (pc + 2, l', r) | none => none)
    | 2, .null :: r => (match storeLocals ls k .null with | some l' => some (pc + 2, l', r) | none => none)
    | _, _ => none
  | .iinc k d => match len, ls[k]? with | 3, some (.val (.int x)) => (match storeLocals ls k (.int (x + Int32.ofInt d)) with | some l' => some (pc + 3, l', st) | none => none) | _, _ => none
  | .iconst i => match len with | 1 => some (pc + 1, ls, .int (Int32.ofInt i) :: st) | _ => none
  | .bipush i => match len with | 2 => some (pc + 2, ls, .int (Int8.ofInt i).toInt32 :: st) | _ => none
  | .sipush i => match len with | 3 => some (pc + 3, ls, .int (Int16.ofInt i).toInt32 :: st) | _ => none
  | .lconst k => match len with | 1 => some (pc + 1, ls, .long (Int64.ofNat k) :: st) | _ => none
  | .aconst_null => match len with | 1 => some (pc + 1, ls, .null :: st) | _ => none
  | .iadd => match len, st with | 1, .int y :: .int x :: r => some (pc + 1, ls, .int (x + y) :: r) | _, _ => none
  | .isub => match len, st with | 1, .int y :: .int x :: r => some (pc + 1, ls, .int (x - y) :: r) | _, _ => none
  | .imul => match len, st with | 1, .int y :: .int x :: r => some (pc + 1, ls, .int (x * y) :: r) | _, _ => none
  | .iand => match len, st with | 1, .int y :: .int x :: r => some (pc + 1, ls, .int (x &&& y) :: r) | _, _ => none
  | .ior => match len, st with | 1, .int y :: .int x :: r => some (pc + 1, ls, .int (x ||| y) :: r) | _, _ => none
  | .ixor => match len, st with | 1, .int y :: .int x :: r => some (pc + 1, ls, .int (x ^^^ y) :: r) | _, _ => none
  | .ishl => match len, st with | 1, .int y :: .int x :: r => some (pc + 1, ls, .int (x <<< (y &&& 31)) :: r) | _, _ => none
  | .ishr => match len, st with | 1, .int y :: .int x :: r => some (pc + 1, ls, .int (x >>> (y &&& 31)) :: r) | _, _ => none
  | .iushr => match len, st with | 1, .int y :: .int x :: r => some (pc + 1, ls, .int (Jvm.Free.XT.ushr x y) :: r) | _, _ => none
  | .ineg => match len, st with | 1, .int x :: r => some (pc + 1, ls, .int (-x) :: r) | _, _ => none
  | .ladd => match len, st with | 1, .long y :: .long x :: r => some (pc + 1, ls, .long (x + y) :: r) | _, _ => none
  | .lsub => match len, st with | 1, .long y :: .long x :: r => some (pc + 1, ls, .long (x - y) :: r) | _, _ => none
  | .lmul => match len, st with | 1, .long y :: .long x :: r => some (pc + 1, ls, .long (x * y) :: r) | _, _ => none
  | .land => match len, st with | 1, .long y :: .long x :: r => some (pc + 1, ls, .long (x &&& y) :: r) | _, _ => none
  | .lor => match len, st with | 1, .long y :: .long x :: r => some (pc + 1, ls, .long (x ||| y) :: r) | _, _ => none
  | .lshl => match len, st with | 1, .int y :: .long x :: r => some (pc + 1, ls, .long (x <<< (y.toInt64 &&& 63)) :: r) | _, _ => none
  | .lshr => match len, st with | 1, .int y :: .long x :: r => some (pc + 1, ls, .long (x >>> (y.toInt64 &&& 63)) :: r) | _, _ => none
  | .lushr => match len, st with | 1, .int y :: .long x :: r => some (pc + 1, ls, .long (Jvm.Free.XT.ushrL x y) :: r) | _, _ => none
  | .lcmp => match len, st with | 1, .long y :: .long x :: r => some (pc + 1, ls, .int (Jvm.Free.XT.cmpL x y) :: r) | _, _ => none
  | .i2l => match len, st with | 1, .int x :: r => some (pc + 1, ls, .long x.toInt64 :: r) | _, _ => none
  | .l2i => match len, st with | 1, .long x :: r => some (pc + 1, ls, .int x.toInt32 :: r) | _, _ => none
  | .i2b => match len, st with | 1, .int x :: r => some (pc + 1, ls, .int x.toInt8.toInt32 :: r) | _, _ => none
  | .i2c => match len, st with | 1, .int x :: r => some (pc + 1, ls, .int x.toUInt32.toUInt16.toUInt32.toInt32 :: r) | _, _ => none
  | .i2s => match len, st with | 1, .int x :: r => some (pc + 1, ls, .int x.toInt16.toInt32 :: r) | _, _ => none
  | .i2d => match len, st with | 1, .int x :: r => some (pc + 1, ls, .double (FP.i2d x) :: r) | _, _ => none
  | .dup => match len, st with | 1, .int x :: r => some (pc + 1, ls, .int x :: .int x :: r) | 1, .ref x :: r => some (pc + 1, ls, .ref x :: .ref x :: r) | 1, .null :: r => some (pc + 1, ls, .null :: .null :: r) | _, _ => none
  | .pop => match len, st with | 1, .int x :: r => some (pc + 1, ls, r) | 1, .ref x :: r => some (pc + 1, ls, r) | 1, .null :: r => some (pc + 1, ls, r) | _, _ => none
  | .dup_x1 => match len, st with | 1, .int x :: .ref y :: r => some (pc + 1, ls, .int x :: .ref y :: .int x :: r) | 1, .int x :: .int y :: r => some (pc + 1, ls, .int x :: .int y :: .int x :: r) | 1, .ref x :: .ref y :: r => some (pc + 1, ls, .ref x :: .ref y :: .ref x :: r) | _, _ => none
  | .dup2 => match len, st with | 1, .int x :: .ref y :: r => some (pc + 1, ls, .int x :: .ref y :: .int x :: .ref y :: r) | 1, .int x :: .int y :: r => some (pc + 1, ls, .int x :: .int y :: .int x :: .int y :: r) | 1, .long x :: r => some (pc + 1, ls, .long x :: .long x :: r) | _, _ => none
  | .goto o => match len, decide (0 ≤ (pc : Int) + o) with | 3, true => some (((pc : Int) + o).toNat, ls, st) | _, _ => none
  | .ifnull o => match len, st, decide (0 ≤ (pc : Int) + o) with | 3, .null :: r, true => some (((pc : Int) + o).toNat, ls, r) | 3, .ref _ :: r, _ => some (pc + 3, ls, r) | _, _, _ => none
  | .ifnonnull o => match len, st, decide (0 ≤ (pc : Int) + o) with | 3, .ref _ :: r, true => some (((pc : Int) + o).toNat, ls, r) | 3, .null :: r, _ => some (pc + 3, ls, r) | _, _, _ => none
  | _ => none
theorem own_st_ok (X : Stand p l e R s m args below meth c T locs cells slots) (hx : p.tables.exec = Jvm.exec) {i : Instr} {len pc' : Nat} {ls' : Array Slot} {st' : List Value} (hd : decode c.code pc = .ok (i, len)) (hs : own_st i len pc ls st = some (pc', ls', st')) (t : State)
    (k : Steps p.tables e below (T.setTop (mkF m pc' ls' st')) t) : Steps p.tables e below (T.setTop (mkF m pc ls st)) t := by
  unfold own_st at hs
  split at hs
  · split at hs <;> first | cases hs | skip
    rename_i q; exact XS.iloadN X.here hx rfl hd q k
  · split at hs <;> first | cases hs | skip
    rename_i q; exact XS.iload X.here hx rfl hd q k
  · split at hs <;> first | cases hs | skip
    rename_i q; exact Jvm.Free.XT.lloadN X.here hx rfl hd q k
  · split at hs <;> first | cases hs | skip
    rename_i q; exact Jvm.Free.XT.lload X.here hx rfl hd q k
  · split at hs <;> first | cases hs | skip
    rename_i q; exact XS.dloadN X.here hx rfl hd q k
  · split at hs <;> first | cases hs | skip
    rename_i q; exact XS.dload X.here hx rfl hd q k
  · split at hs <;> first | cases hs | skip
    · rename_i q; exact XS.aloadN X.here hx rfl hd q rfl k
    · rename_i q; exact XS.aloadN X.here hx rfl hd q rfl k
  · split at hs <;> first | cases hs | skip
    · rename_i q; exact XS.aload X.here hx rfl hd q rfl k
    · rename_i q; exact XS.aload X.here hx rfl hd q rfl k
  · split at hs <;> first | cases hs | skip
    split at hs <;> first | cases hs | skip
    rename_i q; exact XS.istoreN X.here hx rfl hd rfl q k
  · split at hs <;> first | cases hs | skip
    split at hs <;> first | cases hs | skip
    rename_i q; exact XS.istore X.here hx rfl hd rfl q k
  · split at hs <;> first | cases hs | skip
    split at hs <;> first | cases hs | skip
    rename_i q; exact Jvm.Free.XT.lstoreN X.here hx rfl hd rfl q k
  · split at hs <;> first | cases hs | skip
    split at hs <;> first | cases hs | skip
    rename_i q; exact Jvm.Free.XT.lstore X.here hx rfl hd rfl q k
  · split at hs <;> first | cases hs | skip
    split at hs <;> first | cases hs | skip
    rename_i q; exact XS.dstoreN X.here hx rfl hd rfl q k
  · split at hs <;> first | cases hs | skip
    split at hs <;> first | cases hs | skip
    rename_i q; exact XS.dstore X.here hx rfl hd rfl q k
  · split at hs <;> first | cases hs | skip
    all_goals
      split at hs <;> first | cases hs | skip
      rename_i q; exact XS.astoreN X.here hx rfl hd rfl rfl q k
  · split at hs <;> first | cases hs | skip
    all_goals
      split at hs <;> first | cases hs | skip
      rename_i q; exact XS.astore X.here hx rfl hd rfl rfl q k
  · split at hs <;> first | cases hs | skip
    rename_i q0
    split at hs <;> first | cases hs | skip
    rename_i q; exact XS.iinc X.here hx rfl hd q0 q k
  · split at hs <;> first | cases hs | skip
    exact XS.iconst X.here hx rfl hd k
  · split at hs <;> first | cases hs | skip
    exact XS.bipush X.here hx rfl hd k
  · split at hs <;> first | cases hs | skip
    exact XS.sipush X.here hx rfl hd k
  · split at hs <;> first | cases hs | skip
    exact Jvm.Free.XT.lconst X.here hx rfl hd k
  · split at hs <;> first | cases hs | skip
    exact XS.aconstNull X.here hx rfl hd k
  · split at hs <;> first | cases hs | skip
    exact XS.iadd X.here hx rfl hd rfl k
  · split at hs <;> first | cases hs | skip
    exact XS.isub X.here hx rfl hd rfl k
  · split at hs <;> first | cases hs | skip
    exact XS.imul X.here hx rfl hd rfl k
  · split at hs <;> first | cases hs | skip
    exact XS.iand X.here hx rfl hd rfl k
  · split at hs <;> first | cases hs | skip
    exact Jvm.Free.XT.ior X.here hx rfl hd rfl k
  · split at hs <;> first | cases hs | skip
    exact Jvm.Free.XT.ixor X.here hx rfl hd rfl k
  · split at hs <;> first | cases hs | skip
    exact Jvm.Free.XT.ishl X.here hx rfl hd rfl k
  · split at hs <;> first | cases hs | skip
    exact Jvm.Free.XT.ishr X.here hx rfl hd rfl k
  · split at hs <;> first | cases hs | skip
    exact Jvm.Free.XT.iushr X.here hx rfl hd rfl k
  · split at hs <;> first | cases hs | skip
    exact XS.ineg X.here hx rfl hd rfl k
  · split at hs <;> first | cases hs | skip
    exact Jvm.Free.XT.ladd X.here hx rfl hd rfl k
  · split at hs <;> first | cases hs | skip
    exact Jvm.Free.XT.lsub X.here hx rfl hd rfl k
  · split at hs <;> first | cases hs | skip
    exact Jvm.Free.XT.lmul X.here hx rfl hd rfl k
  · split at hs <;> first | cases hs | skip
    exact Jvm.Free.XT.land X.here hx rfl hd rfl k
  · split at hs <;> first | cases hs | skip
    exact Jvm.Free.XT.lor X.here hx rfl hd rfl k
  · split at hs <;> first | cases hs | skip
    exact Jvm.Free.XT.lshl X.here hx rfl hd rfl k
  · split at hs <;> first | cases hs | skip
    exact Jvm.Free.XT.lshr X.here hx rfl hd rfl k
  · split at hs <;> first | cases hs | skip
    exact Jvm.Free.XT.lushr X.here hx rfl hd rfl k
  · split at hs <;> first | cases hs | skip
    exact Jvm.Free.XT.lcmp X.here hx rfl hd rfl k
  · split at hs <;> first | cases hs | skip
    exact Jvm.Free.XT.i2l X.here hx rfl hd rfl k
  · split at hs <;> first | cases hs | skip
    exact Jvm.Free.XT.l2i X.here hx rfl hd rfl k
  · split at hs <;> first | cases hs | skip
    exact Jvm.Free.XT.i2b X.here hx rfl hd rfl k
  · split at hs <;> first | cases hs | skip
    exact Jvm.Free.XT.i2c X.here hx rfl hd rfl k
  · split at hs <;> first | cases hs | skip
    exact Jvm.Free.XT.i2s X.here hx rfl hd rfl k
  · split at hs <;> first | cases hs | skip
    exact XS.i2dS X.here hx rfl hd rfl rfl k
  · split at hs <;> first | cases hs | skip
    all_goals exact XS.dup X.here hx rfl hd rfl rfl k
  · split at hs <;> first | cases hs | skip
    all_goals exact Jvm.Free.XT.pop X.here hx rfl hd rfl rfl k
  · split at hs <;> first | cases hs | skip
    all_goals exact Jvm.Free.XT.dupX1 X.here hx rfl hd rfl rfl rfl k
  · split at hs <;> first | cases hs | skip
    · exact Jvm.Free.XT.dup2 X.here hx rfl hd rfl rfl rfl k
    · exact Jvm.Free.XT.dup2 X.here hx rfl hd rfl rfl rfl k
    · exact Jvm.Free.XT.dup2L X.here hx rfl hd rfl k
  · split at hs <;> first | cases hs | skip
    rename_i q; exact XS.goto X.here hx rfl rfl hd (of_decide_eq_true q) rfl k
  · split at hs <;> first | cases hs | skip
    · rename_i q; exact XS.ifnullYes X.here hx rfl rfl hd rfl (of_decide_eq_true q) rfl k
    · exact XS.ifnullNo X.here hx rfl hd rfl k
  · split at hs <;> first | cases hs | skip
    · rename_i q; exact Jvm.Free.XT.ifnonnullYes X.here hx rfl rfl hd rfl (of_decide_eq_true q) rfl k
    · exact Jvm.Free.XT.ifnonnullNo X.here hx rfl hd rfl k
  · cases hs
/-- a row of plain instructions -/
def own_run : List (Nat × Instr × Nat) → Nat → Array Slot → List Value → Option (Nat × Array Slot × List Value)
  | [], pc, ls, st => some (pc, ls, st)
  | x :: seg, pc, ls, st => match decide (pc = x.1) with
    | true => (match own_st x.2.1 x.2.2 x.1 ls st with | some (pc', ls', st') => own_run seg pc' ls' st' | none => none)
    | false => none
def own_dec (cd : ByteArray) (seg : List (Nat × Instr × Nat)) : Bool := seg.all fun x => decide (decode cd x.1 = .ok x.2)
theorem own_run_ok (X : Stand p l e R s m args below meth c T locs cells slots) (hx : p.tables.exec = Jvm.exec) (hby : c.code = cd) : ∀ (seg : List (Nat × Instr × Nat)) {pc pc' : Nat} {ls ls' : Array Slot} {st st' : List Value}, own_dec cd seg = true → own_run seg pc ls st = some (pc', ls', st') → ∀ t,
    Steps p.tables e below (T.setTop (mkF m pc' ls' st')) t → Steps p.tables e below (T.setTop (mkF m pc ls st)) t := by
  intro seg
  induction seg with
  | nil =>
    intro pc pc' ls ls' st st' _ hr t k
    simp only [own_run, Option.some.injEq, Prod.mk.injEq] at hr
    obtain ⟨rfl, rfl, rfl⟩ := hr
    exact k
  | cons x seg ih =>
    intro pc pc' ls ls' st st' hd hr t k
    simp only [own_dec, List.all_cons, Bool.and_eq_true, decide_eq_true_eq] at hd
    simp only [own_run] at hr
    split at hr
    · rename_i q
      have q' : pc = x.1 := of_decide_eq_true q
      subst q'
      split at hr
      · rename_i a1 b1 c1 q2
        exact own_st_ok X hx (by rw [hby]; exact hd.1) q2 t (ih hd.2 hr t k)
      · cases hr
    · cases hr
theorem own_seg (C : own_Cx p s m meth c Z own cd maxL ret nm) (S : own_S p l e R s m args below meth c n0 T h cells slots) (seg : List (Nat × Instr × Nat)) (hd : own_dec cd seg = true) (pc' : Nat) (ls' : Array Slot) (st' : List Value)
    (hr : own_run seg pc ls st = some (pc', ls', st')) (k : own_Go p e below En T (mkF m pc' ls' st')) : own_Go p e below En T (mkF m pc ls st) := by
  obtain ⟨locs, kk, n, X, -⟩ := S
  exact own_step (own_run_ok X C.1 C.2.1 seg hd hr) k
/-! branches -/
def own_P : ClassFile.Cond → Int32 → Int32 → Prop
  | .eq, x, y => x = y | .ne, x, y => ¬ x = y | .lt, x, y => x < y | .ge, x, y => ¬ x < y | .gt, x, y => y < x | .le, x, y => ¬ y < x
def own_N : ClassFile.Cond → Int32 → Int32 → Prop
  | .eq, x, y => ¬ x = y | .ne, x, y => x = y | .lt, x, y => ¬ x < y | .ge, x, y => x < y | .gt, x, y => ¬ y < x | .le, x, y => y < x
theorem own_holds (q : ClassFile.Cond) (x y : Int32) : (own_P q x y ∧ if_icmp.holds q x y = true) ∨ (own_N q x y ∧ if_icmp.holds q x y = false) := by
  cases q
  · by_cases g : x = y
    · exact Or.inl ⟨g, (teq g).1⟩
    · exact Or.inr ⟨g, (feq g).1⟩
  · by_cases g : x = y
    · exact Or.inr ⟨g, (teq g).2⟩
    · exact Or.inl ⟨g, (feq g).2⟩
  · by_cases g : x < y
    · exact Or.inl ⟨g, (tlt g).1⟩
    · exact Or.inr ⟨g, (flt g).1⟩
  · by_cases g : x < y
    · exact Or.inr ⟨g, (tlt g).2.1⟩
    · exact Or.inl ⟨g, (flt g).2.1⟩
  · by_cases g : y < x
    · exact Or.inl ⟨g, (tlt g).2.2.1⟩
    · exact Or.inr ⟨g, (flt g).2.2.1⟩
  · by_cases g : y < x
    · exact Or.inr ⟨g, (tlt g).2.2.2⟩
    · exact Or.inl ⟨g, (flt g).2.2.2⟩
theorem own_icmp (C : own_Cx p s m meth c Z own cd maxL ret nm) (S : own_S p l e R s m args below meth c n0 T h cells slots) {q : ClassFile.Cond} {o : Int} {x y : Int32} (hd : decode cd pc = .ok (.if_icmp q o, 3)) (pc' : Nat) (ho : 0 ≤ (pc : Int) + o) (hp : ((pc : Int) + o).toNat = pc')
    (k1 : own_P q x y → own_Go p e below En T (mkF m pc' ls st)) (k2 : own_N q x y → own_Go p e below En T (mkF m (pc + 3) ls st)) : own_Go p e below En T (mkF m pc ls (.int y :: .int x :: st)) := by
  obtain ⟨locs, kk, n, X, -⟩ := S
  rcases own_holds q x y with ⟨g, hc⟩ | ⟨g, hc⟩
  · exact own_step (fun t k => XS.icmpYes X.here C.1 rfl rfl (own_hd C hd) rfl hc ho hp k) (k1 g)
  · exact own_step (fun t k => XS.icmpNo X.here C.1 rfl (own_hd C hd) rfl hc k) (k2 g)
theorem own_if (C : own_Cx p s m meth c Z own cd maxL ret nm) (S : own_S p l e R s m args below meth c n0 T h cells slots) {q : ClassFile.Cond} {o : Int} {x : Int32} (hd : decode cd pc = .ok (.ifCond q o, 3)) (pc' : Nat) (ho : 0 ≤ (pc : Int) + o) (hp : ((pc : Int) + o).toNat = pc')
    (k1 : own_P q x 0 → own_Go p e below En T (mkF m pc' ls st)) (k2 : own_N q x 0 → own_Go p e below En T (mkF m (pc + 3) ls st)) : own_Go p e below En T (mkF m pc ls (.int x :: st)) := by
  obtain ⟨locs, kk, n, X, -⟩ := S
  rcases own_holds q x 0 with ⟨g, hc⟩ | ⟨g, hc⟩ <;> rw [← if0] at hc
  · exact own_step (fun t k => XS.ifYes X.here C.1 rfl rfl (own_hd C hd) rfl hc ho hp k) (k1 g)
  · exact own_step (fun t k => XS.ifNo X.here C.1 rfl (own_hd C hd) rfl hc k) (k2 g)
def own_A : ClassFile.ACond → Value → Value → Prop
  | .eq, x, y => x = y | .ne, x, y => ¬ x = y
def own_B : ClassFile.ACond → Value → Value → Prop
  | .eq, x, y => ¬ x = y | .ne, x, y => x = y
theorem own_acmp (C : own_Cx p s m meth c Z own cd maxL ret nm) (S : own_S p l e R s m args below meth c n0 T h cells slots) {q : ClassFile.ACond} {o : Int} {x y : Value} (hx' : x.isRef = true) (hy' : y.isRef = true) (hd : decode cd pc = .ok (.if_acmp q o, 3)) (pc' : Nat) (ho : 0 ≤ (pc : Int) + o) (hp : ((pc : Int) + o).toNat = pc')
    (k1 : own_A q x y → own_Go p e below En T (mkF m pc' ls st)) (k2 : own_B q x y → own_Go p e below En T (mkF m (pc + 3) ls st)) : own_Go p e below En T (mkF m pc ls (y :: x :: st)) := by
  obtain ⟨locs, kk, n, X, -⟩ := S
  cases q <;> by_cases g : x = y
  · exact own_step (fun t k => Jvm.Free.XT.acmpYes X.here C.1 rfl rfl (own_hd C hd) rfl hx' hy' (Jvm.Free.XT.aa_eq_t g) ho hp k) (k1 g)
  · exact own_step (fun t k => Jvm.Free.XT.acmpNo X.here C.1 rfl (own_hd C hd) rfl hx' hy' (Jvm.Free.XT.aa_eq_f g) k) (k2 g)
  · exact own_step (fun t k => Jvm.Free.XT.acmpNo X.here C.1 rfl (own_hd C hd) rfl hx' hy' (Jvm.Free.XT.aa_ne_f g) k) (k2 g)
  · exact own_step (fun t k => Jvm.Free.XT.acmpYes X.here C.1 rfl rfl (own_hd C hd) rfl hx' hy' (Jvm.Free.XT.aa_ne_t g) ho hp k) (k1 g)
/-! arithmetic with premises -/
theorem own_idiv (C : own_Cx p s m meth c Z own cd maxL ret nm) (S : own_S p l e R s m args below meth c n0 T h cells slots) {x y : Int32} (hd : decode cd pc = .ok (.idiv, 1)) (hy : y ≠ 0) (k : own_Go p e below En T (mkF m (pc + 1) ls (.int (x / y) :: st))) : own_Go p e below En T (mkF m pc ls (.int y :: .int x :: st)) := by
  obtain ⟨locs, kk, n, X, -⟩ := S
  exact own_step (fun t k => XS.idiv X.here C.1 rfl (own_hd C hd) rfl hy k) k
theorem own_irem (C : own_Cx p s m meth c Z own cd maxL ret nm) (S : own_S p l e R s m args below meth c n0 T h cells slots) {x y : Int32} (hd : decode cd pc = .ok (.irem, 1)) (hy : y ≠ 0) (k : own_Go p e below En T (mkF m (pc + 1) ls (.int (x % y) :: st))) : own_Go p e below En T (mkF m pc ls (.int y :: .int x :: st)) := by
  obtain ⟨locs, kk, n, X, -⟩ := S
  exact own_step (fun t k => iremM X C.1 rfl (own_hd C hd) rfl hy k) k
theorem own_dcmp (C : own_Cx p s m meth c Z own cd maxL ret nm) (S : own_S p l e R s m args below meth c n0 T h cells slots) {o : CmpOp} {x y : UInt64} (v : Int32) (hd : decode cd pc = .ok (.dcmp o, 1)) (hv : cmpValue (FP.dcmp x y) o = v) (k : own_Go p e below En T (mkF m (pc + 1) ls (.int v :: st))) : own_Go p e below En T (mkF m pc ls (.double y :: .double x :: st)) := by
  obtain ⟨locs, kk, n, X, -⟩ := S
  exact own_step (fun t k => XS.dcmpS X.here C.1 rfl (own_hd C hd) rfl hv k) k
theorem own_ddiv (C : own_Cx p s m meth c Z own cd maxL ret nm) (S : own_S p l e R s m args below meth c n0 T h cells slots) {x y : UInt64} (v : UInt64) (hd : decode cd pc = .ok (.ddiv, 1)) (hn : Jvm.Free.Fl.NoNaN64 (FP.ddiv x y)) (hv : FP.ddiv x y = v) (k : own_Go p e below En T (mkF m (pc + 1) ls (.double v :: st))) : own_Go p e below En T (mkF m pc ls (.double y :: .double x :: st)) := by
  obtain ⟨locs, kk, n, X, -⟩ := S
  exact own_step (fun t k => XS.ddivS X.here C.1 rfl (own_hd C hd) rfl hn hv k) k
theorem own_dmul (C : own_Cx p s m meth c Z own cd maxL ret nm) (S : own_S p l e R s m args below meth c n0 T h cells slots) {x y : UInt64} (v : UInt64) (hd : decode cd pc = .ok (.dmul, 1)) (hn : Jvm.Free.Fl.NoNaN64 (FP.dmul x y)) (hv : FP.dmul x y = v) (k : own_Go p e below En T (mkF m (pc + 1) ls (.double v :: st))) : own_Go p e below En T (mkF m pc ls (.double y :: .double x :: st)) := by
  obtain ⟨locs, kk, n, X, -⟩ := S
  exact own_step (fun t k => XS.dmulS X.here C.1 rfl (own_hd C hd) rfl hn hv k) k
theorem own_dadd (C : own_Cx p s m meth c Z own cd maxL ret nm) (S : own_S p l e R s m args below meth c n0 T h cells slots) {x y : UInt64} (v : UInt64) (hd : decode cd pc = .ok (.dadd, 1)) (hn : Jvm.Free.Fl.NoNaN64 (FP.dadd x y)) (hv : FP.dadd x y = v) (k : own_Go p e below En T (mkF m (pc + 1) ls (.double v :: st))) : own_Go p e below En T (mkF m pc ls (.double y :: .double x :: st)) := by
  obtain ⟨locs, kk, n, X, -⟩ := S
  exact own_step (fun t k => XS.daddS X.here C.1 rfl (own_hd C hd) rfl hn hv k) k
theorem own_dconst0 (C : own_Cx p s m meth c Z own cd maxL ret nm) (S : own_S p l e R s m args below meth c n0 T h cells slots) (hd : decode cd pc = .ok (.dconst 0, 1)) (k : own_Go p e below En T (mkF m (pc + 1) ls (.double 0 :: st))) : own_Go p e below En T (mkF m pc ls st) := by
  obtain ⟨locs, kk, n, X, -⟩ := S
  exact own_step (fun t k => XS.dconst0 X.here C.1 rfl (own_hd C hd) rfl k) k
/-! constants -/
theorem own_ldc (C : own_Cx p s m meth c Z own cd maxL ret nm) (S : own_S p l e R s m args below meth c n0 T h cells slots) {index : Nat} {v : Int32} (w : (Jvm.Cond.constant own index v).before a0 Z = true) (hd : decode cd pc = .ok (.ldc index, 2)) (k : own_Go p e below En T (mkF m (pc + 2) ls (.int v :: st))) : own_Go p e below En T (mkF m pc ls st) := by
  obtain ⟨locs, kk, n, X, -⟩ := S
  exact own_step (fun t k => X.ldcInt C.1 C.2.2.2.1 (mv C.2.2.2.2.2.2.2 w) (g := mkF m pc ls st) rfl (own_hd C hd) t k) k
theorem own_ldc2D (C : own_Cx p s m meth c Z own cd maxL ret nm) (S : own_S p l e R s m args below meth c n0 T h cells slots) {index : Nat} {v : UInt64} (w : (Jvm.Cond.constantDouble own index v).before a0 Z = true) (hd : decode cd pc = .ok (.ldc2_w index, 3)) (k : own_Go p e below En T (mkF m (pc + 3) ls (.double v :: st))) : own_Go p e below En T (mkF m pc ls st) := by
  obtain ⟨locs, kk, n, X, -⟩ := S
  exact own_step (fun t k => X.ldc2DoubleC C.1 C.2.2.2.1 (mv C.2.2.2.2.2.2.2 w) (g := mkF m pc ls st) rfl (own_hd C hd) t k) k
theorem own_ldc2J (C : own_Cx p s m meth c Z own cd maxL ret nm) (S : own_S p l e R s m args below meth c n0 T h cells slots) {index : Nat} {v : Int64} (w : (Jvm.Cond.constantLong own index v).before a0 Z = true) (hd : decode cd pc = .ok (.ldc2_w index, 3)) (k : own_Go p e below En T (mkF m (pc + 3) ls (.long v :: st))) : own_Go p e below En T (mkF m pc ls st) := by
  obtain ⟨locs, kk, n, X, -⟩ := S
  exact own_step (fun t k => X.ldc2Long C.1 C.2.2.2.1 (mv C.2.2.2.2.2.2.2 w) (g := mkF m pc ls st) rfl (own_hd C hd) t k) k
/-! fields and objects -/
theorem own_getF (C : own_Cx p s m meth c Z own cd maxL ret nm) (S : own_S p l e R s m args below meth c n0 T h cells slots) {index : Nat} {R0 O n d host : String} {a : Addr} {v : Value} (w : (Jvm.Cond.fieldLink own index R0 n d).before a0 Z = true ∨ (Jvm.Cond.fieldLinkNest own index R0 n d host).before a0 Z = true) (via : Via Z R0 O n d) (FF : Fld Z h a O n d v) (hd : decode cd pc = .ok (.getfield index, 3))
    (k : ∀ T', own_S p l e R s m args below meth c n0 T' h cells slots → own_Go p e below En T' (mkF m (pc + 3) ls (v :: st))) : own_Go p e below En T (mkF m pc ls (.ref a :: st)) := by
  obtain ⟨locs, kk, nn, X, eT, N, q1, q2⟩ := S
  obtain ⟨T', X', e', stp⟩ := getF X C.1 C.2.2.2.2.2.2.2 C.2.2.2.1 w via eT FF (g := mkF m pc ls (.ref a :: st)) rfl rfl (own_hd C hd)
  exact own_step stp (k T' ⟨_, _, _, X', e', N, q1, q2⟩)
theorem own_getS (C : own_Cx p s m meth c Z own cd maxL ret nm) (S : own_S p l e R s m args below meth c n0 T h cells slots) {index : Nat} {R0 O n d : String} {v : Value} (w : (Jvm.Cond.fieldLink own index R0 n d).before a0 Z = true) (via : Via Z R0 O n d) (FF : Sta Z h O n d v) (hd : decode cd pc = .ok (.getstatic index, 3))
    (k : ∀ T', own_S p l e R s m args below meth c n0 T' h cells slots → own_Go p e below En T' (mkF m (pc + 3) ls (v :: st))) : own_Go p e below En T (mkF m pc ls st) := by
  obtain ⟨locs, kk, nn, X, eT, N, q1, q2⟩ := S
  obtain ⟨T', X', e', stp⟩ := getS X C.1 C.2.2.2.2.2.2.2 (host := "") C.2.2.2.1 w via eT FF (g := mkF m pc ls st) rfl (own_hd C hd)
  exact own_step stp (k T' ⟨_, _, _, X', e', N, q1, q2⟩)
theorem own_putF (C : own_Cx p s m meth c Z own cd maxL ret nm) (S : own_S p l e R s m args below meth c n0 T h cells slots) {index ki : Nat} {R0 O n d host Cl : String} {a : Addr} {v old : Value} {ty : FieldType} (w : (Jvm.Cond.fieldLink own index R0 n d).before a0 Z = true ∨ (Jvm.Cond.fieldLinkNest own index R0 n d host).before a0 Z = true) (via : Via Z R0 O n d) (FF : Fld Z h a O n d old) (E : Exa Z h a Cl)
    (L : (Jvm.Cond.lays Cl O n d).before a0 Z = true ∨ ((Jvm.Cond.laysFinal Cl O n d).before a0 Z = true ∧ own = O ∧ nm = "<init>")) (wi : (Jvm.Cond.instantiable Cl ki).before a0 Z = true) (hty : parseFieldDescriptor d = some ty) (hn : narrow ty v = v) (hf : fits ty v = true) (hge : n0 ≤ a) (hd : decode cd pc = .ok (.putfield index, 3))
    (k : ∀ T' h', own_S p l e R s m args below meth c n0 T' h' cells slots → Wr h h' a (Jvm.RoadKit.slotOf Z O n d) v → own_Go p e below En T' (mkF m (pc + 3) ls st)) : own_Go p e below En T (mkF m pc ls (v :: .ref a :: st)) := by
  obtain ⟨locs, kk, nn, X, eT, N, q1, q2⟩ := S
  obtain ⟨T', h', X', e', W, stp⟩ := putF X C.1 C.2.2.2.2.2.2.2 C.2.2.2.1 w via eT FF E (L.imp id (fun q => ⟨q.1, q.2.1, C.2.2.2.2.1.trans q.2.2⟩)) wi hty hn hf (g := mkF m pc ls (v :: .ref a :: st)) rfl rfl (own_hd C hd)
  exact own_step stp (k T' h' ⟨_, _, _, X', e', Fr.snoc X' N hge, q1, q2⟩ W)
theorem own_new (C : own_Cx p s m meth c Z own cd maxL ret nm) (S : own_S p l e R s m args below meth c n0 T h cells slots) {index ki : Nat} {Cl : String} (w : (Jvm.Cond.classLink own index Cl).before a0 Z = true) (wi : (Jvm.Cond.instantiable Cl ki).before a0 Z = true) (wz : (Jvm.Cond.initialized Cl).before a0 Z = true) (hd : decode cd pc = .ok (.new index, 3)) (hc : cells + 1 ≤ R.cells) (hl : slots + ki ≤ R.slots)
    (k : ∀ T' h' a, own_S p l e R s m args below meth c n0 T' h' (cells + 1) (slots + ki) → a = h.size → Ext h h' → Exa Z h' a Cl → (∀ {O nm d : String} {ty : FieldType}, Laid Z a0 Cl O nm d → parseFieldDescriptor d = some ty → Fld Z h' a O nm d (defaultValue ty)) → own_Go p e below En T' (mkF m (pc + 3) ls (.ref a :: st))) : own_Go p e below En T (mkF m pc ls st) := by
  obtain ⟨locs, kk, nn, X, eT, N, q1, q2⟩ := S
  obtain ⟨T', h', X', e', E, A, D, -, stp⟩ := newO X C.1 C.2.2.2.2.2.2.2 C.2.2.2.1 w wi wz eT (g := mkF m pc ls st) rfl (own_hd C hd) (by omega) (by omega)
  exact own_step stp (k T' h' _ ⟨_, _, _, X', e', N, by omega, by omega⟩ rfl E A D)
theorem own_initO (C : own_Cx p s m meth c Z own cd maxL ret nm) (S : own_S p l e R s m args below meth c n0 T h cells slots) {index : Nat} (w1 : (Jvm.Cond.methodLink own index Lib.objectInit).before a0 Z = true) (w2 : (Jvm.Cond.instanceMethod Lib.objectInit).before a0 Z = true) (w3 : (Jvm.Cond.code Lib.objectInit ⟨#[0xb1]⟩ 1 none).before a0 Z = true) {a : Addr} (hsz : ls.size = maxL) (hd : decode cd pc = .ok (.invokespecial index, 3)) (hf : 1 ≤ R.frames) (W : Nat) (hW : (st.map fun v => v.category).sum ≤ W) (hl : W + 12 ≤ R.locals)
    (k : ∀ T', own_S p l e R s m args below meth c n0 T' h cells slots → own_Go p e below En T' (mkF m (pc + 3) ls st)) : own_Go p e below En T (mkF m pc ls (.ref a :: st)) := by
  obtain ⟨locs, kk, nn, X, eT, N, q1, q2⟩ := S
  obtain ⟨T', X', e', stp⟩ := initO X C.1 C.2.2.2.2.2.2.2 C.2.2.2.1 w1 w2 w3 eT (g := mkF m pc ls (.ref a :: st)) rfl (own_hsz C hsz) rfl (own_hd C hd) hf (W := W) (by show 2 * 0 + _ ≤ W; omega) hl
  exact own_step stp (k T' ⟨_, _, _, X', e', N, q1, q2⟩)
/-! arrays -/
theorem own_newP (C : own_Cx p s m meth c Z own cd maxL ret nm) (S : own_S p l e R s m args below meth c n0 T h cells slots) {aty : ArrayType} (w : (Jvm.Cond.arrayClass (newarray.typeOf aty)).before a0 Z = true) (hd : decode cd pc = .ok (.newarray aty, 2)) {n : Int32} (hn : ¬ n < 0) (cap : Nat) (hcap : n.toNatClampNeg ≤ cap) (hb : cap * 8 ≤ 536870912) (hc : cells + 1 ≤ R.cells) (hl : slots + cap ≤ R.slots)
    (k : ∀ T' h' a cA, own_S p l e R s m args below meth c n0 T' h' (cells + 1) (slots + cap) → a = h.size → Ext h h' → Arv Z h' a cA (newarray.typeOf aty) n [] (defaultValue (newarray.typeOf aty)) → own_Go p e below En T' (mkF m (pc + 2) ls (.ref a :: st))) : own_Go p e below En T (mkF m pc ls (.int n :: st)) := by
  obtain ⟨locs, kk, nn, X, eT, N, q1, q2⟩ := S
  obtain ⟨T', h', cA, X', e', E, A, stp⟩ := newP X C.1 C.2.2.2.2.2.2.2 w eT (g := mkF m pc ls (.int n :: st)) rfl (own_hd C hd) rfl hn hcap hb (by omega) (by omega)
  exact own_step stp (k T' h' _ cA ⟨_, _, _, X', e', N, by omega, by omega⟩ rfl E (Arv.new A hn))
theorem own_alen (C : own_Cx p s m meth c Z own cd maxL ret nm) (S : own_S p l e R s m args below meth c n0 T h cells slots) {a : Addr} {ka : ClassId} {ty : FieldType} {N : Int32} {vs : List Value} {dv : Value} (FF : Arv Z h a ka ty N vs dv) (hd : decode cd pc = .ok (.arraylength, 1)) (k : own_Go p e below En T (mkF m (pc + 1) ls (.int N :: st))) : own_Go p e below En T (mkF m pc ls (.ref a :: st)) := by
  obtain ⟨locs, kk, nn, X, eT, -⟩ := S
  obtain ⟨cl, A, -, sz, hN, -⟩ := FF
  rw [← len_of sz hN] at k
  exact own_step (fun t k => X.arraylength C.1 (by rw [eT]; exact A.1) (State.isArrayOf_alike C.2.2.2.2.2.2.2.alike A.2.1) (g := mkF m pc ls (.ref a :: st)) rfl rfl (own_hd C hd) t k) k
theorem own_caload (C : own_Cx p s m meth c Z own cd maxL ret nm) (S : own_S p l e R s m args below meth c n0 T h cells slots) {a : Addr} {ka : ClassId} {N j : Int32} {vs : List Value} {dv : Value} (FF : Arv Z h a ka .char N vs dv) (hin : ¬ j < 0 ∧ j < N) (v : Value) (hv : vs.getD j.toNatClampNeg dv = v) (hd : decode cd pc = .ok (.caload, 1)) (k : own_Go p e below En T (mkF m (pc + 1) ls (v :: st))) : own_Go p e below En T (mkF m pc ls (.int j :: .ref a :: st)) := by
  obtain ⟨locs, kk, nn, X, eT, -⟩ := S
  obtain ⟨cl, A, -, sz, hN, H, -⟩ := FF
  exact own_step (fun t k => X.caload C.1 (by rw [eT]; exact A.1) (State.isArrayOf_alike C.2.2.2.2.2.2.2.alike A.2.1) A.2.2 (inb_of sz hin) (Has.at H (inb_of sz hin) hv) (g := mkF m pc ls (.int j :: .ref a :: st)) rfl rfl (own_hd C hd) t k) k
theorem own_iaload (C : own_Cx p s m meth c Z own cd maxL ret nm) (S : own_S p l e R s m args below meth c n0 T h cells slots) {a : Addr} {ka : ClassId} {N j : Int32} {vs : List Value} {dv : Value} (FF : Arv Z h a ka .int N vs dv) (hin : ¬ j < 0 ∧ j < N) (v : Value) (hv : vs.getD j.toNatClampNeg dv = v) (hd : decode cd pc = .ok (.iaload, 1)) (k : own_Go p e below En T (mkF m (pc + 1) ls (v :: st))) : own_Go p e below En T (mkF m pc ls (.int j :: .ref a :: st)) := by
  obtain ⟨locs, kk, nn, X, eT, -⟩ := S
  obtain ⟨cl, A, -, sz, hN, H, -⟩ := FF
  exact own_step (fun t k => X.iaload C.1 (by rw [eT]; exact A.1) (State.isArrayOf_alike C.2.2.2.2.2.2.2.alike A.2.1) A.2.2 (inb_of sz hin) (Has.at H (inb_of sz hin) hv) (g := mkF m pc ls (.int j :: .ref a :: st)) rfl rfl (own_hd C hd) t k) k
theorem own_baload (C : own_Cx p s m meth c Z own cd maxL ret nm) (S : own_S p l e R s m args below meth c n0 T h cells slots) {a : Addr} {ka : ClassId} {N j : Int32} {vs : List Value} {dv : Value} (FF : Arv Z h a ka .byte N vs dv) (hin : ¬ j < 0 ∧ j < N) (v : Value) (hv : vs.getD j.toNatClampNeg dv = v) (hd : decode cd pc = .ok (.baload, 1)) (k : own_Go p e below En T (mkF m (pc + 1) ls (v :: st))) : own_Go p e below En T (mkF m pc ls (.int j :: .ref a :: st)) := by
  obtain ⟨locs, kk, nn, X, eT, -⟩ := S
  obtain ⟨cl, A, -, sz, hN, H, -⟩ := FF
  exact own_step (fun t k => X.baloadBytes C.1 (by rw [eT]; exact A.1) (State.isArrayOf_alike C.2.2.2.2.2.2.2.alike A.2.1) A.2.2 (inb_of sz hin) (Has.at H (inb_of sz hin) hv) (g := mkF m pc ls (.int j :: .ref a :: st)) rfl rfl (own_hd C hd) t k) k
theorem own_daload (C : own_Cx p s m meth c Z own cd maxL ret nm) (S : own_S p l e R s m args below meth c n0 T h cells slots) {a : Addr} {ka : ClassId} {N j : Int32} {vs : List Value} {dv : Value} (FF : Arv Z h a ka .double N vs dv) (hin : ¬ j < 0 ∧ j < N) (v : Value) (hv : vs.getD j.toNatClampNeg dv = v) (hd : decode cd pc = .ok (.daload, 1)) (k : own_Go p e below En T (mkF m (pc + 1) ls (v :: st))) : own_Go p e below En T (mkF m pc ls (.int j :: .ref a :: st)) := by
  obtain ⟨locs, kk, nn, X, eT, -⟩ := S
  obtain ⟨cl, A, -, sz, hN, H, -⟩ := FF
  exact own_step (fun t k => X.daload C.1 (by rw [eT]; exact A.1) (State.isArrayOf_alike C.2.2.2.2.2.2.2.alike A.2.1) A.2.2 (inb_of sz hin) (Has.at H (inb_of sz hin) hv) (g := mkF m pc ls (.int j :: .ref a :: st)) rfl rfl (own_hd C hd) t k) k
theorem own_castore (C : own_Cx p s m meth c Z own cd maxL ret nm) (S : own_S p l e R s m args below meth c n0 T h cells slots) {a : Addr} {ka : ClassId} {N j x : Int32} {vs : List Value} {dv : Value} (FF : Arv Z h a ka .char N vs dv) (hin : ¬ j < 0 ∧ j < N) (i : Nat) (hj : j.toNatClampNeg = i) (hi : i < vs.length) (x' : Int32) (hx' : nar .char x = x') (hge : n0 ≤ a) (hd : decode cd pc = .ok (.castore, 1))
    (k : ∀ T' h', own_S p l e R s m args below meth c n0 T' h' cells slots → Wr h h' a j.toNatClampNeg (.int x') → Arv Z h' a ka .char N (vs.set i (.int x')) dv → own_Go p e below En T' (mkF m (pc + 1) ls st)) : own_Go p e below En T (mkF m pc ls (.int x :: .int j :: .ref a :: st)) := by
  subst hx'
  obtain ⟨locs, kk, nn, X, eT, N, q1, q2⟩ := S
  obtain ⟨cl, A, ck, sz, hN, H, G⟩ := FF
  obtain ⟨T', h', X', e', W, stp⟩ := stC X C.1 C.2.2.2.2.2.2.2 eT A (inb_of sz hin) (g := mkF m pc ls (.int x :: .int j :: .ref a :: st)) rfl rfl (own_hd C hd)
  exact own_step stp (k T' h' ⟨_, _, _, X', e', Fr.snoc X' N hge, q1, q2⟩ W (Arv.set A ck sz hN H G (fits_nar_char x) W i hj hi))
theorem own_bastore (C : own_Cx p s m meth c Z own cd maxL ret nm) (S : own_S p l e R s m args below meth c n0 T h cells slots) {a : Addr} {ka : ClassId} {N j x : Int32} {vs : List Value} {dv : Value} (FF : Arv Z h a ka .byte N vs dv) (hin : ¬ j < 0 ∧ j < N) (i : Nat) (hj : j.toNatClampNeg = i) (hi : i < vs.length) (x' : Int32) (hx' : nar .byte x = x') (hge : n0 ≤ a) (hd : decode cd pc = .ok (.bastore, 1))
    (k : ∀ T' h', own_S p l e R s m args below meth c n0 T' h' cells slots → Wr h h' a j.toNatClampNeg (.int x') → Arv Z h' a ka .byte N (vs.set i (.int x')) dv → own_Go p e below En T' (mkF m (pc + 1) ls st)) : own_Go p e below En T (mkF m pc ls (.int x :: .int j :: .ref a :: st)) := by
  subst hx'
  obtain ⟨locs, kk, nn, X, eT, N, q1, q2⟩ := S
  obtain ⟨cl, A, ck, sz, hN, H, G⟩ := FF
  obtain ⟨T', h', X', e', W, stp⟩ := stB X C.1 C.2.2.2.2.2.2.2 eT A (inb_of sz hin) (g := mkF m pc ls (.int x :: .int j :: .ref a :: st)) rfl rfl (own_hd C hd)
  exact own_step stp (k T' h' ⟨_, _, _, X', e', Fr.snoc X' N hge, q1, q2⟩ W (Arv.set A ck sz hN H G (fits_nar_byte x) W i hj hi))
theorem own_iastore (C : own_Cx p s m meth c Z own cd maxL ret nm) (S : own_S p l e R s m args below meth c n0 T h cells slots) {a : Addr} {ka : ClassId} {N j x : Int32} {vs : List Value} {dv : Value} (FF : Arv Z h a ka .int N vs dv) (hin : ¬ j < 0 ∧ j < N) (i : Nat) (hj : j.toNatClampNeg = i) (hi : i < vs.length) (hge : n0 ≤ a) (hd : decode cd pc = .ok (.iastore, 1))
    (k : ∀ T' h', own_S p l e R s m args below meth c n0 T' h' cells slots → Wr h h' a j.toNatClampNeg (.int x) → Arv Z h' a ka .int N (vs.set i (.int x)) dv → own_Go p e below En T' (mkF m (pc + 1) ls st)) : own_Go p e below En T (mkF m pc ls (.int x :: .int j :: .ref a :: st)) := by
  obtain ⟨locs, kk, nn, X, eT, N, q1, q2⟩ := S
  obtain ⟨cl, A, ck, sz, hN, H, G⟩ := FF
  obtain ⟨T', h', X', e', W, stp⟩ := stI X C.1 C.2.2.2.2.2.2.2 eT A (inb_of sz hin) (g := mkF m pc ls (.int x :: .int j :: .ref a :: st)) rfl rfl (own_hd C hd)
  exact own_step stp (k T' h' ⟨_, _, _, X', e', Fr.snoc X' N hge, q1, q2⟩ W (Arv.set A ck sz hN H G rfl W i hj hi))
theorem own_dastore (C : own_Cx p s m meth c Z own cd maxL ret nm) (S : own_S p l e R s m args below meth c n0 T h cells slots) {a : Addr} {ka : ClassId} {N j : Int32} {x : UInt64} {vs : List Value} {dv : Value} (FF : Arv Z h a ka .double N vs dv) (hin : ¬ j < 0 ∧ j < N) (i : Nat) (hj : j.toNatClampNeg = i) (hi : i < vs.length) (hge : n0 ≤ a) (hd : decode cd pc = .ok (.dastore, 1))
    (k : ∀ T' h', own_S p l e R s m args below meth c n0 T' h' cells slots → Wr h h' a j.toNatClampNeg (.double x) → Arv Z h' a ka .double N (vs.set i (.double x)) dv → own_Go p e below En T' (mkF m (pc + 1) ls st)) : own_Go p e below En T (mkF m pc ls (.double x :: .int j :: .ref a :: st)) := by
  obtain ⟨locs, kk, nn, X, eT, N, q1, q2⟩ := S
  obtain ⟨cl, A, ck, sz, hN, H, G⟩ := FF
  obtain ⟨T', h', X', e', W, stp⟩ := stD X C.1 C.2.2.2.2.2.2.2 eT A (inb_of sz hin) (g := mkF m pc ls (.double x :: .int j :: .ref a :: st)) rfl rfl (own_hd C hd)
  exact own_step stp (k T' h' ⟨_, _, _, X', e', Fr.snoc X' N hge, q1, q2⟩ W (Arv.set A ck sz hN H G rfl W i hj hi))
/-! arrays of objects, casts -/
theorem own_newR (C : own_Cx p s m meth c Z own cd maxL ret nm) (S : own_S p l e R s m args below meth c n0 T h cells slots) {index : Nat} {Cl : String} (w1 : (Jvm.Cond.classLink own index Cl).before a0 Z = true) (w2 : (Jvm.Cond.arrayOver (.object Cl)).before a0 Z = true) (hd : decode cd pc = .ok (.anewarray index, 3)) {n : Int32} (hn : ¬ n < 0) (cap : Nat) (hcap : n.toNatClampNeg ≤ cap) (hb : cap * 8 ≤ 536870912) (hc : cells + 1 ≤ R.cells) (hl : slots + cap ≤ R.slots)
    (k : ∀ T' h' a cA, own_S p l e R s m args below meth c n0 T' h' (cells + 1) (slots + cap) → a = h.size → Ext h h' → Arv Z h' a cA (.object Cl) n [] .null → Ovr Z cA Cl → own_Go p e below En T' (mkF m (pc + 3) ls (.ref a :: st))) : own_Go p e below En T (mkF m pc ls (.int n :: st)) := by
  obtain ⟨locs, kk, nn, X, eT, N, q1, q2⟩ := S
  obtain ⟨T', h', cA, X', e', E, A, O, stp⟩ := newR X C.1 C.2.2.2.2.2.2.2 C.2.2.2.1 w1 w2 eT (g := mkF m pc ls (.int n :: st)) rfl (own_hd C hd) rfl hn hcap hb (by omega) (by omega)
  exact own_step stp (k T' h' _ cA ⟨_, _, _, X', e', N, by omega, by omega⟩ rfl E (Arv.new A hn) O)
theorem own_aaload (C : own_Cx p s m meth c Z own cd maxL ret nm) (S : own_S p l e R s m args below meth c n0 T h cells slots) {a : Addr} {ka : ClassId} {ty : FieldType} {N j : Int32} {vs : List Value} {dv : Value} (FF : Arv Z h a ka ty N vs dv) (hty : ty.isReference = true) (hin : ¬ j < 0 ∧ j < N) (v : Value) (hv : vs.getD j.toNatClampNeg dv = v) (hd : decode cd pc = .ok (.aaload, 1)) (k : own_Go p e below En T (mkF m (pc + 1) ls (v :: st))) : own_Go p e below En T (mkF m pc ls (.int j :: .ref a :: st)) := by
  obtain ⟨locs, kk, nn, X, eT, -⟩ := S
  obtain ⟨cl, A, -, sz, hN, H, -⟩ := FF
  exact own_step (fun t k => X.aaload C.1 (by rw [eT]; exact A.1) (State.isArrayOf_alike C.2.2.2.2.2.2.2.alike A.2.1) hty A.2.2 (inb_of sz hin) (Has.at H (inb_of sz hin) hv) (g := mkF m pc ls (.int j :: .ref a :: st)) rfl rfl (own_hd C hd) t k) k
theorem own_aastore (C : own_Cx p s m meth c Z own cd maxL ret nm) (S : own_S p l e R s m args below meth c n0 T h cells slots) {a y : Addr} {ka : ClassId} {Cl : String} {N j : Int32} {vs : List Value} {dv : Value} (FF : Arv Z h a ka (.object Cl) N vs dv) (O : Ovr Z ka Cl) (I : Ins Z h y Cl true) (hin : ¬ j < 0 ∧ j < N) (i : Nat) (hj : j.toNatClampNeg = i) (hi : i < vs.length) (hge : n0 ≤ a) (hd : decode cd pc = .ok (.aastore, 1))
    (k : ∀ T' h', own_S p l e R s m args below meth c n0 T' h' cells slots → Wr h h' a j.toNatClampNeg (.ref y) → Arv Z h' a ka (.object Cl) N (vs.set i (.ref y)) dv → own_Go p e below En T' (mkF m (pc + 1) ls st)) : own_Go p e below En T (mkF m pc ls (.ref y :: .int j :: .ref a :: st)) := by
  obtain ⟨locs, kk, nn, X, eT, N, q1, q2⟩ := S
  obtain ⟨cl, A, ck, sz, hN, H, G⟩ := FF
  obtain ⟨T', h', X', e', W, stp⟩ := stR X C.1 C.2.2.2.2.2.2.2 eT A (inb_of sz hin) rfl (Sto.ofV A ck O I) (g := mkF m pc ls (.ref y :: .int j :: .ref a :: st)) rfl rfl (own_hd C hd)
  exact own_step stp (k T' h' ⟨_, _, _, X', e', Fr.snoc X' N hge, q1, q2⟩ W (Arv.set A ck sz hN H G rfl W i hj hi))
theorem own_cast (C : own_Cx p s m meth c Z own cd maxL ret nm) (S : own_S p l e R s m args below meth c n0 T h cells slots) {index : Nat} {K : String} {a : Addr} (w : (Jvm.Cond.classLink own index K).before a0 Z = true) (FF : Ins Z h a K true) (hd : decode cd pc = .ok (.checkcast index, 3))
    (k : ∀ T', own_S p l e R s m args below meth c n0 T' h cells slots → own_Go p e below En T' (mkF m (pc + 3) ls (.ref a :: st))) : own_Go p e below En T (mkF m pc ls (.ref a :: st)) := by
  obtain ⟨locs, kk, nn, X, eT, N, q1, q2⟩ := S
  obtain ⟨T', X', e', stp⟩ := castY X C.1 C.2.2.2.2.2.2.2 C.2.2.2.1 w eT FF (g := mkF m pc ls (.ref a :: st)) rfl rfl (own_hd C hd)
  exact own_step stp (k T' ⟨_, _, _, X', e', N, q1, q2⟩)
theorem own_inst (C : own_Cx p s m meth c Z own cd maxL ret nm) (S : own_S p l e R s m args below meth c n0 T h cells slots) {index : Nat} {K : String} {a : Addr} (w : (Jvm.Cond.classLink own index K).before a0 Z = true) (FF : Ins Z h a K true) (hd : decode cd pc = .ok (.instanceof index, 3))
    (k : ∀ T', own_S p l e R s m args below meth c n0 T' h cells slots → own_Go p e below En T' (mkF m (pc + 3) ls (.int 1 :: st))) : own_Go p e below En T (mkF m pc ls (.ref a :: st)) := by
  obtain ⟨locs, kk, nn, X, eT, N, q1, q2⟩ := S
  obtain ⟨T', X', e', stp⟩ := instY X C.1 C.2.2.2.2.2.2.2 C.2.2.2.1 w eT FF (g := mkF m pc ls (.ref a :: st)) rfl rfl (own_hd C hd)
  exact own_step stp (k T' ⟨_, _, _, X', e', N, q1, q2⟩)
/-! the end -/
theorem own_ret {t : FieldType} (C : own_Cx p s m meth c Z own cd maxL (some t) nm) (S : own_S p l e R s m args below meth c n0 T h cells slots) {i : Instr} {w : Value} (hd : decode cd pc = .ok (i, 1)) (hn : narrow t w = w)
    (hi : (i = .ireturn ∧ (t = .int ∨ t = .boolean ∨ t = .byte ∨ t = .char ∨ t = .short) ∧ ∃ z, w = .int z) ∨ (i = .lreturn ∧ t = .long ∧ ∃ z, w = .long z) ∨ (i = .dreturn ∧ t = .double ∧ ∃ z, w = .double z) ∨ (i = .freturn ∧ t = .float ∧ ∃ z, w = .float z) ∨ (i = .areturn ∧ t.isReference = true ∧ w.isRef = true))
    (hc : cells ≤ kc) (hs : slots ≤ ks) (hF : F (some w) h) : own_Go p e below (own_En s n0 F kc ks) T (mkF m pc ls (w :: st)) := by
  obtain ⟨locs, kk, nn, X, eT, N, q1, q2⟩ := S
  obtain ⟨fs, hr, hrun, hended, hW, hsame⟩ := X.leave (v := some w) (fun q => by rw [C.2.2.2.2.2.1] at q; cases q) C.2.2.2.2.2.2.1
  refine ⟨_, _, retOut X C.1 C.2.2.2.2.2.1 hn hi (own_hd C hd) hr, hrun, hended, _, _, rfl, ⟨?_, N⟩, ⟨_, rfl⟩, hW, hsame.mono (Nat.le_trans q1 hc) (Nat.le_trans q2 hs)⟩
  show F (some w) T.heap
  rw [eT]; exact hF
theorem own_retI (C : own_Cx p s m meth c Z own cd maxL (some .int) nm) (S : own_S p l e R s m args below meth c n0 T h cells slots) {z : Int32} (hd : decode cd pc = .ok (.ireturn, 1)) (hc : cells ≤ kc) (hs : slots ≤ ks) (hF : F (some (.int z)) h) : own_Go p e below (own_En s n0 F kc ks) T (mkF m pc ls (.int z :: st)) :=
  own_ret C S hd rfl (Or.inl ⟨rfl, Or.inl rfl, z, rfl⟩) hc hs hF
theorem own_retZ (C : own_Cx p s m meth c Z own cd maxL (some .boolean) nm) (S : own_S p l e R s m args below meth c n0 T h cells slots) {z : Int32} (hd : decode cd pc = .ok (.ireturn, 1)) (hz : z &&& 1 = z) (hc : cells ≤ kc) (hs : slots ≤ ks) (hF : F (some (.int z)) h) : own_Go p e below (own_En s n0 F kc ks) T (mkF m pc ls (.int z :: st)) :=
  own_ret C S hd (by show Value.int (z &&& 1) = _; rw [hz]) (Or.inl ⟨rfl, Or.inr (Or.inl rfl), z, rfl⟩) hc hs hF
theorem own_retC (C : own_Cx p s m meth c Z own cd maxL (some .char) nm) (S : own_S p l e R s m args below meth c n0 T h cells slots) {z : Int32} (hd : decode cd pc = .ok (.ireturn, 1)) (hz : z.toUInt32.toUInt16.toUInt32.toInt32 = z) (hc : cells ≤ kc) (hs : slots ≤ ks) (hF : F (some (.int z)) h) : own_Go p e below (own_En s n0 F kc ks) T (mkF m pc ls (.int z :: st)) :=
  own_ret C S hd (by show Value.int (z.toUInt32.toUInt16.toUInt32.toInt32) = _; rw [hz]) (Or.inl ⟨rfl, by simp, z, rfl⟩) hc hs hF
theorem own_retA {t : FieldType} (C : own_Cx p s m meth c Z own cd maxL (some t) nm) (S : own_S p l e R s m args below meth c n0 T h cells slots) {w : Value} (ht : t.isReference = true) (hr : w.isRef = true) (hd : decode cd pc = .ok (.areturn, 1)) (hc : cells ≤ kc) (hs : slots ≤ ks) (hF : F (some w) h) : own_Go p e below (own_En s n0 F kc ks) T (mkF m pc ls (w :: st)) :=
  own_ret C S hd (by cases w <;> simp [Value.isRef] at hr <;> cases t <;> first | rfl | (simp [FieldType.isReference] at ht)) (by simp [ht, hr]) hc hs hF
theorem own_retD (C : own_Cx p s m meth c Z own cd maxL (some .double) nm) (S : own_S p l e R s m args below meth c n0 T h cells slots) {z : UInt64} (hd : decode cd pc = .ok (.dreturn, 1)) (hc : cells ≤ kc) (hs : slots ≤ ks) (hF : F (some (.double z)) h) : own_Go p e below (own_En s n0 F kc ks) T (mkF m pc ls (.double z :: st)) :=
  own_ret C S hd rfl (by simp) hc hs hF
theorem own_retV (C : own_Cx p s m meth c Z own cd maxL none nm) (S : own_S p l e R s m args below meth c n0 T h cells slots) (hd : decode cd pc = .ok (.return_, 1)) (hc : cells ≤ kc) (hs : slots ≤ ks) (hF : F none h) : own_Go p e below (own_En s n0 F kc ks) T (mkF m pc ls []) := by
  obtain ⟨locs, kk, nn, X, eT, N, q1, q2⟩ := S
  obtain ⟨fs, hr, hrun, hended, hW, hsame⟩ := X.leave (v := none) (fun _ => rfl) C.2.2.2.2.2.2.1
  refine ⟨_, _, X.returnOut C.1 C.2.2.2.2.2.1 (own_hd C hd) hr, hrun, hended, _, _, rfl, ⟨?_, N⟩, ⟨_, rfl⟩, hW, hsame.mono (Nat.le_trans q1 hc) (Nat.le_trans q2 hs)⟩
  show F none T.heap
  rw [eT]; exact hF
/-! contracts -/
def own_Met (l : Launch) (Z : State) (y : MethodName) (cd : ByteArray) (maxL : Nat) (ret : Option FieldType) (rm : Room) (n0 : Nat) (as' : Array Value) (h0 : Heap) (Q : Option Value → Heap → Prop) : Prop :=
  ∀ ws, MetFree l y (head1 (Jvm.Cond.code y cd maxL ret :: ws) rm) (fun a U => a = as' ∧ Z.Warmed39 U.vm ∧ U.heap = h0) (fun _ _ _ _ _ => True) (fun _ U o U' => ∃ v L, o = .returned v ∧ (Q v U'.heap ∧ Fr n0 L) ∧ FrameEnd U o U' L rm.cells rm.slots)
theorem own_met {y : MethodName} {rm : Room} {as' : Array Value} {h0 : Heap} {Q : Option Value → Heap → Prop} (hp : plainFor y = true) (ls : Array Slot) (hef : ∀ m, entryFrame m as' maxL = mkF m 0 ls [])
    (H : ∀ (p : Program) (e : Env) (s : State) (m : MethodId) (below : List Frame) (meth : Method) (c : Code) (T : State), own_Cx p s m meth c Z y.cls cd maxL ret y.name → own_S p l e rm s m as' below meth c n0 T h0 0 0 → own_Go p e below (own_En s n0 Q rm.cells rm.slots) T (mkF m 0 ls [])) : own_Met l Z y cd maxL ret rm n0 as' h0 Q := by
  intro ws
  refine MetFree.of_bodySF hp hisR ?_
  intro p e s m args below meth c s₁ Bd hml hP hK
  obtain ⟨rfl, hZ, hh⟩ := hP
  have e0 : s₁.heap = h0 := by rw [← hh, Bd.state]; rfl
  have G := H p e s m below meth c s₁ ⟨Bd.exec, Bd.bytes, hml, findClass_of_methodNamed Bd.named, (name_of_methodNamed Bd.named Bd.method).1, Bd.returns, BodyLoose.notSynchronized Bd, hZ⟩ ⟨_, _, _, Stand.of_body Bd, e0, Fr.nil n0, Nat.le_refl _, Nat.le_refl _⟩
  rw [← hef m] at G
  exact G
/-! calls -/
/-- who pays a call -/
abbrev own_Pay (l : Launch) (R : Room) (p : Program) (e : Env) (below : List Frame) (s : State) (args : Array Value) (y : MethodName) (len W : Nat) (as' : Array Value) (h : Heap) (k1 k2 : Nat) (Q : Option Value → Heap → List Loc → Prop) : Prop :=
  Back l R p e below s args y len W (fun P a => a = as' ∧ P.U.heap = h ∧ P.cells + k1 ≤ R.cells ∧ P.slots + k2 ≤ R.slots) (fun P _ v B => ∃ L, Q v B.U.heap L ∧ B.locs = P.locs ++ L ∧ B.cells = P.cells + k1 ∧ B.slots = P.slots + k2)
theorem own_Met.pay {y : MethodName} {cdy : ByteArray} {maxy : Nat} {rety : Option FieldType} {rm : Room} {as' : Array Value} {Q : Option Value → Heap → Prop} (M : own_Met l Z y cdy maxy rety rm n0 as' h Q) (C : own_Cx p s m meth c Z own cd maxL ret nm) {len : Nat} (W : Nat) (wc : (Jvm.Cond.code y cdy maxy rety).before a0 Z = true) (wz : (Jvm.Cond.initialized y.cls).before a0 Z = true) (hf : rm.frames + 1 ≤ R.frames) (hl : W + (maxy + 11) + rm.locals ≤ R.locals) :
    own_Pay l R p e below s args y len W as' h rm.cells rm.slots (fun v h' L => Q v h' ∧ Fr n0 L) := backOf (Q := fun v h' L => Q v h' ∧ Fr n0 L) (M []) C.2.2.2.2.2.2.2 wc wz hf hl
theorem own_callS (C : own_Cx p s m meth c Z own cd maxL ret nm) (S : own_S p l e R s m args below meth c n0 T h cells slots) {y : MethodName} {index : Nat} {cdy : ByteArray} {maxy : Nat} {rety : Option FieldType} {W k1 k2 : Nat} {as' : Array Value} {Q : Option Value → Heap → List Loc → Prop}
    (w1 : (Jvm.Cond.methodLink own index y).before a0 Z = true) (w2 : (Jvm.Cond.static y).before a0 Z = true) (w3 : (Jvm.Cond.initialized y.cls).before a0 Z = true) (w4 : (Jvm.Cond.code y cdy maxy rety).before a0 Z = true) (hy : y.cls ≠ "java/lang/invoke/MethodHandle" ∧ y.cls ≠ "java/lang/invoke/VarHandle")
    (hK : own_Pay l R p e below s args y 3 W as' h k1 k2 Q) (hfr : ∀ v h' L, Q v h' L → Fr n0 L) (argsL rest : List Value) {ps : List FieldType} {rr : Option FieldType} (has : argsL.toArray = as') (hpd : parseMethodDescriptor y.desc = some ⟨ps, rr⟩) (hlen : argsL.length = ps.length) (hstk : st = argsL.reverse ++ rest) (hsz : ls.size = maxL) (hW : (rest.map fun v => v.category).sum ≤ W)
    (hc : cells + k1 ≤ R.cells) (hs : slots + k2 ≤ R.slots) (hd : decode cd pc = .ok (.invokestatic index, 3))
    (k : ∀ T' h' v L, own_S p l e R s m args below meth c n0 T' h' (cells + k1) (slots + k2) → Q v h' L → own_Go p e below En T' (mkF m (pc + 3) ls (v.toList ++ rest))) : own_Go p e below En T (mkF m pc ls st) := by
  obtain ⟨locs, kk, nn, X, eT, N, q1, q2⟩ := S
  have hZ := C.2.2.2.2.2.2.2
  obtain ⟨v, vm1, B, -, X', ⟨L, hQ, l1, l2, l3⟩, stp⟩ := Jvm.LawKit.callS X C.1 C.2.2.2.1 (mvT hZ w1) (mvT hZ w2) (mvT hZ w3) (mvT hZ w4) hy hK (g := mkF m pc ls st) rfl (own_hsz C hsz) (argsL := argsL) (rest := rest) (lenOf hpd hlen) hstk (by show 2 * 0 + _ ≤ W; omega) (own_hd C hd) (fun _ _ => ⟨has, eT, by show kk + k1 ≤ _; omega, by show nn + k2 ≤ _; omega⟩)
  refine own_step stp (k B.U _ v L ⟨B.locs, B.cells, B.slots, X', rfl, ?_, ?_, ?_⟩ hQ)
  · rw [l1]; exact Fr.app N (hfr _ _ _ hQ)
  · rw [l2]; show kk + k1 ≤ _; omega
  · rw [l3]; show nn + k2 ≤ _; omega
theorem own_callI (C : own_Cx p s m meth c Z own cd maxL ret nm) (S : own_S p l e R s m args below meth c n0 T h cells slots) {y : MethodName} {index : Nat} {cdy : ByteArray} {maxy : Nat} {W k1 k2 : Nat} {as' : Array Value} {Q : Option Value → Heap → List Loc → Prop}
    (hy1 : y.name = "<init>") (w1 : (Jvm.Cond.methodLink own index y).before a0 Z = true) (w2 : (Jvm.Cond.instanceMethod y).before a0 Z = true) (w4 : (Jvm.Cond.code y cdy maxy none).before a0 Z = true) (hy : y.cls ≠ "java/lang/invoke/MethodHandle" ∧ y.cls ≠ "java/lang/invoke/VarHandle")
    (hK : own_Pay l R p e below s args y 3 W as' h k1 k2 Q) (hfr : ∀ v h' L, Q v h' L → Fr n0 L) {a : Addr} (argsL rest : List Value) {ps : List FieldType} {rr : Option FieldType} (has : (.ref a :: argsL).toArray = as') (hpd : parseMethodDescriptor y.desc = some ⟨ps, rr⟩) (hlen : argsL.length = ps.length) (hstk : st = argsL.reverse ++ .ref a :: rest) (hsz : ls.size = maxL) (hW : (rest.map fun v => v.category).sum ≤ W)
    (hc : cells + k1 ≤ R.cells) (hs : slots + k2 ≤ R.slots) (hd : decode cd pc = .ok (.invokespecial index, 3))
    (k : ∀ T' h' v L, own_S p l e R s m args below meth c n0 T' h' (cells + k1) (slots + k2) → Q v h' L → own_Go p e below En T' (mkF m (pc + 3) ls (v.toList ++ rest))) : own_Go p e below En T (mkF m pc ls st) := by
  obtain ⟨locs, kk, nn, X, eT, N, q1, q2⟩ := S
  have hZ := C.2.2.2.2.2.2.2
  obtain ⟨v, vm1, B, -, X', ⟨L, hQ, l1, l2, l3⟩, stp⟩ := X.specialBack C.1 hy1 C.2.2.2.1 (mvT hZ w1) (mvT hZ w2) (mvT hZ w4) hy hK (g := mkF m pc ls st) rfl (own_hsz C hsz) (Steps.refl _) (a := a) (argsL := argsL) (rest := rest) (lenOf hpd hlen) hstk (by show 2 * 0 + _ ≤ W; omega) (own_hd C hd) (fun _ _ => ⟨has, eT, by show kk + k1 ≤ _; omega, by show nn + k2 ≤ _; omega⟩)
  refine own_step (fun t k => stp.trans k) (k B.U _ v L ⟨B.locs, B.cells, B.slots, X', rfl, ?_, ?_, ?_⟩ hQ)
  · rw [l1]; exact Fr.app N (hfr _ _ _ hQ)
  · rw [l2]; show kk + k1 ≤ _; omega
  · rw [l3]; show nn + k2 ≤ _; omega
theorem own_nf {args : Array Value} {s : State} {C : String} {y y' : MethodName} (hyc : y'.cls = y.cls) (hsel : (Jvm.Cond.selects C y' y').before args s = true) : NotFace s y := fun r0 h0 => by
  obtain ⟨c2, r2, m2, q1, q2, q3, q4, kP, hkP, hkPi⟩ := Cond.selects_spec hsel
  have e1 := findClass_of_methodNamed h0
  have e2 := findClass_of_methodNamed q3
  rw [hyc, e1] at e2
  rw [Option.some.inj e2]
  exact ⟨kP, hkP, hkPi⟩
theorem own_selfP {C : String} {y : MethodName} (w1 : (Jvm.Cond.instanceMethod y).before a0 Z = true) (w2 : (Jvm.Cond.privateMethod y).before a0 Z = true) (w3 : (Jvm.Cond.selects C y y).before a0 Z = true) (hy : y.cls ≠ "java/lang/invoke/MethodHandle" ∧ y.cls ≠ "java/lang/invoke/VarHandle") : (Jvm.Cond.selects y.cls y y).before a0 Z = true := by
  obtain ⟨mk, methM, hnamed, hmethM, -, -⟩ := Cond.instanceMethod_spec w1
  obtain ⟨k, hk, hki⟩ := notFace_of_selects w3 mk hnamed
  exact selects_self_of_private (findClass_of_methodNamed hnamed) hk hki (Cond.privateMethod_at w2) w1 hy
theorem own_same {C : String} {y y' : MethodName} (hyc : y'.cls = y.cls) (w1 : (Jvm.Cond.instanceMethod y).before a0 Z = true) (w3 : (Jvm.Cond.selects C y' y').before a0 Z = true) (hy : y.cls ≠ "java/lang/invoke/MethodHandle" ∧ y.cls ≠ "java/lang/invoke/VarHandle") : (Jvm.Cond.sameMethod y.cls y.cls y.name y.desc).before a0 Z = true := by
  obtain ⟨mk, methM, hnamed, hmethM, -, -⟩ := Cond.instanceMethod_spec w1
  obtain ⟨k, hk, hki⟩ := own_nf hyc w3 mk hnamed
  have hf : Z.methodFound? y.cls y.name y.desc = some mk := State.methodFound?_of_named hnamed hy
  have hc := findClass_of_methodNamed hnamed
  have hn' : Z.methodNamed? ⟨y.cls, y.name, y.desc⟩ = some mk := hnamed
  simp only [Cond.before, Cond.holds, Cond.value, hc, hf, hn', hk]
  simp [hki]
theorem own_callV (C : own_Cx p s m meth c Z own cd maxL ret nm) (S : own_S p l e R s m args below meth c n0 T h cells slots) {y z : MethodName} {Cl : String} {index : Nat} {W k1 k2 : Nat} {as' : Array Value} {Q : Option Value → Heap → List Loc → Prop}
    (w1 : (Jvm.Cond.methodLink own index y).before a0 Z = true) (w2 : (Jvm.Cond.declares y).before a0 Z = true) (w3 : (Jvm.Cond.selects Cl y z).before a0 Z = true) {Cl' : String} {y' : MethodName} (hyc : y'.cls = y.cls) (w3' : (Jvm.Cond.selects Cl' y' y').before a0 Z = true) (w4 : (Jvm.Cond.instanceMethod z).before a0 Z = true) (hy : y.cls ≠ "java/lang/invoke/MethodHandle" ∧ y.cls ≠ "java/lang/invoke/VarHandle")
    (hK : own_Pay l R p e below s args z 3 W as' h k1 k2 Q) (hfr : ∀ v h' L, Q v h' L → Fr n0 L) {a : Addr} (E : Exa Z h a Cl) (argsL rest : List Value) {ps : List FieldType} {rr : Option FieldType} (has : (.ref a :: argsL).toArray = as') (hpd : parseMethodDescriptor y.desc = some ⟨ps, rr⟩) (hlen : argsL.length = ps.length) (hstk : st = argsL.reverse ++ .ref a :: rest) (hsz : ls.size = maxL) (hW : (rest.map fun v => v.category).sum ≤ W)
    (hc : cells + k1 ≤ R.cells) (hs : slots + k2 ≤ R.slots) (hd : decode cd pc = .ok (.invokevirtual index, 3))
    (k : ∀ T' h' v L, own_S p l e R s m args below meth c n0 T' h' (cells + k1) (slots + k2) → Q v h' L → own_Go p e below En T' (mkF m (pc + 3) ls (v.toList ++ rest))) : own_Go p e below En T (mkF m pc ls st) := by
  obtain ⟨locs, kk, nn, X, eT, N, q1, q2⟩ := S
  have hZ := C.2.2.2.2.2.2.2
  obtain ⟨cq, kq, qa, qb, qc⟩ := isOf (T := T) hZ eT E
  obtain ⟨v, vm1, B, -, X', ⟨L, hQ, l1, l2, l3⟩, stp⟩ := X.virtualBack C.1 C.2.2.2.1 (mvT hZ w1) (mvT hZ w2) (own_nf (args := #[]) hyc (mvT hZ w3')) (mvT hZ w3) (mvT hZ w4) hy hK qa qc (g := mkF m pc ls st) rfl (own_hsz C hsz) (Steps.refl _) (argsL := argsL) (rest := rest) (lenOf hpd hlen) hstk (by show 2 * 0 + _ ≤ W; omega) (own_hd C hd) (fun _ _ => ⟨has, eT, by show kk + k1 ≤ _; omega, by show nn + k2 ≤ _; omega⟩)
  refine own_step (fun t k => stp.trans k) (k B.U _ v L ⟨B.locs, B.cells, B.slots, X', rfl, ?_, ?_, ?_⟩ hQ)
  · rw [l1]; exact Fr.app N (hfr _ _ _ hQ)
  · rw [l2]; show kk + k1 ≤ _; omega
  · rw [l3]; show nn + k2 ≤ _; omega
theorem own_callP (C : own_Cx p s m meth c Z own cd maxL ret nm) (S : own_S p l e R s m args below meth c n0 T h cells slots) {y : MethodName} {index : Nat} {cdy : ByteArray} {maxy : Nat} {rety : Option FieldType} {W k1 k2 : Nat} {as' : Array Value} {Q : Option Value → Heap → List Loc → Prop}
    (w1 : (Jvm.Cond.methodLink own index y).before a0 Z = true) (w2 : (Jvm.Cond.instanceMethod y).before a0 Z = true) (w3 : (Jvm.Cond.selects y.cls y y).before a0 Z = true) (w4 : (Jvm.Cond.privateMethod y).before a0 Z = true) (w5 : (Jvm.Cond.code y cdy maxy rety).before a0 Z = true) (hy : y.cls ≠ "java/lang/invoke/MethodHandle" ∧ y.cls ≠ "java/lang/invoke/VarHandle")
    (hK : own_Pay l R p e below s args y 3 W as' h k1 k2 Q) (hfr : ∀ v h' L, Q v h' L → Fr n0 L) {a : Addr} {Cl : String} (E : Exa Z h a Cl) (argsL rest : List Value) {ps : List FieldType} {rr : Option FieldType} (has : (.ref a :: argsL).toArray = as') (hpd : parseMethodDescriptor y.desc = some ⟨ps, rr⟩) (hlen : argsL.length = ps.length) (hstk : st = argsL.reverse ++ .ref a :: rest) (hsz : ls.size = maxL) (hW : (rest.map fun v => v.category).sum ≤ W)
    (hc : cells + k1 ≤ R.cells) (hs : slots + k2 ≤ R.slots) (hd : decode cd pc = .ok (.invokevirtual index, 3))
    (k : ∀ T' h' v L, own_S p l e R s m args below meth c n0 T' h' (cells + k1) (slots + k2) → Q v h' L → own_Go p e below En T' (mkF m (pc + 3) ls (v.toList ++ rest))) : own_Go p e below En T (mkF m pc ls st) := by
  obtain ⟨locs, kk, nn, X, eT, N, q1, q2⟩ := S
  have hZ := C.2.2.2.2.2.2.2
  obtain ⟨cl, hcl, hns⟩ := E.cell
  obtain ⟨v, vm1, B, -, X', ⟨L, hQ, l1, l2, l3⟩, stp⟩ := X.privateBack C.1 C.2.2.2.1 (mvT hZ w1) (mvT hZ w2) (mvT hZ w3) (Cond.privateMethod_at (mvP (args := args) hZ w4)) (mvT hZ w5) hy hK (g := mkF m pc ls st) rfl (own_hsz C hsz) (Steps.refl _) (a := a) (cell := cl) (by rw [eT]; exact hcl) hns (argsL := argsL) (rest := rest) (lenOf hpd hlen) hstk (by show 2 * 0 + _ ≤ W; omega) (own_hd C hd) (fun _ _ => ⟨has, eT, by show kk + k1 ≤ _; omega, by show nn + k2 ≤ _; omega⟩)
  refine own_step (fun t k => stp.trans k) (k B.U _ v L ⟨B.locs, B.cells, B.slots, X', rfl, ?_, ?_, ?_⟩ hQ)
  · rw [l1]; exact Fr.app N (hfr _ _ _ hQ)
  · rw [l2]; show kk + k1 ≤ _; omega
  · rw [l3]; show nn + k2 ≤ _; omega
theorem own_callF (C : own_Cx p s m meth c Z own cd maxL ret nm) (S : own_S p l e R s m args below meth c n0 T h cells slots) {y z : MethodName} {Cl : String} {index count : Nat} {W k1 k2 : Nat} {as' : Array Value} {Q : Option Value → Heap → List Loc → Prop}
    (w1 : (Jvm.Cond.methodLink own index y).before a0 Z = true) (w2 : (Jvm.Cond.declares y).before a0 Z = true) (w3 : (Jvm.Cond.interfaceMethod y.cls y.cls y.name y.desc).before a0 Z = true) (hfa : ((Jvm.Cond.interfaceMethod y.cls y.cls y.name y.desc).onTables && (Jvm.Cond.interfaceMethod y.cls y.cls y.name y.desc).keepsFace) = true) (w4 : (Jvm.Cond.selects Cl y z).before a0 Z = true) (w5 : (Jvm.Cond.instanceMethod z).before a0 Z = true) (w6 : (Jvm.Cond.publicMethod z).before a0 Z = true) (w7 : (Jvm.Cond.unhidden Cl y.name y.desc).before a0 Z = true) (w8 : (Jvm.Cond.castable Cl y.cls).before a0 Z = true) (hy : y.cls ≠ "java/lang/invoke/MethodHandle" ∧ y.cls ≠ "java/lang/invoke/VarHandle")
    (hK : own_Pay l R p e below s args z 5 W as' h k1 k2 Q) (hfr : ∀ v h' L, Q v h' L → Fr n0 L) {a : Addr} (E : Exa Z h a Cl) (argsL rest : List Value) {ps : List FieldType} {rr : Option FieldType} (has : (.ref a :: argsL).toArray = as') (hpd : parseMethodDescriptor y.desc = some ⟨ps, rr⟩) (hlen : argsL.length = ps.length) (hstk : st = argsL.reverse ++ .ref a :: rest) (hsz : ls.size = maxL) (hW : (rest.map fun v => v.category).sum ≤ W)
    (hc : cells + k1 ≤ R.cells) (hs : slots + k2 ≤ R.slots) (hd : decode cd pc = .ok (.invokeinterface index count, 5))
    (k : ∀ T' h' v L, own_S p l e R s m args below meth c n0 T' h' (cells + k1) (slots + k2) → Q v h' L → own_Go p e below En T' (mkF m (pc + 5) ls (v.toList ++ rest))) : own_Go p e below En T (mkF m pc ls st) := by
  obtain ⟨locs, kk, nn, X, eT, N, q1, q2⟩ := S
  have hZ := C.2.2.2.2.2.2.2
  obtain ⟨cq, kq, qa, qb, qc⟩ := isOf (T := T) hZ eT E
  obtain ⟨v, vm1, B, -, X', ⟨L, hQ, l1, l2, l3⟩, stp⟩ := X.interfaceBack C.1 C.2.2.2.1 (mvT hZ w1) (mvT hZ w2) (mvT hZ w3 hfa) (mvT hZ w4) (mvT hZ w5) (mvT hZ w6) (mvT hZ w7) (mvT hZ w8) hy hK qa qb qc (g := mkF m pc ls st) rfl (own_hsz C hsz) (Steps.refl _) (argsL := argsL) (rest := rest) (lenOf hpd hlen) hstk (by show 2 * 0 + _ ≤ W; omega) (own_hd C hd) (fun _ _ => ⟨has, eT, by show kk + k1 ≤ _; omega, by show nn + k2 ≤ _; omega⟩)
  refine own_step (fun t k => stp.trans k) (k B.U _ v L ⟨B.locs, B.cells, B.slots, X', rfl, ?_, ?_, ?_⟩ hQ)
  · rw [l1]; exact Fr.app N (hfr _ _ _ hQ)
  · rw [l2]; show kk + k1 ≤ _; omega
  · rw [l3]; show nn + k2 ≤ _; omega
theorem own_callX (C : own_Cx p s m meth c Z own cd maxL ret nm) (S : own_S p l e R s m args below meth c n0 T h cells slots) {y : MethodName} {K : String} {index : Nat} {cdy : ByteArray} {maxy : Nat} {rety : Option FieldType} {W k1 k2 : Nat} {as' : Array Value} {Q : Option Value → Heap → List Loc → Prop}
    (w1 : (Jvm.Cond.methodLink own index y).before a0 Z = true) (w2 : (Jvm.Cond.sameMethod y.cls y.cls y.name y.desc).before a0 Z = true) (w3 : (Jvm.Cond.instanceMethod y).before a0 Z = true) (w4 : (Jvm.Cond.superclass own y.cls).before a0 Z = true) (hn : y.name ≠ "<init>") (w5 : (Jvm.Cond.code y cdy maxy rety).before a0 Z = true)
    (hK : own_Pay l R p e below s args y 3 W as' h k1 k2 Q) (hfr : ∀ v h' L, Q v h' L → Fr n0 L) {a : Addr} (E : Ins Z h a K true) (argsL rest : List Value) {ps : List FieldType} {rr : Option FieldType} (has : (.ref a :: argsL).toArray = as') (hpd : parseMethodDescriptor y.desc = some ⟨ps, rr⟩) (hlen : argsL.length = ps.length) (hstk : st = argsL.reverse ++ .ref a :: rest) (hsz : ls.size = maxL) (hW : (rest.map fun v => v.category).sum ≤ W)
    (hc : cells + k1 ≤ R.cells) (hs : slots + k2 ≤ R.slots) (hd : decode cd pc = .ok (.invokespecial index, 3))
    (k : ∀ T' h' v L, own_S p l e R s m args below meth c n0 T' h' (cells + k1) (slots + k2) → Q v h' L → own_Go p e below En T' (mkF m (pc + 3) ls (v.toList ++ rest))) : own_Go p e below En T (mkF m pc ls st) := by
  obtain ⟨locs, kk, nn, X, eT, N, q1, q2⟩ := S
  obtain ⟨v, vm1, B, -, X', ⟨L, hQ, l1, l2, l3⟩, stp⟩ := superBack X C.1 C.2.2.2.2.2.2.2 C.2.2.2.1 w1 w2 w3 w4 hn hK eT E (g := mkF m pc ls st) rfl (own_hsz C hsz) w5 (argsL := argsL) (rest := rest) (lenOf hpd hlen) hstk (by show 2 * 0 + _ ≤ W; omega) (own_hd C hd) (fun _ _ => ⟨has, eT, by show kk + k1 ≤ _; omega, by show nn + k2 ≤ _; omega⟩)
  refine own_step (fun t k => stp.trans k) (k B.U _ v L ⟨B.locs, B.cells, B.slots, X', rfl, ?_, ?_, ?_⟩ hQ)
  · rw [l1]; exact Fr.app N (hfr _ _ _ hQ)
  · rw [l2]; show kk + k1 ≤ _; omega
  · rw [l3]; show nn + k2 ≤ _; omega
/-- System.arraycopy over arrays of one plain kind -/
theorem own_copy (C : own_Cx p s m meth c Z own cd maxL ret nm) (S : own_S p l e R s m args below meth c n0 T h cells slots) {index : Nat} (w1 : (Jvm.Cond.methodLink own index Jvm.Stand.acN).before a0 Z = true) (w2 : (Jvm.Cond.native Jvm.Stand.acN).before a0 Z = true) (w3 : (Jvm.Cond.static Jvm.Stand.acN).before a0 Z = true) (w4 : (Jvm.Cond.initialized "java/lang/System").before a0 Z = true)
    {a b : Addr} {ka kb : ClassId} {ty : FieldType} {z z' sp dp nn : Int32} {vs vd : List Value} {dv dd : Value} (A : Arv Z h a ka ty z vs dv) (B : Arv Z h b kb ty z' vd dd) (hty : refKind ty = false) (h1 : ¬ sp < 0) (h2 : ¬ dp < 0) (h3 : ¬ nn < 0) (h4 : sp.toNatClampNeg + nn.toNatClampNeg ≤ z.toNatClampNeg) (h5 : dp.toNatClampNeg + nn.toNatClampNeg ≤ z'.toNatClampNeg) (hl : dp.toNatClampNeg + nn.toNatClampNeg ≤ vd.length) (ge : n0 ≤ b)
    (us : List Value) (hus : vd.take dp.toNatClampNeg ++ ((List.range nn.toNatClampNeg).map fun i => vs.getD (sp.toNatClampNeg + i) dv) ++ vd.drop (dp.toNatClampNeg + nn.toNatClampNeg) = us) (hsz : ls.size = maxL) (hd : decode cd pc = .ok (.invokestatic index, 3)) (hf : 1 ≤ R.frames) (W : Nat) (hW : (st.map fun v => v.category).sum ≤ W) (hlo : W + (nativeFrameWords "java/lang/System" "arraycopy" 5 + 11) ≤ R.locals)
    (k : ∀ T' h', own_S p l e R s m args below meth c n0 T' h' cells slots → Keep h h' [b] → Arv Z h' b kb ty z' us dd → own_Go p e below En T' (mkF m (pc + 3) ls st)) : own_Go p e below En T (mkF m pc ls (.int nn :: .int dp :: .ref b :: .int sp :: .ref a :: st)) := by
  obtain ⟨locs, kk, nn', X, eT, N, q1, q2⟩ := S
  obtain ⟨T', h', L, X', e', N', K, B', stp⟩ := cpA X C.1 C.2.2.2.2.2.2.2 C.2.2.2.1 w1 w2 w3 w4 eT A B (Or.inl ⟨rfl, hty⟩) h1 h2 h3 h4 h5 rfl hl N ge (g := mkF m pc ls (.int nn :: .int dp :: .ref b :: .int sp :: .ref a :: st)) rfl (own_hsz C hsz) rfl (own_hd C hd) hf (W := W) (by show 2 * 0 + _ ≤ W; omega) hlo
  rw [hus] at B'
  exact own_step stp (k T' h' ⟨_, _, _, X', e', N', q1, q2⟩ K B')
/-- ireturn of a byte -/
theorem own_retB (C : own_Cx p s m meth c Z own cd maxL (some .byte) nm) (S : own_S p l e R s m args below meth c n0 T h cells slots) {z : Int32} (hd : decode cd pc = .ok (.ireturn, 1)) (hz : z.toInt8.toInt32 = z) (hc : cells ≤ kc) (hs : slots ≤ ks) (hF : F (some (.int z)) h) : own_Go p e below (own_En s n0 F kc ks) T (mkF m pc ls (.int z :: st)) :=
  own_ret C S hd (by show Value.int (z.toInt8.toInt32) = _; rw [hz]) (Or.inl ⟨rfl, by simp, z, rfl⟩) hc hs hF
end OwnKit
-- OWN KIT, WIDE: walks that may load String constants (the library's CHv, CHr, Safe, Since)
section OwnKitW
open Jvm.Free.SB Jvm.Free.SBG
variable {p : Program} {l : Launch} {e : Env} {R : Room} {s : State} {m : MethodId} {args : Array Value} {below : List Frame} {meth : Method} {c : Code} {T : State} {locs : List Loc} {cells slots : Nat} {Z : State} {a0 : Array Value} {h : Heap} {own : String} {cd : ByteArray} {maxL : Nat} {ret : Option FieldType} {nm : String} {n0 : Nat} {F : Option Value → Heap → Prop} {kc ks : Nat} {En : Outcome → State → Prop} {pc : Nat} {ls : Array Slot} {st : List Value} {EL : List (String × Nat)} {G : List Addr}
def own_EnW (s : State) (n0 : Nat) (Z : State) (EL : List (String × Nat)) (F : Option Value → Heap → Prop) (kc ks : Nat) (o : Outcome) (s₂ : State) : Prop :=
  ∃ v L, o = .returned v ∧ (F v s₂.heap ∧ Fr n0 L) ∧ CHr Z EL s.vm s.heap s₂.vm s₂.heap ∧ ReturnedEndW s o s₂ L kc ks
def own_CxW (p : Program) (meth : Method) (c : Code) (Z : State) (a0 : Array Value) (EL : List (String × Nat)) (cd : ByteArray) (maxL : Nat) (ret : Option FieldType) (nm : String) : Prop :=
  p.tables.exec = Jvm.exec ∧ c.code = cd ∧ c.maxLocals = maxL ∧ meth.name = nm ∧ meth.sig.returnType = ret ∧ meth.locks = false ∧ EW Z a0 EL ∧ ∀ a ∈ Bundle.stringAtoms, a.before a0 Z = true
def own_SW (p : Program) (l : Launch) (e : Env) (R : Room) (s : State) (m : MethodId) (args : Array Value) (below : List Frame) (meth : Method) (c : Code) (n0 : Nat) (Z : State) (EL : List (String × Nat)) (own : String) (T : State) (h : Heap) (G : List Addr) (cells slots : Nat) : Prop :=
  ∃ vm0 k0, own_S p l e R (s.setVm vm0) m args below meth c n0 T h cells slots ∧ s.Since vm0 k0 ∧ k0 ≤ h.size ∧ Z.Warmed39 vm0 ∧ vm0.findClass own = some m.cls ∧ CHr Z EL s.vm s.heap vm0 h ∧ ∀ x ∈ G, x < h.size ∧ Safe Z EL vm0 h x
/-- an object of another class than String and byte[] is safe -/
theorem own_SW.addE (S : own_SW p l e R s m args below meth c n0 Z EL own T h G cells slots) {a : Addr} {C : String} (E : Exa Z h a C) (h1 : C ≠ "java/lang/String") (h2 : C ≠ "[B") : own_SW p l e R s m args below meth c n0 Z EL own T h (a :: G) cells slots := by
  obtain ⟨vm0, k0, S0, hS, hk, hZ, ho, hC, hG⟩ := S
  refine ⟨vm0, k0, S0, hS, hk, hZ, ho, hC, fun x hx => ?_⟩
  rcases List.mem_cons.mp hx with rfl | hx
  · exact ⟨E.lt, Safe.exa hZ.alike E h1 h2⟩
  · exact hG x hx
theorem own_SW.addA (S : own_SW p l e R s m args below meth c n0 Z EL own T h G cells slots) {a : Addr} {k : ClassId} {ty : FieldType} {z : Int32} {vs : List Value} {dv : Value} (A : Arv Z h a k ty z vs dv) (h1 : ty ≠ .byte) : own_SW p l e R s m args below meth c n0 Z EL own T h (a :: G) cells slots := by
  obtain ⟨vm0, k0, S0, hS, hk, hZ, ho, hC, hG⟩ := S
  refine ⟨vm0, k0, S0, hS, hk, hZ, ho, hC, fun x hx => ?_⟩
  rcases List.mem_cons.mp hx with rfl | hx
  · exact ⟨A.lt, Safe.arv hZ.alike A h1⟩
  · exact hG x hx
/-- between two loads the walk is a narrow one, over the start with the tables at hand; 'rb' leads back -/
theorem own_lift (C : own_CxW p meth c Z a0 EL cd maxL ret nm) (S : own_SW p l e R s m args below meth c n0 Z EL own T h G cells slots) {g : JFrame}
    (k : ∀ vm0, own_Cx p (s.setVm vm0) m meth c Z own cd maxL ret nm → own_S p l e R (s.setVm vm0) m args below meth c n0 T h cells slots →
      (∀ T' h' c' s' ws N, own_S p l e R (s.setVm vm0) m args below meth c n0 T' h' c' s' → Keep h h' ws → (∀ x ∈ ws, x ∈ G) → (∀ x ∈ N, h.size ≤ x ∧ x < h'.size) → own_SW p l e R s m args below meth c n0 Z EL own T' h' (N ++ G) c' s') → own_Go p e below En T g) : own_Go p e below En T g := by
  obtain ⟨vm0, k0, S0, hS, hk, hZ, ho, hC, hG⟩ := S
  refine k vm0 ⟨C.1, C.2.1, C.2.2.1, ho, C.2.2.2.1, C.2.2.2.2.1, C.2.2.2.2.2.1, hZ⟩ S0 fun T' h' c' s' ws N S' K hws hN => ?_
  have hs : ∀ x ∈ ws, Safe Z EL vm0 h x := fun x hx => (hG x (hws x hx)).2
  refine ⟨vm0, k0, S', hS, Nat.le_trans hk K.1, hZ, ho, hC.trans (CHr.keep K hs hC.1), fun x hx => ?_⟩
  rcases List.mem_append.mp hx with hx | hx
  · exact ⟨(hN x hx).2, Safe.keep K hs hC.1 (Safe.new (hN x hx).1)⟩
  · exact ⟨Nat.lt_of_lt_of_le (hG x hx).1 K.1, Safe.keep K hs hC.1 (hG x hx).2⟩
/-- ldc of a String constant of EL, read -/
theorem own_ldcW (C : own_CxW p meth c Z a0 EL cd maxL ret nm) (S : own_SW p l e R s m args below meth c n0 Z EL own T h G cells slots) {index : Nat} {text : String} (w : (Jvm.Cond.stringLink own index text).before a0 Z = true) (hmem : (own, index) ∈ EL) {vs : List Value} {z : Int32} (ht : (∀ c ∈ text.toList, c.toNat < 256) ∧ text.toList.map (fun c => Value.int (Jvm.Lit.byteI c.toNat.toUInt16)) = vs) (hz : ¬ z < 0) (hl : z.toNatClampNeg = vs.length)
    (hd : decode cd pc = .ok (.ldc index, 2)) (n : Nat) (hn : 4 * text.toList.length ≤ n) (hbig : n ≤ 536870912) (hc : cells + 2 ≤ R.cells) (hl' : slots + (n + 4) ≤ R.slots)
    (k : ∀ T' h' a b kb, own_SW p l e R s m args below meth c n0 Z EL own T' h' G (cells + 2) (slots + (n + 4)) → Ext h h' → Exa Z h' a "java/lang/String" → Fld Z h' a "java/lang/String" "coder" "B" (.int 0) → Fld Z h' a "java/lang/String" "value" "[B" (.ref b) → Arv Z h' b kb .byte z vs (.int 0) → (∀ x ∈ G, x ≠ a ∧ x ≠ b) → own_Go p e below En T' (mkF m (pc + 2) ls (.ref a :: st))) : own_Go p e below En T (mkF m pc ls st) := by
  obtain ⟨vm0, k0, ⟨locs, kk, nn, X, eT, N, q1, q2⟩, hS, hk, hZ, ho, hC, hG⟩ := S
  obtain ⟨a, T', h', k1, b, kb, X', e', E, hS', hk', hZ', ho', x1, x2, x3, x4, x5, x6, hC', hL, hne, stp⟩ := ldcCH X C.1 hZ ho w C.2.2.2.2.2.2.2 eT hS hk C.2.2.2.2.2.2.1 hmem hC.1 ht hz hl (g := mkF m pc ls st) rfl (by rw [C.2.1]; exact hd) hn hbig (by omega) (by omega)
  have hG' : ∀ x ∈ G, x < h'.size ∧ Safe Z EL T'.vm h' x := fun x hx => ⟨Nat.lt_of_lt_of_le (hG x hx).1 E.1, hC'.safe (hG x hx).1 (hG x hx).2⟩
  exact own_step stp (k T' h' a b kb ⟨T'.vm, k1, ⟨locs, _, _, X', e', N, by omega, by omega⟩, hS', hk', hZ', ho', hC.trans hC', hG'⟩ E x1 x2 x3 x4 fun x hx => hne x (hG' x hx).2)
/-- ldc of any String constant: which text it is isn't said -/
theorem own_ldcO (C : own_CxW p meth c Z a0 EL cd maxL ret nm) (S : own_SW p l e R s m args below meth c n0 Z EL own T h G cells slots) {index : Nat} {text : String} (w : (Jvm.Cond.stringLink own index text).before a0 Z = true)
    (hd : decode cd pc = .ok (.ldc index, 2)) (n : Nat) (hn : 4 * text.toList.length ≤ n) (hbig : n ≤ 536870912) (hc : cells + 2 ≤ R.cells) (hl' : slots + (n + 4) ≤ R.slots)
    (k : ∀ T' h' a, own_SW p l e R s m args below meth c n0 Z EL own T' h' G (cells + 2) (slots + (n + 4)) → Ext h h' → own_Go p e below En T' (mkF m (pc + 2) ls (.ref a :: st))) : own_Go p e below En T (mkF m pc ls st) := by
  obtain ⟨vm0, k0, ⟨locs, kk, nn, X, eT, N, q1, q2⟩, hS, hk, hZ, ho, hC, hG⟩ := S
  obtain ⟨a, T', h', k1, X', e', E, hS', hk', hZ', ho', hC', hL, stp⟩ := ldcOH X C.1 hZ ho w C.2.2.2.2.2.2.2 eT hS hk C.2.2.2.2.2.2.1 hC.1 (g := mkF m pc ls st) rfl (by rw [C.2.1]; exact hd) hn hbig (by omega) (by omega)
  have hG' : ∀ x ∈ G, x < h'.size ∧ Safe Z EL T'.vm h' x := fun x hx => ⟨Nat.lt_of_lt_of_le (hG x hx).1 E.1, hC'.safe (hG x hx).1 (hG x hx).2⟩
  exact own_step stp (k T' h' a ⟨T'.vm, k1, ⟨locs, _, _, X', e', N, by omega, by omega⟩, hS', hk', hZ', ho', hC.trans hC', hG'⟩ E)
/-! the end -/
theorem own_endW (C : own_CxW p meth c Z a0 EL cd maxL ret nm) (S : own_SW p l e R s m args below meth c n0 Z EL own T h G cells slots) {v : Option Value} (hv : meth.sig.returnType = none → v = none) {g : JFrame}
    (hst : ∀ locs kk nn vm0 fs, Stand p l e R (s.setVm vm0) m args below meth c T locs kk nn → (∀ (f : JFrame) (acts : List Action), f.method = m → f.locked = none → f.entered = [] → (doReturn e (T.setTop f) acts v).1 = T.setFrames fs) → Steps p.tables e below (T.setTop g) (T.setFrames fs)) (hc : cells ≤ kc) (hs : slots ≤ ks) (hF : F v h) : own_Go p e below (own_EnW s n0 Z EL F kc ks) T g := by
  obtain ⟨vm0, k0, ⟨locs, kk, nn, X, eT, N, q1, q2⟩, hS, hk, hZ, ho, hC, hG⟩ := S
  obtain ⟨fs, hr, hrun, hended, hret⟩ := X.leaveW hS (by rw [eT]; exact hk) hv C.2.2.2.2.2.1
  refine ⟨_, _, hst locs kk nn vm0 fs X hr, hrun, hended, v, locs, rfl, ⟨?_, N⟩, ?_, ?_⟩
  · show F v T.heap
    rw [eT]; exact hF
  · show CHr Z EL s.vm s.heap T.vm T.heap
    rw [eT]
    exact hC.trans (CHv.at X hZ C.2.2.2.2.2.2.1 hC.1)
  · exact ⟨hret.1, hret.2.1, hret.2.2.1, hret.2.2.2.mono (Nat.le_trans q1 hc) (Nat.le_trans q2 hs)⟩
theorem own_retW {t : FieldType} (C : own_CxW p meth c Z a0 EL cd maxL (some t) nm) (S : own_SW p l e R s m args below meth c n0 Z EL own T h G cells slots) {i : Instr} {w : Value} (hd : decode cd pc = .ok (i, 1)) (hn : narrow t w = w)
    (hi : (i = .ireturn ∧ (t = .int ∨ t = .boolean ∨ t = .byte ∨ t = .char ∨ t = .short) ∧ ∃ z, w = .int z) ∨ (i = .lreturn ∧ t = .long ∧ ∃ z, w = .long z) ∨ (i = .dreturn ∧ t = .double ∧ ∃ z, w = .double z) ∨ (i = .freturn ∧ t = .float ∧ ∃ z, w = .float z) ∨ (i = .areturn ∧ t.isReference = true ∧ w.isRef = true))
    (hc : cells ≤ kc) (hs : slots ≤ ks) (hF : F (some w) h) : own_Go p e below (own_EnW s n0 Z EL F kc ks) T (mkF m pc ls (w :: st)) :=
  own_endW C S (fun q => by rw [C.2.2.2.2.1] at q; cases q) (fun locs kk nn vm0 fs X hr => retOut X C.1 C.2.2.2.2.1 hn hi (by rw [C.2.1]; exact hd) hr) hc hs hF
theorem own_retIW (C : own_CxW p meth c Z a0 EL cd maxL (some .int) nm) (S : own_SW p l e R s m args below meth c n0 Z EL own T h G cells slots) {z : Int32} (hd : decode cd pc = .ok (.ireturn, 1)) (hc : cells ≤ kc) (hs : slots ≤ ks) (hF : F (some (.int z)) h) : own_Go p e below (own_EnW s n0 Z EL F kc ks) T (mkF m pc ls (.int z :: st)) :=
  own_retW C S hd rfl (Or.inl ⟨rfl, Or.inl rfl, z, rfl⟩) hc hs hF
theorem own_retZW (C : own_CxW p meth c Z a0 EL cd maxL (some .boolean) nm) (S : own_SW p l e R s m args below meth c n0 Z EL own T h G cells slots) {z : Int32} (hd : decode cd pc = .ok (.ireturn, 1)) (hz : z &&& 1 = z) (hc : cells ≤ kc) (hs : slots ≤ ks) (hF : F (some (.int z)) h) : own_Go p e below (own_EnW s n0 Z EL F kc ks) T (mkF m pc ls (.int z :: st)) :=
  own_retW C S hd (by show Value.int (z &&& 1) = _; rw [hz]) (Or.inl ⟨rfl, Or.inr (Or.inl rfl), z, rfl⟩) hc hs hF
theorem own_retAW {t : FieldType} (C : own_CxW p meth c Z a0 EL cd maxL (some t) nm) (S : own_SW p l e R s m args below meth c n0 Z EL own T h G cells slots) {w : Value} (ht : t.isReference = true) (hr : w.isRef = true) (hd : decode cd pc = .ok (.areturn, 1)) (hc : cells ≤ kc) (hs : slots ≤ ks) (hF : F (some w) h) : own_Go p e below (own_EnW s n0 Z EL F kc ks) T (mkF m pc ls (w :: st)) :=
  own_retW C S hd (by cases w <;> simp [Value.isRef] at hr <;> cases t <;> first | rfl | (simp [FieldType.isReference] at ht)) (by simp [ht, hr]) hc hs hF
theorem own_retVW (C : own_CxW p meth c Z a0 EL cd maxL none nm) (S : own_SW p l e R s m args below meth c n0 Z EL own T h G cells slots) (hd : decode cd pc = .ok (.return_, 1)) (hc : cells ≤ kc) (hs : slots ≤ ks) (hF : F none h) : own_Go p e below (own_EnW s n0 Z EL F kc ks) T (mkF m pc ls []) :=
  own_endW C S (fun _ => rfl) (fun locs kk nn vm0 fs X hr => X.returnOut C.1 C.2.2.2.2.1 (by rw [C.2.1]; exact hd) hr) hc hs hF
/-! contracts -/
def own_MetW (l : Launch) (Z : State) (EL : List (String × Nat)) (y : MethodName) (cd : ByteArray) (maxL : Nat) (ret : Option FieldType) (rm : Room) (n0 : Nat) (as' : Array Value) (h0 : Heap) (G0 : List Addr) (Q : Option Value → Heap → Prop) : Prop :=
  ∀ ws, MetFree l y (head1 (Jvm.Cond.code y cd maxL ret :: ws) rm) (fun a U => a = as' ∧ Z.Warmed39 U.vm ∧ U.heap = h0 ∧ CHv Z EL U.vm h0 ∧ ∀ x ∈ G0, x < h0.size ∧ Safe Z EL U.vm h0 x) (fun _ _ _ _ _ => True)
    (fun _ U o U' => ∃ v L, o = .returned v ∧ (Q v U'.heap ∧ Fr n0 L) ∧ CHr Z EL U.vm U.heap U'.vm U'.heap ∧ ReturnedEndW U o U' L rm.cells rm.slots)
theorem own_metW {y : MethodName} {rm : Room} {as' : Array Value} {h0 : Heap} {G0 : List Addr} {Q : Option Value → Heap → Prop} (hEL : EW Z a0 EL) (wS : ∀ a ∈ Bundle.stringAtoms, a.before a0 Z = true) (hp : plainFor y = true) (ls : Array Slot) (hef : ∀ m, entryFrame m as' maxL = mkF m 0 ls [])
    (H : ∀ (p : Program) (e : Env) (s : State) (m : MethodId) (below : List Frame) (meth : Method) (c : Code) (T : State), own_CxW p meth c Z a0 EL cd maxL ret y.name → own_SW p l e rm s m as' below meth c n0 Z EL y.cls T h0 G0 0 0 → own_Go p e below (own_EnW s n0 Z EL Q rm.cells rm.slots) T (mkF m 0 ls [])) : own_MetW l Z EL y cd maxL ret rm n0 as' h0 G0 Q := by
  intro ws
  refine MetFree.of_bodySF hp hisR ?_
  intro p e s m args below meth c s₁ Bd hml hP hK
  obtain ⟨rfl, hZ, hh, hC, hG⟩ := hP
  have e0 : s₁.heap = h0 := by rw [← hh, Bd.state]; rfl
  have G := H p e s m below meth c s₁ ⟨Bd.exec, Bd.bytes, hml, (name_of_methodNamed Bd.named Bd.method).1, Bd.returns, BodyLoose.notSynchronized Bd, hEL, wS⟩
    ⟨s.vm, h0.size, ⟨_, _, _, Stand.of_body Bd, e0, Fr.nil n0, Nat.le_refl _, Nat.le_refl _⟩, (State.WarmedH.refl s).since _, Nat.le_refl _, hZ, findClass_of_methodNamed Bd.named, by rw [hh]; exact CHr.refl hC, hG⟩
  rw [← hef m] at G
  exact G
/-! calls of a body that may load String constants -/
theorem own_payW {vm0 : Vm} {y : MethodName} {cdy : ByteArray} {maxy : Nat} {rety : Option FieldType} {rm : Room} {as' : Array Value} {G0 : List Addr} {Q : Option Value → Heap → Prop} (M : own_MetW l Z EL y cdy maxy rety rm n0 as' h G0 Q) (hZ : Z.Warmed39 vm0) {len W : Nat} (wc : (Jvm.Cond.code y cdy maxy rety).before a0 Z = true) (wz : (Jvm.Cond.initialized y.cls).before a0 Z = true) (hf : rm.frames + 1 ≤ R.frames) (hl : W + (maxy + 11) + rm.locals ≤ R.locals) (hEL : EW Z a0 EL) (H : CHv Z EL vm0 h) (hG : ∀ x ∈ G0, x < h.size ∧ Safe Z EL vm0 h x) :
    BackS l R p e below (s.setVm vm0) args y len W (fun A a => a = as' ∧ A.U.heap = h ∧ A.cells + rm.cells ≤ R.cells ∧ A.slots + rm.slots ≤ R.slots)
      (fun A _ v B => ∃ L, (Q v B.U.heap ∧ Fr n0 L) ∧ B.locs = A.locs ++ L ∧ B.cells = A.cells + rm.cells ∧ B.slots = A.slots + rm.slots ∧ CHr Z EL vm0 h B.U.vm B.U.heap) :=
  BackS.of_freeW (bytes := cdy) (maxL := maxy) (ret := rety) (E := fun _ first o t L k n => k = rm.cells ∧ n = rm.slots ∧ (∃ v, o = .returned v ∧ (Q v t.heap ∧ Fr n0 L)) ∧ CHr Z EL first.vm first.heap t.vm t.heap) (M []) hf hl
    (fun m meth c A a Y hp => have hU : Z.Warmed39 A.U.vm := wtrans (s := s.setVm vm0) hZ Y.warmed
      ⟨by show (Cond.and _ .tt).before a A.U = true; rw [Cond.before_and, mv hU wc]; rfl, mv hU wc, mv hU wz, hp.2.2.1, hp.2.2.2⟩)
    (fun m meth c A a g mk Y hp => ⟨hp.1, wtrans (s := s.setVm vm0) hZ Y.warmed, hp.2.1, (CHv.at Y hZ hEL H).1, fun x hx => ⟨(hG x hx).1, (CHv.at Y hZ hEL H).safe (hG x hx).1 (hG x hx).2⟩⟩) (fun _ _ _ _ _ _ _ _ _ => trivial)
    (fun _ _ _ _ ⟨v, L, h1, h2, h3, h4⟩ => ⟨L, _, _, h4, rfl, rfl, ⟨v, h1, h2⟩, h3⟩)
    (fun m meth c A a g mk v t L k n Y hp _ _ ⟨e1, e2, ⟨v', e3, e4⟩, e5⟩ => by
      cases e3; subst e1 e2
      refine ⟨L, e4, rfl, rfl, rfl, (CHv.at Y hZ hEL H).trans ?_⟩
      rw [← hp.2.1]; exact e5)
theorem own_backW {T : State} {vm0 : Vm} {k0 : Nat} {B : Pt} {Q : Option Value → Heap → Prop} {v : Option Value} {L : List Loc} {k1 k2 kk nn : Nat} (hS : s.Since vm0 k0) (hk : k0 ≤ h.size) (hZ : Z.Warmed39 vm0) (ho : vm0.findClass own = some m.cls) (hC : CHr Z EL s.vm s.heap vm0 h) (hG : ∀ x ∈ G, x < h.size ∧ Safe Z EL vm0 h x) (N : Fr n0 locs) (q1 : kk ≤ cells) (q2 : nn ≤ slots)
    (X' : Stand p l e R ((s.setVm vm0).setVm B.U.vm) m args below meth c B.U B.locs B.cells B.slots) (h2 : (s.setVm vm0).Since B.U.vm B.U.heap.size) (hg : h.size ≤ B.U.heap.size) (hQ : Q v B.U.heap ∧ Fr n0 L) (l1 : B.locs = locs ++ L) (l2 : B.cells = kk + k1) (l3 : B.slots = nn + k2) (hC' : CHr Z EL vm0 h B.U.vm B.U.heap) :
    own_SW p l e R s m args below meth c n0 Z EL own B.U B.U.heap G (cells + k1) (slots + k2) := by
  obtain ⟨X1, hS1, hZ1, ho1⟩ := rebS hS hk X' h2 hg hZ ho
  exact ⟨B.U.vm, _, ⟨B.locs, B.cells, B.slots, X1, rfl, by rw [l1]; exact Fr.app N hQ.2, by omega, by omega⟩, hS1, Nat.le_refl _, hZ1, ho1, hC.trans hC', fun x hx => ⟨Nat.lt_of_lt_of_le (hG x hx).1 hg, hC'.safe (hG x hx).1 (hG x hx).2⟩⟩
theorem own_callSW (C : own_CxW p meth c Z a0 EL cd maxL ret nm) (S : own_SW p l e R s m args below meth c n0 Z EL own T h G cells slots) {y : MethodName} {index : Nat} {cdy : ByteArray} {maxy : Nat} {rety : Option FieldType} {rm : Room} {as' : Array Value} {G0 : List Addr} {Q : Option Value → Heap → Prop}
    (w1 : (Jvm.Cond.methodLink own index y).before a0 Z = true) (w2 : (Jvm.Cond.static y).before a0 Z = true) (w3 : (Jvm.Cond.initialized y.cls).before a0 Z = true) (w4 : (Jvm.Cond.code y cdy maxy rety).before a0 Z = true) (hy : y.cls ≠ "java/lang/invoke/MethodHandle" ∧ y.cls ≠ "java/lang/invoke/VarHandle")
    (M : own_MetW l Z EL y cdy maxy rety rm n0 as' h G0 Q) (hG0 : ∀ x ∈ G0, x ∈ G) (W : Nat) (hf : rm.frames + 1 ≤ R.frames) (hlo : W + (maxy + 11) + rm.locals ≤ R.locals) (argsL rest : List Value) {ps : List FieldType} {rr : Option FieldType} (has : argsL.toArray = as') (hpd : parseMethodDescriptor y.desc = some ⟨ps, rr⟩) (hlen : argsL.length = ps.length) (hstk : st = argsL.reverse ++ rest) (hsz : ls.size = maxL) (hW : (rest.map fun v => v.category).sum ≤ W)
    (hc : cells + rm.cells ≤ R.cells) (hs : slots + rm.slots ≤ R.slots) (hd : decode cd pc = .ok (.invokestatic index, 3))
    (k : ∀ T' h' v, own_SW p l e R s m args below meth c n0 Z EL own T' h' G (cells + rm.cells) (slots + rm.slots) → h.size ≤ h'.size → Q v h' → own_Go p e below En T' (mkF m (pc + 3) ls (v.toList ++ rest))) : own_Go p e below En T (mkF m pc ls st) := by
  obtain ⟨vm0, k0, ⟨locs, kk, nn, X, eT, N, q1, q2⟩, hS, hk, hZ, ho, hC, hG⟩ := S
  obtain ⟨v, vm1, B, -, X', h2, hg, ⟨L, hQ, l1, l2, l3, hC'⟩, stp⟩ := callSS X C.1 ho (mvT (s := s.setVm vm0) hZ w1) (mvT (s := s.setVm vm0) hZ w2) (mvT (s := s.setVm vm0) hZ w3) (mvT (s := s.setVm vm0) hZ w4) hy (own_payW M hZ w4 w3 hf hlo C.2.2.2.2.2.2.1 hC.1 fun x hx => hG x (hG0 x hx)) (g := mkF m pc ls st) rfl (by rw [C.2.2.1]; exact hsz) (argsL := argsL) (rest := rest) (lenOf hpd hlen) hstk (by show 2 * 0 + _ ≤ W; omega) (by rw [C.2.1]; exact hd) (fun _ _ => ⟨has, eT, by show kk + _ ≤ _; omega, by show nn + _ ≤ _; omega⟩)
  rw [eT] at hg
  exact own_step (fun t k => stp.trans k) (k B.U _ v (own_backW (T := T) hS hk hZ ho hC hG N q1 q2 X' h2 hg hQ l1 l2 l3 hC') hg hQ.1)
theorem own_callIW (C : own_CxW p meth c Z a0 EL cd maxL ret nm) (S : own_SW p l e R s m args below meth c n0 Z EL own T h G cells slots) {y : MethodName} {index : Nat} {cdy : ByteArray} {maxy : Nat} {rm : Room} {as' : Array Value} {G0 : List Addr} {Q : Option Value → Heap → Prop}
    (hy1 : y.name = "<init>") (w1 : (Jvm.Cond.methodLink own index y).before a0 Z = true) (w2 : (Jvm.Cond.instanceMethod y).before a0 Z = true) (w3 : (Jvm.Cond.initialized y.cls).before a0 Z = true) (w4 : (Jvm.Cond.code y cdy maxy none).before a0 Z = true) (hy : y.cls ≠ "java/lang/invoke/MethodHandle" ∧ y.cls ≠ "java/lang/invoke/VarHandle")
    (M : own_MetW l Z EL y cdy maxy none rm n0 as' h G0 Q) (hG0 : ∀ x ∈ G0, x ∈ G) (W : Nat) (hf : rm.frames + 1 ≤ R.frames) (hlo : W + (maxy + 11) + rm.locals ≤ R.locals) {a : Addr} (argsL rest : List Value) {ps : List FieldType} {rr : Option FieldType} (has : (.ref a :: argsL).toArray = as') (hpd : parseMethodDescriptor y.desc = some ⟨ps, rr⟩) (hlen : argsL.length = ps.length) (hstk : st = argsL.reverse ++ .ref a :: rest) (hsz : ls.size = maxL) (hW : (rest.map fun v => v.category).sum ≤ W)
    (hc : cells + rm.cells ≤ R.cells) (hs : slots + rm.slots ≤ R.slots) (hd : decode cd pc = .ok (.invokespecial index, 3))
    (k : ∀ T' h' v, own_SW p l e R s m args below meth c n0 Z EL own T' h' G (cells + rm.cells) (slots + rm.slots) → h.size ≤ h'.size → Q v h' → own_Go p e below En T' (mkF m (pc + 3) ls (v.toList ++ rest))) : own_Go p e below En T (mkF m pc ls st) := by
  obtain ⟨vm0, k0, ⟨locs, kk, nn, X, eT, N, q1, q2⟩, hS, hk, hZ, ho, hC, hG⟩ := S
  obtain ⟨v, vm1, B, -, X', h2, hg, ⟨L, hQ, l1, l2, l3, hC'⟩, stp⟩ := X.specialBackS C.1 hy1 ho (mvT (s := s.setVm vm0) hZ w1) (mvT (s := s.setVm vm0) hZ w2) (mvT (s := s.setVm vm0) hZ w4) hy (own_payW M hZ w4 w3 hf hlo C.2.2.2.2.2.2.1 hC.1 fun x hx => hG x (hG0 x hx)) (g := mkF m pc ls st) rfl (by rw [C.2.2.1]; exact hsz) (Steps.refl _) (a := a) (argsL := argsL) (rest := rest) (lenOf hpd hlen) hstk (by show 2 * 0 + _ ≤ W; omega) (by rw [C.2.1]; exact hd) (fun _ _ => ⟨has, eT, by show kk + _ ≤ _; omega, by show nn + _ ≤ _; omega⟩)
  rw [eT] at hg
  exact own_step (fun t k => stp.trans k) (k B.U _ v (own_backW (T := T) hS hk hZ ho hC hG N q1 q2 X' h2 hg hQ l1 l2 l3 hC') hg hQ.1)
theorem own_callVW (C : own_CxW p meth c Z a0 EL cd maxL ret nm) (S : own_SW p l e R s m args below meth c n0 Z EL own T h G cells slots) {y z : MethodName} {Cl Cl' : String} {index : Nat} {cdy : ByteArray} {maxy : Nat} {rety : Option FieldType} {rm : Room} {as' : Array Value} {G0 : List Addr} {Q : Option Value → Heap → Prop}
    (w1 : (Jvm.Cond.methodLink own index y).before a0 Z = true) (w2 : (Jvm.Cond.declares y).before a0 Z = true) (w3 : (Jvm.Cond.selects Cl y z).before a0 Z = true) {y' : MethodName} (hyc : y'.cls = y.cls) (w3' : (Jvm.Cond.selects Cl' y' y').before a0 Z = true) (w4 : (Jvm.Cond.instanceMethod z).before a0 Z = true) (w5 : (Jvm.Cond.initialized z.cls).before a0 Z = true) (w6 : (Jvm.Cond.code z cdy maxy rety).before a0 Z = true) (hy : y.cls ≠ "java/lang/invoke/MethodHandle" ∧ y.cls ≠ "java/lang/invoke/VarHandle")
    (M : own_MetW l Z EL z cdy maxy rety rm n0 as' h G0 Q) (hG0 : ∀ x ∈ G0, x ∈ G) (W : Nat) (hf : rm.frames + 1 ≤ R.frames) (hlo : W + (maxy + 11) + rm.locals ≤ R.locals) {a : Addr} (E : Exa Z h a Cl) (argsL rest : List Value) {ps : List FieldType} {rr : Option FieldType} (has : (.ref a :: argsL).toArray = as') (hpd : parseMethodDescriptor y.desc = some ⟨ps, rr⟩) (hlen : argsL.length = ps.length) (hstk : st = argsL.reverse ++ .ref a :: rest) (hsz : ls.size = maxL) (hW : (rest.map fun v => v.category).sum ≤ W)
    (hc : cells + rm.cells ≤ R.cells) (hs : slots + rm.slots ≤ R.slots) (hd : decode cd pc = .ok (.invokevirtual index, 3))
    (k : ∀ T' h' v, own_SW p l e R s m args below meth c n0 Z EL own T' h' G (cells + rm.cells) (slots + rm.slots) → h.size ≤ h'.size → Q v h' → own_Go p e below En T' (mkF m (pc + 3) ls (v.toList ++ rest))) : own_Go p e below En T (mkF m pc ls st) := by
  obtain ⟨vm0, k0, ⟨locs, kk, nn, X, eT, N, q1, q2⟩, hS, hk, hZ, ho, hC, hG⟩ := S
  obtain ⟨cq, kq, qa, qb, qc⟩ := isOf (T := T) (s := s.setVm vm0) hZ eT E
  obtain ⟨v, vm1, B, -, X', h2, hg, ⟨L, hQ, l1, l2, l3, hC'⟩, stp⟩ := X.virtualBackS C.1 ho (mvT (s := s.setVm vm0) hZ w1) (mvT (s := s.setVm vm0) hZ w2) (own_nf (args := #[]) hyc (mvT (s := s.setVm vm0) hZ w3')) (mvT (s := s.setVm vm0) hZ w3) (mvT (s := s.setVm vm0) hZ w4) hy (own_payW M hZ w6 w5 hf hlo C.2.2.2.2.2.2.1 hC.1 fun x hx => hG x (hG0 x hx)) qa qc (g := mkF m pc ls st) rfl (by rw [C.2.2.1]; exact hsz) (Steps.refl _) (argsL := argsL) (rest := rest) (lenOf hpd hlen) hstk (by show 2 * 0 + _ ≤ W; omega) (by rw [C.2.1]; exact hd) (fun _ _ => ⟨has, eT, by show kk + _ ≤ _; omega, by show nn + _ ≤ _; omega⟩)
  rw [eT] at hg
  exact own_step (fun t k => stp.trans k) (k B.U _ v (own_backW (T := T) hS hk hZ ho hC hG N q1 q2 X' h2 hg hQ l1 l2 l3 hC') hg hQ.1)
theorem own_callPW (C : own_CxW p meth c Z a0 EL cd maxL ret nm) (S : own_SW p l e R s m args below meth c n0 Z EL own T h G cells slots) {y : MethodName} {index : Nat} {cdy : ByteArray} {maxy : Nat} {rety : Option FieldType} {rm : Room} {as' : Array Value} {G0 : List Addr} {Q : Option Value → Heap → Prop}
    (w1 : (Jvm.Cond.methodLink own index y).before a0 Z = true) (w2 : (Jvm.Cond.instanceMethod y).before a0 Z = true) (w3 : (Jvm.Cond.selects y.cls y y).before a0 Z = true) (w4 : (Jvm.Cond.privateMethod y).before a0 Z = true) (w5 : (Jvm.Cond.initialized y.cls).before a0 Z = true) (w6 : (Jvm.Cond.code y cdy maxy rety).before a0 Z = true) (hy : y.cls ≠ "java/lang/invoke/MethodHandle" ∧ y.cls ≠ "java/lang/invoke/VarHandle")
    (M : own_MetW l Z EL y cdy maxy rety rm n0 as' h G0 Q) (hG0 : ∀ x ∈ G0, x ∈ G) (W : Nat) (hf : rm.frames + 1 ≤ R.frames) (hlo : W + (maxy + 11) + rm.locals ≤ R.locals) {a : Addr} {Cl : String} (E : Exa Z h a Cl) (argsL rest : List Value) {ps : List FieldType} {rr : Option FieldType} (has : (.ref a :: argsL).toArray = as') (hpd : parseMethodDescriptor y.desc = some ⟨ps, rr⟩) (hlen : argsL.length = ps.length) (hstk : st = argsL.reverse ++ .ref a :: rest) (hsz : ls.size = maxL) (hW : (rest.map fun v => v.category).sum ≤ W)
    (hc : cells + rm.cells ≤ R.cells) (hs : slots + rm.slots ≤ R.slots) (hd : decode cd pc = .ok (.invokevirtual index, 3))
    (k : ∀ T' h' v, own_SW p l e R s m args below meth c n0 Z EL own T' h' G (cells + rm.cells) (slots + rm.slots) → h.size ≤ h'.size → Q v h' → own_Go p e below En T' (mkF m (pc + 3) ls (v.toList ++ rest))) : own_Go p e below En T (mkF m pc ls st) := by
  obtain ⟨vm0, k0, ⟨locs, kk, nn, X, eT, N, q1, q2⟩, hS, hk, hZ, ho, hC, hG⟩ := S
  obtain ⟨cl, hcl, hns⟩ := E.cell
  obtain ⟨v, vm1, B, -, X', h2, hg, ⟨L, hQ, l1, l2, l3, hC'⟩, stp⟩ := X.privateBackS C.1 ho (mvT (s := s.setVm vm0) hZ w1) (mvT (s := s.setVm vm0) hZ w2) (mvT (s := s.setVm vm0) hZ w3) (Cond.privateMethod_at (mvP (s := s.setVm vm0) (args := args) hZ w4)) (mvT (s := s.setVm vm0) hZ w6) hy (own_payW M hZ w6 w5 hf hlo C.2.2.2.2.2.2.1 hC.1 fun x hx => hG x (hG0 x hx)) (g := mkF m pc ls st) rfl (by rw [C.2.2.1]; exact hsz) (Steps.refl _) (a := a) (cell := cl) (by rw [eT]; exact hcl) hns (argsL := argsL) (rest := rest) (lenOf hpd hlen) hstk (by show 2 * 0 + _ ≤ W; omega) (by rw [C.2.1]; exact hd) (fun _ _ => ⟨has, eT, by show kk + _ ≤ _; omega, by show nn + _ ≤ _; omega⟩)
  rw [eT] at hg
  exact own_step (fun t k => stp.trans k) (k B.U _ v (own_backW (T := T) hS hk hZ ho hC hG N q1 q2 X' h2 hg hQ l1 l2 l3 hC') hg hQ.1)
end OwnKitW
theorem own_i2c2 (x : Int32) : nar .char x.toUInt32.toUInt16.toUInt32.toInt32 = x.toUInt32.toUInt16.toUInt32.toInt32 := by
  have h := Jvm.Free.XT.narrow_c x
  exact Value.int.inj h
theorem own_i2b2 (x : Int32) : nar .byte x.toInt8.toInt32 = x.toInt8.toInt32 := by
  have h := Jvm.Free.XT.narrow_b x
  exact Value.int.inj h
theorem own_and255 (x : Int32) : ¬ (x &&& (255 : Int32)) < 0 ∧ ¬ (255 : Int32) < (x &&& (255 : Int32)) := by
  have h := c_and x (255 : Int32) (by decide)
  rw [Int32.lt_iff_toInt_lt, Int32.lt_iff_toInt_lt]
  have e1 : (255 : Int32).toInt = 255 := rfl
  have e2 : (0 : Int32).toInt = 0 := rfl
  omega
theorem own_mask255 (x : Int32) : nar .char (x &&& (255 : Int32)).toUInt32.toUInt16.toUInt32.toInt32 = x &&& (255 : Int32) := by
  rw [own_i2c2, i2c_mask]
theorem own_up (cs : List Int32) (h : ∀ c ∈ cs, ¬ c < 0 ∧ ¬ (255 : Int32) < c) : ∀ c ∈ cs, ¬ c < 0 ∧ ¬ (65535 : Int32) < c := fun c hc => ⟨(h c hc).1, fun q => (h c hc).2 (by rw [Int32.lt_iff_toInt_lt] at q ⊢; have e1 : (65535 : Int32).toInt = 65535 := rfl; have e2 : (255 : Int32).toInt = 255 := rfl; omega)⟩
theorem own_shl0 (x : Int32) : x <<< ((0 : Int32) &&& 31) = x := by
  rw [show ((0 : Int32) &&& 31) = 0 from by decide]; exact Int32.shiftLeft_zero
theorem own_shr0 (x : Int32) : x >>> ((0 : Int32) &&& 31) = x := by
  rw [show ((0 : Int32) &&& 31) = 0 from by decide]; exact Int32.shiftRight_zero
theorem own_cod {cs : List Int32} {N : Int32} {vs : List Value} (h : StrChars.Road.CodA cs 0 N vs) : Int32.ofNat cs.length = N ∧ vs = cs.map fun c => Value.int (StrChars.lo8 c) := by
  rcases h with ⟨-, h1, h2, -⟩ | ⟨h, -⟩
  · exact ⟨h1.symm, h2⟩
  · exact absurd h (by decide)
theorem own_take0 (k : Nat) (d : Value) (M : List Value) : (List.replicate k d).take (0 : Int32).toNatClampNeg ++ M ++ (List.replicate k d).drop ((0 : Int32).toNatClampNeg + k) = M := by
  have e : (0 : Int32).toNatClampNeg = 0 := rfl
  rw [e]; simp
theorem own_min_l {x y : Int32} (h : ¬ y < x) : (if y < x then y else x) = x := if_neg h
theorem own_min_g {x y : Int32} (h : ¬ x < y) : (if y < x then y else x) = y := by
  by_cases g : y < x
  · rw [if_pos g]
  · rw [if_neg g]
    exact Int32.toInt_inj.mp (by rw [Int32.lt_iff_toInt_lt] at h g; omega)
theorem own_nat_le {n N : Int32} (h0 : ¬ n < 0) (h : ¬ N < n) : 0 + n.toNatClampNeg ≤ N.toNatClampNeg := by
  rw [Int32.lt_iff_toInt_lt] at h h0
  have e0 : (0 : Int32).toInt = 0 := rfl
  simp only [Int32.toNatClampNeg]
  omega
theorem own_ofNat_nn {i : Nat} (h : i ≤ 4000) : ¬ Int32.ofNat i < 0 ∧ (Int32.ofNat i).toNatClampNeg = i := by
  have e : (Int32.ofNat i).toInt = i := Int32.toInt_ofNat_of_lt (by omega)
  refine ⟨?_, ?_⟩
  · rw [Int32.lt_iff_toInt_lt, e]
    have e0 : (0 : Int32).toInt = 0 := rfl
    omega
  · simp only [Int32.toNatClampNeg, e]; omega
theorem own_ofNat_lt {i n : Nat} (h : i ≤ 4000) (hn : n ≤ 4000) : Int32.ofNat i < Int32.ofNat n ↔ i < n := by
  have e : (Int32.ofNat i).toInt = i := Int32.toInt_ofNat_of_lt (by omega)
  have e2 : (Int32.ofNat n).toInt = n := Int32.toInt_ofNat_of_lt (by omega)
  rw [Int32.lt_iff_toInt_lt, e, e2]; omega
theorem own_ofNat_succ (i : Nat) : Int32.ofNat i + 1 = Int32.ofNat (i + 1) := by
  rw [Int32.ofNat_add]; rfl
theorem own_b8 {c : Int32} (h : ¬ c < 0 ∧ ¬ (255 : Int32) < c) : c.toInt8.toInt32.toInt % 256 = c.toInt ∧ 0 ≤ c.toInt ∧ c.toInt ≤ 255 := by
  obtain ⟨h1, h2⟩ := h
  rw [Int32.lt_iff_toInt_lt] at h1 h2
  have e0 : (0 : Int32).toInt = 0 := rfl
  have e1 : (255 : Int32).toInt = 255 := rfl
  have e3 : c.toInt8.toInt32.toInt = c.toInt.bmod (2 ^ 8) := by simp
  rw [e3]
  refine ⟨?_, by omega, by omega⟩
  have := Int.bmod_emod (x := c.toInt) (m := 2 ^ 8)
  omega
theorem own_b8_inj {c d : Int32} (h : ¬ c < 0 ∧ ¬ (255 : Int32) < c) (h' : ¬ d < 0 ∧ ¬ (255 : Int32) < d) (e : c.toInt8.toInt32 = d.toInt8.toInt32) : c = d := by
  obtain ⟨a1, -⟩ := own_b8 h
  obtain ⟨a2, -⟩ := own_b8 h'
  rw [e] at a1
  exact Int32.toInt_inj.mp (a1.symm.trans a2)
theorem own_getD {cs : List Int32} {i : Nat} (h : i ≤ 4000) (hi : i < cs.length) : (cs.map fun c => Value.int (StrChars.lo8 c)).getD (Int32.ofNat i).toNatClampNeg (.int 0) = .int ((cs.getD i 0).toInt8.toInt32) := by
  rw [(own_ofNat_nn h).2]
  simp [List.getD, List.getElem?_map, List.getElem?_eq_getElem hi, StrChars.lo8]
theorem own_getD_mem {cs : List Int32} {i : Nat} (hi : i < cs.length) : cs.getD i 0 ∈ cs := by
  simp [List.getD, List.getElem?_eq_getElem hi]
theorem own_take_succ {cs : List Int32} {i : Nat} (hi : i < cs.length) {P : Int32 → Prop} (h : ∀ c ∈ cs.take i, P c) (h' : P (cs.getD i 0)) : ∀ c ∈ cs.take (i + 1), P c := by
  intro c hc
  rw [List.take_add_one, List.getElem?_eq_getElem hi] at hc
  simp [List.getD, List.getElem?_eq_getElem hi] at h'
  rcases List.mem_append.mp hc with q | q
  · exact h c q
  · simp at q; subst q; exact h'
def own_IO (r : Int32) (cs : List Int32) (k : Int32) : Prop := (r < 0 ∧ ∀ c ∈ cs, ¬ c = k) ∨ (¬ r < 0 ∧ k ∈ cs)
theorem own_IO.no {r k : Int32} {cs : List Int32} (q : own_IO r cs k) (h : ∀ c ∈ cs, ¬ c = k) (hr : ¬ r < 0) : False := by
  rcases q with ⟨q, -⟩ | ⟨-, q⟩
  · exact hr q
  · exact h k q rfl
theorem own_IO.yes {r k : Int32} {cs : List Int32} (q : own_IO r cs k) (h : k ∈ cs) (hr : r < 0) : False := by
  rcases q with ⟨-, q⟩ | ⟨q, -⟩
  · exact q k h rfl
  · exact q hr
def own_Ch (r : Int32) : Prop := (¬ r < 0 ∧ ¬ (255 : Int32) < r) ∧ nar .char r = r ∧ r.toUInt32.toUInt16.toUInt32.toInt32 = r
theorem own_Ch.of (x : Int32) : own_Ch (x &&& (255 : Int32)) := ⟨own_and255 x, i2c_mask x, i2c_mask x⟩
abbrev own_EL : List (String × Nat) := consts_1
theorem own_n2 (x : Int32) : (1 : Int32) + (x &&& 1) = 1 ∨ (1 : Int32) + (x &&& 1) = 2 := by
  have h := c_and x (1 : Int32) (by decide)
  have e2 : (1 : Int32).toInt = 1 := rfl
  have e0 : (0 : Int32).toInt = 0 := rfl
  generalize x &&& 1 = y at h
  rcases (show y.toInt = 0 ∨ y.toInt = 1 by omega) with q | q
  · rw [show y = 0 from Int32.toInt_inj.mp q]; decide
  · rw [show y = 1 from Int32.toInt_inj.mp q]; decide
theorem own_ushr1 (x : Int32) : 0 ≤ (Jvm.Free.XT.ushr x (1 : Int32)).toInt := by
  show 0 ≤ ((x.toUInt32 >>> ((1 : Int32) &&& 31).toUInt32).toInt32).toInt
  rw [show ((1 : Int32) &&& 31).toUInt32 = 1 from by decide]
  have h : (x.toUInt32 >>> (1 : UInt32)).toNat = x.toUInt32.toNat / 2 := by
    rw [UInt32.toNat_shiftRight]; simp [Nat.shiftRight_eq_div_pow]
  generalize x.toUInt32 >>> (1 : UInt32) = u at h
  have h2 := x.toUInt32.toNat_lt
  have e : u.toInt32.toInt = u.toBitVec.toInt := rfl
  rw [e, BitVec.toInt_eq_toNat_of_lt]
  · omega
  · show 2 * u.toNat < 2 ^ 32
    omega
theorem own_k3 (x : Int32) : (Jvm.Free.XT.ushr x (1 : Int32)) % 3 = 0 ∨ (Jvm.Free.XT.ushr x (1 : Int32)) % 3 = 1 ∨ (Jvm.Free.XT.ushr x (1 : Int32)) % 3 = 2 := by
  have h : 0 ≤ (Jvm.Free.XT.ushr x (1 : Int32)).toInt := own_ushr1 x
  generalize Jvm.Free.XT.ushr x (1 : Int32) = y at h
  have e3 : (y % 3).toInt = y.toInt % 3 := by
    rw [Int32.toInt_mod]
    have e3 : (3 : Int32).toInt = 3 := rfl
    rw [e3]; exact Int.tmod_eq_emod_of_nonneg (by omega)
  generalize y % 3 = z at e3
  rcases (show z.toInt = 0 ∨ z.toInt = 1 ∨ z.toInt = 2 by omega) with q | q | q
  · exact Or.inl (Int32.toInt_inj.mp q)
  · exact Or.inr (Or.inl (Int32.toInt_inj.mp q))
  · exact Or.inr (Or.inr (Int32.toInt_inj.mp q))
set_option maxRecDepth 65536 in
set_option maxHeartbeats 40000000 in
theorem own_coder (l : Launch) (Z : State) (a0 : Array Value) (hw : ∀ d ∈ tables_1, d.before a0 Z = true) (G1 : Int32) (G3 : Value) (x : Addr) (h0 : Heap) (n0 : Nat) (z0 : n0 ≤ h0.size) (X00 : Old Z n0 h0) (pC : Fld Z h0 x "java/lang/String" "coder" "B" (.int 0)) (O2 : Sta Z Z.heap "java/lang/String" "COMPACT_STRINGS" "Z" (.int G1)) (O4 : Sta Z Z.heap "jdk/internal/util/Preconditions" "SIOOBE_FORMATTER" "Ljava/util/function/BiFunction;" G3) (P5 : ¬ G1 = (0 : Int32)) (rG3 : G3.isRef = true) :
    own_Met l Z (⟨"java/lang/String", "coder", "()B"⟩ : MethodName) jdk_42_method_152_code 1 (some .byte) ({ frames := 0, cells := 0, slots := 0, locals := 0 } : Room) n0 #[(.ref x)] h0 (fun v h => v = some (.int 0) ∧ h = h0) := by
  refine own_met (by decide +kernel) #[.val (.ref x)] (fun m => by first | (simp [entryFrame, mkF, argsToLocals, Value.category]; done) | rfl) ?_
  intro p e s m below meth c T0 C S0
  refine own_getS C S0 (own_wd hw 18 rfl) Via.refl (O2.ext X00.2) (by decide +kernel) ?_
  intro T1 S2
  refine own_if C S2 (q := .eq) (o := 10) (by decide +kernel) 13 (by decide) (by decide) (fun (hq : G1 = (0 : Int32)) => False.elim (P5 hq)) (fun (q3 : ¬ G1 = (0 : Int32)) => ?_)
  refine own_seg C S2 [(6, .aload_n 0, 1)] (by decide +kernel) 7 #[.val (.ref x)] [(.ref x)] rfl ?_
  refine own_getF C S2 (host := "") (Or.inl (own_wd hw 30 rfl)) Via.refl pC (by decide +kernel) ?_
  intro T4 S5
  refine own_seg C S5 [(10, .goto 4, 3)] (by decide +kernel) 14 #[.val (.ref x)] [(.int 0)] rfl ?_
  refine own_retB C S5 (by decide +kernel) rfl (by decide) (by decide) ?_
  exact ⟨rfl, rfl⟩
set_option maxRecDepth 65536 in
set_option maxHeartbeats 40000000 in
theorem own_min (l : Launch) (Z : State) (a0 : Array Value) (hw : ∀ d ∈ tables_1, d.before a0 Z = true) (x1 : Int32) (x2 : Int32) (h0 : Heap) (n0 : Nat) (z0 : n0 ≤ h0.size) :
    own_Met l Z (⟨"java/lang/Math", "min", "(II)I"⟩ : MethodName) jdk_29_method_69_code 2 (some .int) ({ frames := 0, cells := 0, slots := 0, locals := 0 } : Room) n0 #[(.int x1), (.int x2)] h0 (fun v h => v = some (.int (if x2 < x1 then x2 else x1)) ∧ h = h0) := by
  refine own_met (by decide +kernel) #[.val (.int x1), .val (.int x2)] (fun m => by first | (simp [entryFrame, mkF, argsToLocals, Value.category]; done) | rfl) ?_
  intro p e s m below meth c T0 C S0
  refine own_seg C S0 [(0, .iload_n 0, 1), (1, .iload_n 1, 1)] (by decide +kernel) 2 #[.val (.int x1), .val (.int x2)] [(.int x2), (.int x1)] rfl ?_
  refine own_icmp C S0 (q := .gt) (o := 7) (by decide +kernel) 9 (by decide) (by decide) (fun (q6 : x2 < x1) => ?_) (fun (q7 : ¬ x2 < x1) => ?_)
  · refine own_seg C S0 [(9, .iload_n 1, 1)] (by decide +kernel) 10 #[.val (.int x1), .val (.int x2)] [(.int x2)] rfl ?_
    refine own_retI C S0 (by decide +kernel) (by decide) (by decide) ?_
    exact ⟨by rw [if_pos q6], rfl⟩
  · refine own_seg C S0 [(5, .iload_n 0, 1), (6, .goto 4, 3)] (by decide +kernel) 10 #[.val (.int x1), .val (.int x2)] [(.int x1)] rfl ?_
    refine own_retI C S0 (by decide +kernel) (by decide) (by decide) ?_
    exact ⟨by rw [if_neg q7], rfl⟩
set_option maxRecDepth 65536 in
set_option maxHeartbeats 40000000 in
theorem own_rec (l : Launch) (Z : State) (a0 : Array Value) (hw : ∀ d ∈ tables_1, d.before a0 Z = true) (a : Addr) (h0 : Heap) (n0 : Nat) (z0 : n0 ≤ h0.size) :
    own_Met l Z (⟨"java/lang/Record", "<init>", "()V"⟩ : MethodName) jdk_30_method_1_code 1 none ({ frames := 1, cells := 0, slots := 0, locals := 12 } : Room) n0 #[(.ref a)] h0 (fun v h => v = none ∧ h = h0) := by
  refine own_met (by decide +kernel) #[.val (.ref a)] (fun m => by first | (simp [entryFrame, mkF, argsToLocals, Value.category]; done) | rfl) ?_
  intro p e s m below meth c T0 C S0
  refine own_seg C S0 [(0, .aload_n 0, 1)] (by decide +kernel) 1 #[.val (.ref a)] [(.ref a)] rfl ?_
  refine own_initO C S0 (own_wd hw 48 rfl) (own_wd hw 16 rfl) (own_wd hw 17 rfl) rfl (by decide +kernel) (by decide) 0 (Nat.le_of_ble_eq_true rfl) (by decide) ?_
  intro T8 S9
  refine own_retV C S9 (by decide +kernel) (by decide) (by decide) ?_
  exact ⟨rfl, rfl⟩
set_option maxRecDepth 65536 in
set_option maxHeartbeats 40000000 in
theorem own_rnn2 (l : Launch) (Z : State) (a0 : Array Value) (hw : ∀ d ∈ tables_1, d.before a0 Z = true) (x : Addr) (y : Addr) (h0 : Heap) (n0 : Nat) (z0 : n0 ≤ h0.size) :
    own_Met l Z (⟨"java/util/Objects", "requireNonNull", "(Ljava/lang/Object;Ljava/lang/String;)Ljava/lang/Object;"⟩ : MethodName) jdk_31_method_11_code 2 (some (.object "java/lang/Object")) ({ frames := 0, cells := 0, slots := 0, locals := 0 } : Room) n0 #[(.ref x), (.ref y)] h0 (fun v h => v = some (.ref x) ∧ h = h0) := by
  refine own_met (by decide +kernel) #[.val (.ref x), .val (.ref y)] (fun m => by first | (simp [entryFrame, mkF, argsToLocals, Value.category]; done) | rfl) ?_
  intro p e s m below meth c T0 C S0
  refine own_seg C S0 [(0, .aload_n 0, 1), (1, .ifnonnull 12, 3), (13, .aload_n 0, 1)] (by decide +kernel) 14 #[.val (.ref x), .val (.ref y)] [(.ref x)] rfl ?_
  refine own_retA C S0 rfl rfl (by decide +kernel) (by decide) (by decide) ?_
  exact ⟨rfl, rfl⟩
set_option maxRecDepth 65536 in
set_option maxHeartbeats 40000000 in
theorem own_ce (l : Launch) (Z : State) (a0 : Array Value) (hw : ∀ d ∈ tables_1, d.before a0 Z = true) (k : Int32) (h0 : Heap) (n0 : Nat) (z0 : n0 ≤ h0.size) (k0 : ¬ k < (0 : Int32) ∧ ¬ (255 : Int32) < k) :
    own_Met l Z (⟨"java/lang/StringLatin1", "canEncode", "(I)Z"⟩ : MethodName) jdk_43_method_4_code 1 (some .boolean) ({ frames := 0, cells := 0, slots := 0, locals := 0 } : Room) n0 #[(.int k)] h0 (fun v h => v = some (.int (1 : Int32)) ∧ h = h0) := by
  refine own_met (by decide +kernel) #[.val (.int k)] (fun m => by first | (simp [entryFrame, mkF, argsToLocals, Value.category]; done) | rfl) ?_
  intro p e s m below meth c T0 C S0
  refine own_seg C S0 [(0, .iload_n 0, 1)] (by decide +kernel) 1 #[.val (.int k)] [(.int k)] rfl ?_
  refine own_if C S0 (q := .lt) (o := 14) (by decide +kernel) 15 (by decide) (by decide) (fun (hq : k < (0 : Int32)) => False.elim (k0.1 hq)) (fun (q10 : ¬ k < (0 : Int32)) => ?_)
  refine own_seg C S0 [(4, .iload_n 0, 1), (5, .sipush 255, 3)] (by decide +kernel) 8 #[.val (.int k)] [(.int (255 : Int32)), (.int k)] rfl ?_
  refine own_icmp C S0 (q := .gt) (o := 7) (by decide +kernel) 15 (by decide) (by decide) (fun (hq : (255 : Int32) < k) => False.elim (k0.2 hq)) (fun (q11 : ¬ (255 : Int32) < k) => ?_)
  refine own_seg C S0 [(11, .iconst 1, 1), (12, .goto 4, 3)] (by decide +kernel) 16 #[.val (.int k)] [(.int (1 : Int32))] rfl ?_
  refine own_retZ C S0 (by decide +kernel) (by decide) (by decide) (by decide) ?_
  exact ⟨rfl, rfl⟩
set_option maxRecDepth 65536 in
set_option maxHeartbeats 40000000 in
theorem own_max (l : Launch) (Z : State) (a0 : Array Value) (hw : ∀ d ∈ tables_1, d.before a0 Z = true) (x1 : Int32) (x2 : Int32) (h0 : Heap) (n0 : Nat) (z0 : n0 ≤ h0.size) :
    own_Met l Z (⟨"java/lang/Math", "max", "(II)I"⟩ : MethodName) jdk_29_method_65_code 2 (some .int) ({ frames := 0, cells := 0, slots := 0, locals := 0 } : Room) n0 #[(.int x1), (.int x2)] h0 (fun v h => v = some (.int (if x1 < x2 then x2 else x1)) ∧ h = h0) := by
  refine own_met (by decide +kernel) #[.val (.int x1), .val (.int x2)] (fun m => by first | (simp [entryFrame, mkF, argsToLocals, Value.category]; done) | rfl) ?_
  intro p e s m below meth c T0 C S0
  refine own_seg C S0 [(0, .iload_n 0, 1), (1, .iload_n 1, 1)] (by decide +kernel) 2 #[.val (.int x1), .val (.int x2)] [(.int x2), (.int x1)] rfl ?_
  refine own_icmp C S0 (q := .lt) (o := 7) (by decide +kernel) 9 (by decide) (by decide) (fun (q12 : x1 < x2) => ?_) (fun (q13 : ¬ x1 < x2) => ?_)
  · refine own_seg C S0 [(9, .iload_n 1, 1)] (by decide +kernel) 10 #[.val (.int x1), .val (.int x2)] [(.int x2)] rfl ?_
    refine own_retI C S0 (by decide +kernel) (by decide) (by decide) ?_
    exact ⟨by rw [if_pos q12], rfl⟩
  · refine own_seg C S0 [(5, .iload_n 0, 1), (6, .goto 4, 3)] (by decide +kernel) 10 #[.val (.int x1), .val (.int x2)] [(.int x1)] rfl ?_
    refine own_retI C S0 (by decide +kernel) (by decide) (by decide) ?_
    exact ⟨by rw [if_neg q13], rfl⟩
set_option maxRecDepth 65536 in
set_option maxHeartbeats 40000000 in
theorem own_ioc (l : Launch) (Z : State) (a0 : Array Value) (hw : ∀ d ∈ tables_1, d.before a0 Z = true) (t : Addr) (tk : ClassId) (N : Int32) (vs : List Value) (cs : List Int32) (k : Int32) (h0 : Heap) (n0 : Nat) (z0 : n0 ≤ h0.size) (tK : Arv Z h0 t tk .byte N vs (.int 0)) (cd : StrChars.Road.CodA cs 0 N vs) (hp : ∀ c ∈ cs, ¬ c < 0 ∧ ¬ (255 : Int32) < c) (l2 : cs.length ≤ 4000) (k0 : ¬ k < (0 : Int32) ∧ ¬ (255 : Int32) < k) :
    own_Met l Z (⟨"java/lang/StringLatin1", "indexOfChar", "([BIII)I"⟩ : MethodName) jdk_43_method_23_code 6 (some .int) ({ frames := 0, cells := 0, slots := 0, locals := 0 } : Room) n0 #[(.ref t), (.int k), (.int (0 : Int32)), (.int N)] h0 (fun v h => ∃ r : Int32, v = some (.int r) ∧ h = h0 ∧ own_IO r cs k) := by
  refine own_met (by decide +kernel) #[.val (.ref t), .val (.int k), .val (.int (0 : Int32)), .val (.int N), .unset, .unset] (fun m => by first | (simp [entryFrame, mkF, argsToLocals, Value.category]; done) | rfl) ?_
  intro p e s m below meth c T0 C S0
  obtain ⟨hN, hvs⟩ := own_cod cd
  refine own_seg C S0 [(0, .iload_n 1, 1), (1, .i2b, 1), (2, .istore 4, 2), (4, .iload_n 2, 1), (5, .istore 5, 2)] (by decide +kernel) 7 #[.val (.ref t), .val (.int k), .val (.int (0 : Int32)), .val (.int N), .val (.int k.toInt8.toInt32), .val (.int (0 : Int32))] [] rfl ?_
  have loop : ∀ (d : Nat) (T : State) (i : Nat), i + d = cs.length → (∀ c ∈ cs.take i, ¬ c = k) → own_S p l e ({ frames := 0, cells := 0, slots := 0, locals := 0 } : Room) s m #[(.ref t), (.int k), (.int (0 : Int32)), (.int N)] below meth c n0 T h0 0 0 → own_Go p e below (own_En s n0 (fun v h => ∃ r : Int32, v = some (.int r) ∧ h = h0 ∧ own_IO r cs k) ({ frames := 0, cells := 0, slots := 0, locals := 0 } : Room).cells ({ frames := 0, cells := 0, slots := 0, locals := 0 } : Room).slots) T (mkF m 7 #[.val (.ref t), .val (.int k), .val (.int (0 : Int32)), .val (.int N), .val (.int k.toInt8.toInt32), .val (.int (Int32.ofNat i))] []) := by
    intro d
    induction d with
    | zero =>
      intro T i hi ha S
      refine own_seg C S [(7, .iload 5, 2), (9, .iload_n 3, 1)] (by decide +kernel) 10 #[.val (.ref t), .val (.int k), .val (.int (0 : Int32)), .val (.int N), .val (.int k.toInt8.toInt32), .val (.int (Int32.ofNat i))] [(.int N), (.int (Int32.ofNat i))] rfl ?_
      refine own_icmp C S (q := .ge) (o := 21) (by decide +kernel) 31 (by decide) (by decide) (fun (q14 : ¬ (Int32.ofNat i) < N) => ?_) (fun (hq : (Int32.ofNat i) < N) => False.elim (by rw [← hN] at hq; have := (own_ofNat_lt (by omega) l2).mp hq; omega))
      refine own_seg C S [(31, .iconst (-1), 1)] (by decide +kernel) 32 #[.val (.ref t), .val (.int k), .val (.int (0 : Int32)), .val (.int N), .val (.int k.toInt8.toInt32), .val (.int (Int32.ofNat i))] [(.int (-1 : Int32))] rfl ?_
      refine own_retI C S (by decide +kernel) (by decide) (by decide) ?_
      exact ⟨_, rfl, rfl, Or.inl ⟨by decide, fun c hc => ha c (by rw [List.take_of_length_le (by omega)]; exact hc)⟩⟩
    | succ d ih =>
      intro T i hi ha S
      have hil : i < cs.length := by omega
      have hlt : Int32.ofNat i < N := by rw [← hN]; exact (own_ofNat_lt (by omega) l2).mpr hil
      refine own_seg C S [(7, .iload 5, 2), (9, .iload_n 3, 1)] (by decide +kernel) 10 #[.val (.ref t), .val (.int k), .val (.int (0 : Int32)), .val (.int N), .val (.int k.toInt8.toInt32), .val (.int (Int32.ofNat i))] [(.int N), (.int (Int32.ofNat i))] rfl ?_
      refine own_icmp C S (q := .ge) (o := 21) (by decide +kernel) 31 (by decide) (by decide) (fun (hq : ¬ (Int32.ofNat i) < N) => False.elim (hq hlt)) (fun (q15 : (Int32.ofNat i) < N) => ?_)
      refine own_seg C S [(13, .aload_n 0, 1), (14, .iload 5, 2)] (by decide +kernel) 16 #[.val (.ref t), .val (.int k), .val (.int (0 : Int32)), .val (.int N), .val (.int k.toInt8.toInt32), .val (.int (Int32.ofNat i))] [(.int (Int32.ofNat i)), (.ref t)] rfl ?_
      refine own_baload C S tK ⟨(own_ofNat_nn (by omega)).1, hlt⟩ (.int ((cs.getD i 0).toInt8.toInt32)) (by rw [hvs]; exact own_getD (by omega) hil) (by decide +kernel) ?_
      refine own_seg C S [(17, .iload 4, 2)] (by decide +kernel) 19 #[.val (.ref t), .val (.int k), .val (.int (0 : Int32)), .val (.int N), .val (.int k.toInt8.toInt32), .val (.int (Int32.ofNat i))] [(.int k.toInt8.toInt32), (.int ((cs.getD i 0).toInt8.toInt32))] rfl ?_
      refine own_icmp C S (q := .ne) (o := 6) (by decide +kernel) 25 (by decide) (by decide) (fun (q16 : ¬ ((cs.getD i 0).toInt8.toInt32) = k.toInt8.toInt32) => ?_) (fun (q17 : ((cs.getD i 0).toInt8.toInt32) = k.toInt8.toInt32) => ?_)
      · refine own_seg C S [(25, .iinc 5 1, 3), (28, .goto (-21), 3)] (by decide +kernel) 7 #[.val (.ref t), .val (.int k), .val (.int (0 : Int32)), .val (.int N), .val (.int k.toInt8.toInt32), .val (.int ((Int32.ofNat i) + (1 : Int32)))] [] rfl ?_
        rw [show ((Int32.ofNat i) + (1 : Int32)) = (Int32.ofNat (i + 1)) from own_ofNat_succ i]
        exact ih T (i + 1) (by omega) (own_take_succ hil ha (fun e => q16 (by rw [e]))) S
      · refine own_seg C S [(22, .iload 5, 2)] (by decide +kernel) 24 #[.val (.ref t), .val (.int k), .val (.int (0 : Int32)), .val (.int N), .val (.int k.toInt8.toInt32), .val (.int (Int32.ofNat i))] [(.int (Int32.ofNat i))] rfl ?_
        refine own_retI C S (by decide +kernel) (by decide) (by decide) ?_
        exact ⟨_, rfl, rfl, Or.inr ⟨(own_ofNat_nn (by omega)).1, (own_b8_inj (hp _ (own_getD_mem hil)) k0 q17) ▸ own_getD_mem hil⟩⟩
  exact loop cs.length T0 0 (Nat.zero_add _) (by simp) S0
theorem own_pd0 : parseMethodDescriptor "(I)Z" = some ⟨[.int], (some .boolean)⟩ := by decide +kernel
theorem own_pd1 : parseMethodDescriptor "(II)I" = some ⟨[.int, .int], (some .int)⟩ := by decide +kernel
theorem own_pd2 : parseMethodDescriptor "([BIII)I" = some ⟨[(.array .byte), .int, .int, .int], (some .int)⟩ := by decide +kernel
set_option maxRecDepth 65536 in
set_option maxHeartbeats 40000000 in
theorem own_l1io (l : Launch) (Z : State) (a0 : Array Value) (hw : ∀ d ∈ tables_1, d.before a0 Z = true) (t : Addr) (tk : ClassId) (N : Int32) (vs : List Value) (cs : List Int32) (k : Int32) (h0 : Heap) (n0 : Nat) (z0 : n0 ≤ h0.size) (tK : Arv Z h0 t tk .byte N vs (.int 0)) (cd : StrChars.Road.CodA cs 0 N vs) (hp : ∀ c ∈ cs, ¬ c < 0 ∧ ¬ (255 : Int32) < c) (l2 : cs.length ≤ 4000) (k0 : ¬ k < (0 : Int32) ∧ ¬ (255 : Int32) < k) :
    own_Met l Z (⟨"java/lang/StringLatin1", "indexOf", "([BIII)I"⟩ : MethodName) jdk_43_method_22_code 4 (some .int) ({ frames := 1, cells := 0, slots := 0, locals := 17 } : Room) n0 #[(.ref t), (.int k), (.int (0 : Int32)), (.int N)] h0 (fun v h => ∃ r : Int32, v = some (.int r) ∧ h = h0 ∧ own_IO r cs k) := by
  refine own_met (by decide +kernel) #[.val (.ref t), .val (.int k), .val (.int (0 : Int32)), .val (.int N)] (fun m => by first | (simp [entryFrame, mkF, argsToLocals, Value.category]; done) | rfl) ?_
  intro p e s m below meth c T0 C S0
  obtain ⟨hN, hvs⟩ := own_cod cd
  refine own_seg C S0 [(0, .iload_n 1, 1)] (by decide +kernel) 1 #[.val (.ref t), .val (.int k), .val (.int (0 : Int32)), .val (.int N)] [(.int k)] rfl ?_
  refine own_callS C S0 (own_wd hw 88 rfl) (own_wd hw 89 rfl) (own_wd hw 86 rfl) (own_wd hw 90 rfl) (by decide) (own_Met.pay (own_ce l Z a0 hw k h0 n0 z0 k0) C 0 (own_wd hw 90 rfl) (own_wd hw 86 rfl) (by decide) (by decide)) (fun _ _ _ q => q.2) [(.int k)] [] rfl own_pd0 rfl rfl rfl (Nat.le_of_ble_eq_true rfl) (by decide) (by decide) (by decide +kernel) ?_
  rintro T19 h20 v21 L22 S23 ⟨⟨rfl, e18⟩, -⟩
  replace S23 : own_S p l e ({ frames := 1, cells := 0, slots := 0, locals := 17 } : Room) s m #[(.ref t), (.int k), (.int (0 : Int32)), (.int N)] below meth c n0 T19 h20 0 0 := S23
  rw [e18] at S23; clear e18
  show own_Go p e below _ T19 (mkF m 4 #[.val (.ref t), .val (.int k), .val (.int (0 : Int32)), .val (.int N)] [(.int (1 : Int32))])
  refine own_if C S23 (q := .ne) (o := 5) (by decide +kernel) 9 (by decide) (by decide) (fun (q24 : ¬ (1 : Int32) = (0 : Int32)) => ?_) (fun (hq : (1 : Int32) = (0 : Int32)) => False.elim (absurd hq (by decide)))
  refine own_seg C S23 [(9, .iload_n 2, 1), (10, .iconst 0, 1)] (by decide +kernel) 11 #[.val (.ref t), .val (.int k), .val (.int (0 : Int32)), .val (.int N)] [(.int (0 : Int32)), (.int (0 : Int32))] rfl ?_
  refine own_callS C S23 (own_wd hw 91 rfl) (own_wd hw 92 rfl) (own_wd hw 93 rfl) (own_wd hw 94 rfl) (by decide) (own_Met.pay (own_max l Z a0 hw (0 : Int32) (0 : Int32) h0 n0 z0) C 0 (own_wd hw 94 rfl) (own_wd hw 93 rfl) (by decide) (by decide)) (fun _ _ _ q => q.2) [(.int (0 : Int32)), (.int (0 : Int32))] [] rfl own_pd1 rfl rfl rfl (Nat.le_of_ble_eq_true rfl) (by decide) (by decide) (by decide +kernel) ?_
  rintro T26 h27 v28 L29 S30 ⟨⟨rfl, e25⟩, -⟩
  replace S30 : own_S p l e ({ frames := 1, cells := 0, slots := 0, locals := 17 } : Room) s m #[(.ref t), (.int k), (.int (0 : Int32)), (.int N)] below meth c n0 T26 h27 0 0 := S30
  rw [e25] at S30; clear e25
  show own_Go p e below _ T26 (mkF m 14 #[.val (.ref t), .val (.int k), .val (.int (0 : Int32)), .val (.int N)] [(.int (if (0 : Int32) < (0 : Int32) then (0 : Int32) else (0 : Int32)))])
  refine own_seg C S30 [(14, .istore_n 2, 1), (15, .iload_n 3, 1), (16, .aload_n 0, 1)] (by decide +kernel) 17 #[.val (.ref t), .val (.int k), .val (.int (if (0 : Int32) < (0 : Int32) then (0 : Int32) else (0 : Int32))), .val (.int N)] [(.ref t), (.int N)] rfl ?_
  rw [show (if (0 : Int32) < (0 : Int32) then (0 : Int32) else (0 : Int32)) = (0 : Int32) from rfl]
  refine own_alen C S30 tK (by decide +kernel) ?_
  refine own_callS C S30 (own_wd hw 95 rfl) (own_wd hw 96 rfl) (own_wd hw 93 rfl) (own_wd hw 97 rfl) (by decide) (own_Met.pay (own_min l Z a0 hw N N h0 n0 z0) C 0 (own_wd hw 97 rfl) (own_wd hw 93 rfl) (by decide) (by decide)) (fun _ _ _ q => q.2) [(.int N), (.int N)] [] rfl own_pd1 rfl rfl rfl (Nat.le_of_ble_eq_true rfl) (by decide) (by decide) (by decide +kernel) ?_
  rintro T32 h33 v34 L35 S36 ⟨⟨rfl, e31⟩, -⟩
  replace S36 : own_S p l e ({ frames := 1, cells := 0, slots := 0, locals := 17 } : Room) s m #[(.ref t), (.int k), (.int (0 : Int32)), (.int N)] below meth c n0 T32 h33 0 0 := S36
  rw [e31] at S36; clear e31
  show own_Go p e below _ T32 (mkF m 21 #[.val (.ref t), .val (.int k), .val (.int (0 : Int32)), .val (.int N)] [(.int (if N < N then N else N))])
  refine own_seg C S36 [(21, .istore_n 3, 1), (22, .iload_n 2, 1), (23, .iload_n 3, 1)] (by decide +kernel) 24 #[.val (.ref t), .val (.int k), .val (.int (0 : Int32)), .val (.int (if N < N then N else N))] [(.int (if N < N then N else N)), (.int (0 : Int32))] rfl ?_
  rw [show (if N < N then N else N) = N from (by split <;> rfl)]
  refine own_icmp C S36 (q := .lt) (o := 5) (by decide +kernel) 29 (by decide) (by decide) (fun (q37 : (0 : Int32) < N) => ?_) (fun (q38 : ¬ (0 : Int32) < N) => ?_)
  · refine own_seg C S36 [(29, .aload_n 0, 1), (30, .iload_n 1, 1), (31, .iload_n 2, 1), (32, .iload_n 3, 1)] (by decide +kernel) 33 #[.val (.ref t), .val (.int k), .val (.int (0 : Int32)), .val (.int N)] [(.int N), (.int (0 : Int32)), (.int k), (.ref t)] rfl ?_
    refine own_callS C S36 (own_wd hw 98 rfl) (own_wd hw 99 rfl) (own_wd hw 86 rfl) (own_wd hw 100 rfl) (by decide) (own_Met.pay (own_ioc l Z a0 hw t tk N vs cs k h0 n0 z0 tK cd hp l2 k0) C 0 (own_wd hw 100 rfl) (own_wd hw 86 rfl) (by decide) (by decide)) (fun _ _ _ q => q.2) [(.ref t), (.int k), (.int (0 : Int32)), (.int N)] [] rfl own_pd2 rfl rfl rfl (Nat.le_of_ble_eq_true rfl) (by decide) (by decide) (by decide +kernel) ?_
    rintro T42 h43 v44 L45 S46 ⟨⟨y39, rfl, e40, p41⟩, -⟩
    replace S46 : own_S p l e ({ frames := 1, cells := 0, slots := 0, locals := 17 } : Room) s m #[(.ref t), (.int k), (.int (0 : Int32)), (.int N)] below meth c n0 T42 h43 0 0 := S46
    rw [e40] at S46; clear e40
    show own_Go p e below _ T42 (mkF m 36 #[.val (.ref t), .val (.int k), .val (.int (0 : Int32)), .val (.int N)] [(.int y39)])
    refine own_retI C S46 (by decide +kernel) (by decide) (by decide) ?_
    exact ⟨y39, rfl, rfl, p41⟩
  · refine own_seg C S36 [(27, .iconst (-1), 1)] (by decide +kernel) 28 #[.val (.ref t), .val (.int k), .val (.int (0 : Int32)), .val (.int N)] [(.int (-1 : Int32))] rfl ?_
    refine own_retI C S36 (by decide +kernel) (by decide) (by decide) ?_
    refine ⟨_, rfl, rfl, Or.inl ⟨by decide, fun c hc => ?_⟩⟩
    rw [← hN] at q38
    exact absurd ((own_ofNat_lt (i := 0) (by omega) l2).mpr (List.length_pos_of_mem hc)) q38
set_option maxRecDepth 65536 in
set_option maxHeartbeats 40000000 in
theorem own_isL (l : Launch) (Z : State) (a0 : Array Value) (hw : ∀ d ∈ tables_1, d.before a0 Z = true) (G1 : Int32) (G3 : Value) (x : Addr) (h0 : Heap) (n0 : Nat) (z0 : n0 ≤ h0.size) (X00 : Old Z n0 h0) (pC : Fld Z h0 x "java/lang/String" "coder" "B" (.int 0)) (O2 : Sta Z Z.heap "java/lang/String" "COMPACT_STRINGS" "Z" (.int G1)) (O4 : Sta Z Z.heap "jdk/internal/util/Preconditions" "SIOOBE_FORMATTER" "Ljava/util/function/BiFunction;" G3) (P5 : ¬ G1 = (0 : Int32)) (rG3 : G3.isRef = true) :
    own_Met l Z (⟨"java/lang/String", "isLatin1", "()Z"⟩ : MethodName) jdk_42_method_154_code 1 (some .boolean) ({ frames := 0, cells := 0, slots := 0, locals := 0 } : Room) n0 #[(.ref x)] h0 (fun v h => v = some (.int (1 : Int32)) ∧ h = h0) := by
  refine own_met (by decide +kernel) #[.val (.ref x)] (fun m => by first | (simp [entryFrame, mkF, argsToLocals, Value.category]; done) | rfl) ?_
  intro p e s m below meth c T0 C S0
  refine own_getS C S0 (own_wd hw 18 rfl) Via.refl (O2.ext X00.2) (by decide +kernel) ?_
  intro T47 S48
  refine own_if C S48 (q := .eq) (o := 14) (by decide +kernel) 17 (by decide) (by decide) (fun (hq : G1 = (0 : Int32)) => False.elim (P5 hq)) (fun (q49 : ¬ G1 = (0 : Int32)) => ?_)
  refine own_seg C S48 [(6, .aload_n 0, 1)] (by decide +kernel) 7 #[.val (.ref x)] [(.ref x)] rfl ?_
  refine own_getF C S48 (host := "") (Or.inl (own_wd hw 30 rfl)) Via.refl pC (by decide +kernel) ?_
  intro T50 S51
  refine own_if C S51 (q := .ne) (o := 7) (by decide +kernel) 17 (by decide) (by decide) (fun (hq : ¬ 0 = (0 : Int32)) => False.elim (hq rfl)) (fun (q52 : 0 = (0 : Int32)) => ?_)
  refine own_seg C S51 [(13, .iconst 1, 1), (14, .goto 4, 3)] (by decide +kernel) 18 #[.val (.ref x)] [(.int (1 : Int32))] rfl ?_
  refine own_retZ C S51 (by decide +kernel) (by decide) (by decide) (by decide) ?_
  exact ⟨rfl, rfl⟩
theorem own_pd3 : parseMethodDescriptor "()Z" = some ⟨[], (some .boolean)⟩ := by decide +kernel
theorem own_hln : ∀ d ∈ StrChars.Road.wordsLen, d ∈ tables_1 := by decide +kernel
theorem own_pd4 : parseMethodDescriptor "()I" = some ⟨[], (some .int)⟩ := by decide +kernel
set_option maxRecDepth 65536 in
set_option maxHeartbeats 40000000 in
theorem own_io2 (l : Launch) (Z : State) (a0 : Array Value) (hw : ∀ d ∈ tables_1, d.before a0 Z = true) (G1 : Int32) (G3 : Value) (x : Addr) (xt : Addr) (xk : ClassId) (xN : Int32) (xvs : List Value) (xcs : List Int32) (k : Int32) (h0 : Heap) (n0 : Nat) (z0 : n0 ≤ h0.size) (X00 : Old Z n0 h0) (xE : Exa Z h0 x "java/lang/String") (xV : Fld Z h0 x "java/lang/String" "value" "[B" (.ref xt)) (xC : Fld Z h0 x "java/lang/String" "coder" "B" (.int 0)) (xK : Arv Z h0 xt xk .byte xN xvs (.int 0)) (O2 : Sta Z Z.heap "java/lang/String" "COMPACT_STRINGS" "Z" (.int G1)) (O4 : Sta Z Z.heap "jdk/internal/util/Preconditions" "SIOOBE_FORMATTER" "Ljava/util/function/BiFunction;" G3) (P5 : ¬ G1 = (0 : Int32)) (rG3 : G3.isRef = true) (xcd : StrChars.Road.CodA xcs 0 xN xvs) (xhp : ∀ c ∈ xcs, ¬ c < 0 ∧ ¬ (255 : Int32) < c) (xl2 : xcs.length ≤ 4000) (k0 : ¬ k < (0 : Int32) ∧ ¬ (255 : Int32) < k) :
    own_Met l Z (⟨"java/lang/String", "indexOf", "(II)I"⟩ : MethodName) jdk_42_method_80_code 3 (some .int) ({ frames := 2, cells := 0, slots := 0, locals := 32 } : Room) n0 #[(.ref x), (.int k), (.int (0 : Int32))] h0 (fun v h => ∃ r : Int32, v = some (.int r) ∧ h = h0 ∧ own_IO r xcs k) := by
  refine own_met (by decide +kernel) #[.val (.ref x), .val (.int k), .val (.int (0 : Int32))] (fun m => by first | (simp [entryFrame, mkF, argsToLocals, Value.category]; done) | rfl) ?_
  intro p e s m below meth c T0 C S0
  refine own_seg C S0 [(0, .aload_n 0, 1)] (by decide +kernel) 1 #[.val (.ref x), .val (.int k), .val (.int (0 : Int32))] [(.ref x)] rfl ?_
  refine own_callV C S0 (own_wd hw 69 rfl) (own_wd hw 70 rfl) (own_wd hw 72 rfl) (y' := ⟨"java/lang/String", "isLatin1", "()Z"⟩) rfl (own_wd hw 72 rfl) (own_wd hw 71 rfl) (by decide) (own_Met.pay (own_isL l Z a0 hw G1 G3 x h0 n0 z0 X00 xC O2 O4 P5 rG3) C 0 (own_wd hw 73 rfl) (own_wd hw 7 rfl) (by decide) (by decide)) (fun _ _ _ q => q.2) xE [] [] rfl own_pd3 rfl rfl rfl (Nat.le_of_ble_eq_true rfl) (by decide) (by decide) (by decide +kernel) ?_
  rintro T54 h55 v56 L57 S58 ⟨⟨rfl, e53⟩, -⟩
  replace S58 : own_S p l e ({ frames := 2, cells := 0, slots := 0, locals := 32 } : Room) s m #[(.ref x), (.int k), (.int (0 : Int32))] below meth c n0 T54 h55 0 0 := S58
  rw [e53] at S58; clear e53
  show own_Go p e below _ T54 (mkF m 4 #[.val (.ref x), .val (.int k), .val (.int (0 : Int32))] [(.int (1 : Int32))])
  refine own_if C S58 (q := .eq) (o := 19) (by decide +kernel) 23 (by decide) (by decide) (fun (hq : (1 : Int32) = (0 : Int32)) => False.elim (absurd hq (by decide))) (fun (q59 : ¬ (1 : Int32) = (0 : Int32)) => ?_)
  refine own_seg C S58 [(7, .aload_n 0, 1)] (by decide +kernel) 8 #[.val (.ref x), .val (.int k), .val (.int (0 : Int32))] [(.ref x)] rfl ?_
  refine own_getF C S58 (host := "") (Or.inl (own_wd hw 32 rfl)) Via.refl xV (by decide +kernel) ?_
  intro T60 S61
  refine own_seg C S61 [(11, .iload_n 1, 1), (12, .iload_n 2, 1), (13, .aload_n 0, 1)] (by decide +kernel) 14 #[.val (.ref x), .val (.int k), .val (.int (0 : Int32))] [(.ref x), (.int (0 : Int32)), (.int k), (.ref xt)] rfl ?_
  refine own_callV C S61 (own_wd hw 74 rfl) (own_wd hw 75 rfl) (own_wd hw 77 rfl) (y' := ⟨"java/lang/String", "length", "()I"⟩) rfl (own_wd hw 77 rfl) (own_wd hw 76 rfl) (by decide) (Q := (fun v h' L => v = some (.int (Int32.ofNat (xcs).length)) ∧ L = [] ∧ h' = h0)) (StrChars.Road.lenW (W := 3) C.2.2.2.2.2.2.2 (fun d hd => hw d (own_hln d hd)) (kI := 4) (own_wd hw 6 rfl) xE xV xC xK xcd (own_up _ xhp) (O2.ext X00.2) P5 xl2 (by decide) (by decide)) (fun _ _ L q => by rw [q.2.1]; exact Fr.nil _) xE [] [(.int (0 : Int32)), (.int k), (.ref xt)] rfl own_pd4 rfl rfl rfl (Nat.le_of_ble_eq_true rfl) (by decide) (by decide) (by decide +kernel) ?_
  rintro T63 h64 v65 L66 S67 ⟨rfl, -, e62⟩
  replace S67 : own_S p l e ({ frames := 2, cells := 0, slots := 0, locals := 32 } : Room) s m #[(.ref x), (.int k), (.int (0 : Int32))] below meth c n0 T63 h64 0 0 := S67
  rw [e62] at S67; clear e62
  rw [(own_cod xcd).1]
  show own_Go p e below _ T63 (mkF m 17 #[.val (.ref x), .val (.int k), .val (.int (0 : Int32))] [(.int xN), (.int (0 : Int32)), (.int k), (.ref xt)])
  refine own_callS C S67 (own_wd hw 84 rfl) (own_wd hw 85 rfl) (own_wd hw 86 rfl) (own_wd hw 87 rfl) (by decide) (own_Met.pay (own_l1io l Z a0 hw xt xk xN xvs xcs k h0 n0 z0 xK xcd xhp xl2 k0) C 0 (own_wd hw 87 rfl) (own_wd hw 86 rfl) (by decide) (by decide)) (fun _ _ _ q => q.2) [(.ref xt), (.int k), (.int (0 : Int32)), (.int xN)] [] rfl own_pd2 rfl rfl rfl (Nat.le_of_ble_eq_true rfl) (by decide) (by decide) (by decide +kernel) ?_
  rintro T71 h72 v73 L74 S75 ⟨⟨y68, rfl, e69, p70⟩, -⟩
  replace S75 : own_S p l e ({ frames := 2, cells := 0, slots := 0, locals := 32 } : Room) s m #[(.ref x), (.int k), (.int (0 : Int32))] below meth c n0 T71 h72 0 0 := S75
  rw [e69] at S75; clear e69
  show own_Go p e below _ T71 (mkF m 20 #[.val (.ref x), .val (.int k), .val (.int (0 : Int32))] [(.int y68)])
  refine own_seg C S75 [(20, .goto 16, 3)] (by decide +kernel) 36 #[.val (.ref x), .val (.int k), .val (.int (0 : Int32))] [(.int y68)] rfl ?_
  refine own_retI C S75 (by decide +kernel) (by decide) (by decide) ?_
  exact ⟨y68, rfl, rfl, p70⟩
set_option maxRecDepth 65536 in
set_option maxHeartbeats 40000000 in
theorem own_io (l : Launch) (Z : State) (a0 : Array Value) (hw : ∀ d ∈ tables_1, d.before a0 Z = true) (G1 : Int32) (G3 : Value) (x : Addr) (xt : Addr) (xk : ClassId) (xN : Int32) (xvs : List Value) (xcs : List Int32) (k : Int32) (h0 : Heap) (n0 : Nat) (z0 : n0 ≤ h0.size) (X00 : Old Z n0 h0) (xE : Exa Z h0 x "java/lang/String") (xV : Fld Z h0 x "java/lang/String" "value" "[B" (.ref xt)) (xC : Fld Z h0 x "java/lang/String" "coder" "B" (.int 0)) (xK : Arv Z h0 xt xk .byte xN xvs (.int 0)) (O2 : Sta Z Z.heap "java/lang/String" "COMPACT_STRINGS" "Z" (.int G1)) (O4 : Sta Z Z.heap "jdk/internal/util/Preconditions" "SIOOBE_FORMATTER" "Ljava/util/function/BiFunction;" G3) (P5 : ¬ G1 = (0 : Int32)) (rG3 : G3.isRef = true) (xcd : StrChars.Road.CodA xcs 0 xN xvs) (xhp : ∀ c ∈ xcs, ¬ c < 0 ∧ ¬ (255 : Int32) < c) (xl2 : xcs.length ≤ 4000) (k0 : ¬ k < (0 : Int32) ∧ ¬ (255 : Int32) < k) :
    own_Met l Z (⟨"java/lang/String", "indexOf", "(I)I"⟩ : MethodName) jdk_42_method_79_code 2 (some .int) ({ frames := 3, cells := 0, slots := 0, locals := 46 } : Room) n0 #[(.ref x), (.int k)] h0 (fun v h => ∃ r : Int32, v = some (.int r) ∧ h = h0 ∧ own_IO r xcs k) := by
  refine own_met (by decide +kernel) #[.val (.ref x), .val (.int k)] (fun m => by first | (simp [entryFrame, mkF, argsToLocals, Value.category]; done) | rfl) ?_
  intro p e s m below meth c T0 C S0
  refine own_seg C S0 [(0, .aload_n 0, 1), (1, .iload_n 1, 1), (2, .iconst 0, 1)] (by decide +kernel) 3 #[.val (.ref x), .val (.int k)] [(.int (0 : Int32)), (.int k), (.ref x)] rfl ?_
  refine own_callV C S0 (own_wd hw 64 rfl) (own_wd hw 65 rfl) (own_wd hw 67 rfl) (y' := ⟨"java/lang/String", "indexOf", "(II)I"⟩) rfl (own_wd hw 67 rfl) (own_wd hw 66 rfl) (by decide) (own_Met.pay (own_io2 l Z a0 hw G1 G3 x xt xk xN xvs xcs k h0 n0 z0 X00 xE xV xC xK O2 O4 P5 rG3 xcd xhp xl2 k0) C 0 (own_wd hw 68 rfl) (own_wd hw 7 rfl) (by decide) (by decide)) (fun _ _ _ q => q.2) xE [(.int k), (.int (0 : Int32))] [] rfl own_pd1 rfl rfl rfl (Nat.le_of_ble_eq_true rfl) (by decide) (by decide) (by decide +kernel) ?_
  rintro T79 h80 v81 L82 S83 ⟨⟨y76, rfl, e77, p78⟩, -⟩
  replace S83 : own_S p l e ({ frames := 3, cells := 0, slots := 0, locals := 46 } : Room) s m #[(.ref x), (.int k)] below meth c n0 T79 h80 0 0 := S83
  rw [e77] at S83; clear e77
  show own_Go p e below _ T79 (mkF m 6 #[.val (.ref x), .val (.int k)] [(.int y76)])
  refine own_retI C S83 (by decide +kernel) (by decide) (by decide) ?_
  exact ⟨y76, rfl, rfl, p78⟩
theorem own_fd0 : parseFieldDescriptor "[B" = some (.array .byte) := by decide +kernel
theorem own_fd1 : parseFieldDescriptor "B" = some .byte := by decide +kernel
theorem own_sn0 {Z : State} {a0 : Array Value} (hw : ∀ d ∈ tables_1, d.before a0 Z = true) : Jvm.RoadKit.slotOf Z "java/lang/AbstractStringBuilder" "coder" "B" ≠ Jvm.RoadKit.slotOf Z "java/lang/AbstractStringBuilder" "value" "[B" := slot_ne (Or.inl (own_wd hw 137 rfl)) (Or.inl (own_wd hw 135 rfl)) (by decide) own_fd1 own_fd0
theorem own_sn1 {Z : State} {a0 : Array Value} (hw : ∀ d ∈ tables_1, d.before a0 Z = true) : Jvm.RoadKit.slotOf Z "java/lang/AbstractStringBuilder" "value" "[B" ≠ Jvm.RoadKit.slotOf Z "java/lang/AbstractStringBuilder" "coder" "B" := slot_ne (Or.inl (own_wd hw 135 rfl)) (Or.inl (own_wd hw 137 rfl)) (by decide) own_fd0 own_fd1
theorem own_fd2 : parseFieldDescriptor "I" = some .int := by decide +kernel
theorem own_sn2 {Z : State} {a0 : Array Value} (hw : ∀ d ∈ tables_1, d.before a0 Z = true) : Jvm.RoadKit.slotOf Z "java/lang/AbstractStringBuilder" "count" "I" ≠ Jvm.RoadKit.slotOf Z "java/lang/AbstractStringBuilder" "value" "[B" := slot_ne (Or.inl (own_wd hw 155 rfl)) (Or.inl (own_wd hw 135 rfl)) (by decide) own_fd2 own_fd0
theorem own_sn3 {Z : State} {a0 : Array Value} (hw : ∀ d ∈ tables_1, d.before a0 Z = true) : Jvm.RoadKit.slotOf Z "java/lang/AbstractStringBuilder" "count" "I" ≠ Jvm.RoadKit.slotOf Z "java/lang/AbstractStringBuilder" "coder" "B" := slot_ne (Or.inl (own_wd hw 155 rfl)) (Or.inl (own_wd hw 137 rfl)) (by decide) own_fd2 own_fd1
set_option maxRecDepth 65536 in
set_option maxHeartbeats 40000000 in
theorem own_asbI (l : Launch) (Z : State) (a0 : Array Value) (hw : ∀ d ∈ tables_1, d.before a0 Z = true) (G1 : Int32) (G3 : Value) (a : Addr) (h0 : Heap) (n0 : Nat) (z0 : n0 ≤ h0.size) (ge_a : n0 ≤ a) (X00 : Old Z n0 h0) (aE : Exa Z h0 a "java/lang/StringBuilder") (aV : Fld Z h0 a "java/lang/AbstractStringBuilder" "value" "[B" .null) (aC : Fld Z h0 a "java/lang/AbstractStringBuilder" "coder" "B" (.int (0 : Int32))) (aN : Fld Z h0 a "java/lang/AbstractStringBuilder" "count" "I" (.int (0 : Int32))) (O2 : Sta Z Z.heap "java/lang/String" "COMPACT_STRINGS" "Z" (.int G1)) (O4 : Sta Z Z.heap "jdk/internal/util/Preconditions" "SIOOBE_FORMATTER" "Ljava/util/function/BiFunction;" G3) (P5 : ¬ G1 = (0 : Int32)) (rG3 : G3.isRef = true) :
    own_Met l Z (⟨"java/lang/AbstractStringBuilder", "<init>", "(I)V"⟩ : MethodName) jdk_68_method_2_code 2 none ({ frames := 1, cells := 1, slots := 16, locals := 12 } : Room) n0 #[(.ref a), (.int (16 : Int32))] h0 (fun v h => ∃ b : Addr, ∃ bk : ClassId, v = none ∧ h0.size ≤ b ∧ Keep h0 h [a] ∧ Exa Z h a "java/lang/StringBuilder" ∧ Fld Z h a "java/lang/AbstractStringBuilder" "value" "[B" (.ref b) ∧ Fld Z h a "java/lang/AbstractStringBuilder" "coder" "B" (.int (0 : Int32)) ∧ Fld Z h a "java/lang/AbstractStringBuilder" "count" "I" (.int (0 : Int32)) ∧ Arv Z h b bk .byte (16 : Int32) ([(.int (0 : Int32)), (.int (0 : Int32)), (.int (0 : Int32)), (.int (0 : Int32)), (.int (0 : Int32)), (.int (0 : Int32)), (.int (0 : Int32)), (.int (0 : Int32)), (.int (0 : Int32)), (.int (0 : Int32)), (.int (0 : Int32)), (.int (0 : Int32)), (.int (0 : Int32)), (.int (0 : Int32)), (.int (0 : Int32)), (.int (0 : Int32))]) (.int (0 : Int32))) := by
  refine own_met (by decide +kernel) #[.val (.ref a), .val (.int (16 : Int32))] (fun m => by first | (simp [entryFrame, mkF, argsToLocals, Value.category]; done) | rfl) ?_
  intro p e s m below meth c T0 C S0
  refine own_seg C S0 [(0, .aload_n 0, 1)] (by decide +kernel) 1 #[.val (.ref a), .val (.int (16 : Int32))] [(.ref a)] rfl ?_
  refine own_initO C S0 (own_wd hw 132 rfl) (own_wd hw 16 rfl) (own_wd hw 17 rfl) rfl (by decide +kernel) (by decide) 0 (Nat.le_of_ble_eq_true rfl) (by decide) ?_
  intro T84 S85
  refine own_getS C S85 (own_wd hw 133 rfl) Via.refl (O2.ext X00.2) (by decide +kernel) ?_
  intro T86 S87
  refine own_if C S87 (q := .eq) (o := 18) (by decide +kernel) 25 (by decide) (by decide) (fun (hq : G1 = (0 : Int32)) => False.elim (P5 hq)) (fun (q88 : ¬ G1 = (0 : Int32)) => ?_)
  refine own_seg C S87 [(10, .aload_n 0, 1), (11, .iload_n 1, 1)] (by decide +kernel) 12 #[.val (.ref a), .val (.int (16 : Int32))] [(.int (16 : Int32)), (.ref a)] rfl ?_
  refine own_newP C S87 (aty := .byte) (own_wd hw 23 rfl) (by decide +kernel) (by decide) 16 (by decide) (by decide) (by decide) (by decide) ?_
  intro T89 h91 a92 k93 S90 g94 E95 f96
  have f97 : Arv Z h91 a92 k93 .byte (16 : Int32) ([(.int (0 : Int32)), (.int (0 : Int32)), (.int (0 : Int32)), (.int (0 : Int32)), (.int (0 : Int32)), (.int (0 : Int32)), (.int (0 : Int32)), (.int (0 : Int32)), (.int (0 : Int32)), (.int (0 : Int32)), (.int (0 : Int32)), (.int (0 : Int32)), (.int (0 : Int32)), (.int (0 : Int32)), (.int (0 : Int32)), (.int (0 : Int32))]) (.int (0 : Int32)) := Arv.pad f96 (pad_rep [] (.int (0 : Int32)) 16)
  have f98 : Fld Z h91 a "java/lang/AbstractStringBuilder" "value" "[B" .null := (Fld.ext E95 aV)
  have f99 : Exa Z h91 a "java/lang/StringBuilder" := (Exa.ext E95 aE)
  refine own_putF C S90 (ty := (.array .byte)) (host := "") (Or.inl (own_wd hw 134 rfl)) Via.refl f98 f99 (Or.inl (own_wd hw 135 rfl)) (own_wd hw 121 rfl) own_fd0 rfl rfl ge_a (by decide +kernel) ?_
  intro T100 h102 S101 W103
  have f104 : Fld Z h102 a "java/lang/AbstractStringBuilder" "value" "[B" (.ref a92) := Fld.same W103 f98
  refine own_seg C S101 [(17, .aload_n 0, 1), (18, .iconst 0, 1)] (by decide +kernel) 19 #[.val (.ref a), .val (.int (16 : Int32))] [(.int (0 : Int32)), (.ref a)] rfl ?_
  have f105 : Fld Z h102 a "java/lang/AbstractStringBuilder" "coder" "B" (.int (0 : Int32)) := (Fld.other W103 (Fld.ext E95 aC) (Or.inr (own_sn0 hw)))
  have f106 : Exa Z h102 a "java/lang/StringBuilder" := (Exa.wr W103 f99)
  refine own_putF C S101 (ty := .byte) (host := "") (Or.inl (own_wd hw 136 rfl)) Via.refl f105 f106 (Or.inl (own_wd hw 137 rfl)) (own_wd hw 121 rfl) own_fd1 rfl rfl ge_a (by decide +kernel) ?_
  intro T107 h109 S108 W110
  have f111 : Fld Z h109 a "java/lang/AbstractStringBuilder" "coder" "B" (.int (0 : Int32)) := Fld.same W110 f105
  refine own_seg C S108 [(22, .goto 16, 3)] (by decide +kernel) 38 #[.val (.ref a), .val (.int (16 : Int32))] [] rfl ?_
  refine own_retV C S108 (by decide +kernel) (by decide) (by decide) ?_
  have f112 : Exa Z h109 a "java/lang/StringBuilder" := (Exa.wr W110 f106)
  have f113 : Fld Z h109 a "java/lang/AbstractStringBuilder" "value" "[B" (.ref a92) := (Fld.other W110 f104 (Or.inr (own_sn1 hw)))
  have f114 : Fld Z h109 a "java/lang/AbstractStringBuilder" "count" "I" (.int (0 : Int32)) := (Fld.other W110 (Fld.other W103 (Fld.ext E95 aN) (Or.inr (own_sn2 hw))) (Or.inr (own_sn3 hw)))
  have n115 : a ≠ a92 := by rw [g94]; exact Nat.ne_of_lt aE.lt
  have f116 : Arv Z h109 a92 k93 .byte (16 : Int32) ([(.int (0 : Int32)), (.int (0 : Int32)), (.int (0 : Int32)), (.int (0 : Int32)), (.int (0 : Int32)), (.int (0 : Int32)), (.int (0 : Int32)), (.int (0 : Int32)), (.int (0 : Int32)), (.int (0 : Int32)), (.int (0 : Int32)), (.int (0 : Int32)), (.int (0 : Int32)), (.int (0 : Int32)), (.int (0 : Int32)), (.int (0 : Int32))]) (.int (0 : Int32)) := ((f97.other W103 (Ne.symm n115)).other W110 (Ne.symm n115))
  exact ⟨a92, k93, rfl, (by rw [g94]; exact (Nat.le_refl _)), ((((Keep.refl _ _).ext E95).wr W103 (Or.inl (List.mem_of_getElem? (i := 0) rfl))).wr W110 (Or.inl (List.mem_of_getElem? (i := 0) rfl))), f112, f113, f111, f114, f116⟩
theorem own_pd5 : parseMethodDescriptor "(I)V" = some ⟨[.int], none⟩ := by decide +kernel
set_option maxRecDepth 65536 in
set_option maxHeartbeats 40000000 in
theorem own_sbI (l : Launch) (Z : State) (a0 : Array Value) (hw : ∀ d ∈ tables_1, d.before a0 Z = true) (G1 : Int32) (G3 : Value) (a : Addr) (h0 : Heap) (n0 : Nat) (z0 : n0 ≤ h0.size) (ge_a : n0 ≤ a) (X00 : Old Z n0 h0) (aE : Exa Z h0 a "java/lang/StringBuilder") (aV : Fld Z h0 a "java/lang/AbstractStringBuilder" "value" "[B" .null) (aC : Fld Z h0 a "java/lang/AbstractStringBuilder" "coder" "B" (.int (0 : Int32))) (aN : Fld Z h0 a "java/lang/AbstractStringBuilder" "count" "I" (.int (0 : Int32))) (O2 : Sta Z Z.heap "java/lang/String" "COMPACT_STRINGS" "Z" (.int G1)) (O4 : Sta Z Z.heap "jdk/internal/util/Preconditions" "SIOOBE_FORMATTER" "Ljava/util/function/BiFunction;" G3) (P5 : ¬ G1 = (0 : Int32)) (rG3 : G3.isRef = true) :
    own_Met l Z (⟨"java/lang/StringBuilder", "<init>", "()V"⟩ : MethodName) jdk_67_method_1_code 1 none ({ frames := 2, cells := 1, slots := 16, locals := 25 } : Room) n0 #[(.ref a)] h0 (fun v h => ∃ b : Addr, ∃ bk : ClassId, v = none ∧ h0.size ≤ b ∧ Keep h0 h [a] ∧ Exa Z h a "java/lang/StringBuilder" ∧ Fld Z h a "java/lang/AbstractStringBuilder" "value" "[B" (.ref b) ∧ Fld Z h a "java/lang/AbstractStringBuilder" "coder" "B" (.int (0 : Int32)) ∧ Fld Z h a "java/lang/AbstractStringBuilder" "count" "I" (.int (0 : Int32)) ∧ Arv Z h b bk .byte (16 : Int32) ([(.int (0 : Int32)), (.int (0 : Int32)), (.int (0 : Int32)), (.int (0 : Int32)), (.int (0 : Int32)), (.int (0 : Int32)), (.int (0 : Int32)), (.int (0 : Int32)), (.int (0 : Int32)), (.int (0 : Int32)), (.int (0 : Int32)), (.int (0 : Int32)), (.int (0 : Int32)), (.int (0 : Int32)), (.int (0 : Int32)), (.int (0 : Int32))]) (.int (0 : Int32))) := by
  refine own_met (by decide +kernel) #[.val (.ref a)] (fun m => by first | (simp [entryFrame, mkF, argsToLocals, Value.category]; done) | rfl) ?_
  intro p e s m below meth c T0 C S0
  refine own_seg C S0 [(0, .aload_n 0, 1), (1, .bipush 16, 2)] (by decide +kernel) 3 #[.val (.ref a)] [(.int (16 : Int32)), (.ref a)] rfl ?_
  refine own_callI C S0 rfl (own_wd hw 126 rfl) (own_wd hw 127 rfl) (own_wd hw 131 rfl) (by decide) (own_Met.pay (own_asbI l Z a0 hw G1 G3 a h0 n0 z0 ge_a X00 aE aV aC aN O2 O4 P5 rG3) C 0 (own_wd hw 131 rfl) (own_wd hw 130 rfl) (by decide) (by decide)) (fun _ _ _ q => q.2) [(.int (16 : Int32))] [] rfl own_pd5 rfl rfl rfl (Nat.le_of_ble_eq_true rfl) (by decide) (by decide) (by decide +kernel) ?_
  rintro T126 h127 v128 L129 S130 ⟨⟨a117, k118, rfl, g119, K120, f121, f122, f123, f124, f125⟩, -⟩
  replace S130 : own_S p l e ({ frames := 2, cells := 1, slots := 16, locals := 25 } : Room) s m #[(.ref a)] below meth c n0 T126 h127 1 16 := S130
  show own_Go p e below _ T126 (mkF m 6 #[.val (.ref a)] [])
  refine own_retV C S130 (by decide +kernel) (by decide) (by decide) ?_
  exact ⟨a117, k118, rfl, (Nat.le_trans (Nat.le_refl _) g119), ((Keep.refl _ _).trans K120 (allS (Or.inl (List.mem_of_getElem? (i := 0) rfl)) all0)), f121, f122, f123, f124, f125⟩
set_option maxRecDepth 65536 in
set_option maxHeartbeats 40000000 in
theorem own_ens (l : Launch) (Z : State) (a0 : Array Value) (hw : ∀ d ∈ tables_1, d.before a0 Z = true) (a : Addr) (mn : Int32) (b : Addr) (bk : ClassId) (bN : Int32) (bvs : List Value) (h0 : Heap) (n0 : Nat) (z0 : n0 ≤ h0.size) (aE : Exa Z h0 a "java/lang/StringBuilder") (aV : Fld Z h0 a "java/lang/AbstractStringBuilder" "value" "[B" (.ref b)) (aC : Fld Z h0 a "java/lang/AbstractStringBuilder" "coder" "B" (.int (0 : Int32))) (bK : Arv Z h0 b bk .byte bN bvs (.int (0 : Int32))) (hle : ¬ (0 : Int32) < (mn - bN)) :
    own_Met l Z (⟨"java/lang/AbstractStringBuilder", "ensureCapacityInternal", "(I)V"⟩ : MethodName) jdk_68_method_9_code 3 none ({ frames := 0, cells := 0, slots := 0, locals := 0 } : Room) n0 #[(.ref a), (.int mn)] h0 (fun v h => v = none ∧ h = h0) := by
  refine own_met (by decide +kernel) #[.val (.ref a), .val (.int mn), .unset] (fun m => by first | (simp [entryFrame, mkF, argsToLocals, Value.category]; done) | rfl) ?_
  intro p e s m below meth c T0 C S0
  refine own_seg C S0 [(0, .aload_n 0, 1)] (by decide +kernel) 1 #[.val (.ref a), .val (.int mn), .unset] [(.ref a)] rfl ?_
  refine own_getF C S0 (host := "") (Or.inl (own_wd hw 134 rfl)) Via.refl aV (by decide +kernel) ?_
  intro T131 S132
  refine own_alen C S132 bK (by decide +kernel) ?_
  refine own_seg C S132 [(5, .aload_n 0, 1)] (by decide +kernel) 6 #[.val (.ref a), .val (.int mn), .unset] [(.ref a), (.int bN)] rfl ?_
  refine own_getF C S132 (host := "") (Or.inl (own_wd hw 136 rfl)) Via.refl aC (by decide +kernel) ?_
  intro T133 S134
  refine own_seg C S134 [(9, .ishr, 1)] (by decide +kernel) 10 #[.val (.ref a), .val (.int mn), .unset] [(.int (bN >>> ((0 : Int32) &&& 31)))] rfl ?_
  rw [show (bN >>> ((0 : Int32) &&& 31)) = bN from own_shr0 _]
  refine own_seg C S134 [(10, .istore_n 2, 1), (11, .iload_n 1, 1), (12, .iload_n 2, 1), (13, .isub, 1)] (by decide +kernel) 14 #[.val (.ref a), .val (.int mn), .val (.int bN)] [(.int (mn - bN))] rfl ?_
  refine own_if C S134 (q := .le) (o := 24) (by decide +kernel) 38 (by decide) (by decide) (fun (q135 : ¬ (0 : Int32) < (mn - bN)) => ?_) (fun (hq : (0 : Int32) < (mn - bN)) => False.elim (hle hq))
  refine own_retV C S134 (by decide +kernel) (by decide) (by decide) ?_
  exact ⟨rfl, rfl⟩
theorem own_pd6 : parseMethodDescriptor "()B" = some ⟨[], (some .byte)⟩ := by decide +kernel
set_option maxRecDepth 65536 in
set_option maxHeartbeats 40000000 in
theorem own_infl (l : Launch) (Z : State) (a0 : Array Value) (hw : ∀ d ∈ tables_1, d.before a0 Z = true) (G1 : Int32) (G3 : Value) (a : Addr) (x : Addr) (h0 : Heap) (n0 : Nat) (z0 : n0 ≤ h0.size) (X00 : Old Z n0 h0) (aC : Fld Z h0 a "java/lang/AbstractStringBuilder" "coder" "B" (.int (0 : Int32))) (xE : Exa Z h0 x "java/lang/String") (xC : Fld Z h0 x "java/lang/String" "coder" "B" (.int 0)) (O2 : Sta Z Z.heap "java/lang/String" "COMPACT_STRINGS" "Z" (.int G1)) (O4 : Sta Z Z.heap "jdk/internal/util/Preconditions" "SIOOBE_FORMATTER" "Ljava/util/function/BiFunction;" G3) (P5 : ¬ G1 = (0 : Int32)) (rG3 : G3.isRef = true) :
    own_Met l Z (⟨"java/lang/AbstractStringBuilder", "inflateIfNeededFor", "(Ljava/lang/String;)V"⟩ : MethodName) jdk_68_method_71_code 2 none ({ frames := 1, cells := 0, slots := 0, locals := 13 } : Room) n0 #[(.ref a), (.ref x)] h0 (fun v h => v = none ∧ h = h0) := by
  refine own_met (by decide +kernel) #[.val (.ref a), .val (.ref x)] (fun m => by first | (simp [entryFrame, mkF, argsToLocals, Value.category]; done) | rfl) ?_
  intro p e s m below meth c T0 C S0
  refine own_getS C S0 (own_wd hw 133 rfl) Via.refl (O2.ext X00.2) (by decide +kernel) ?_
  intro T136 S137
  refine own_if C S137 (q := .eq) (o := 18) (by decide +kernel) 21 (by decide) (by decide) (fun (hq : G1 = (0 : Int32)) => False.elim (P5 hq)) (fun (q138 : ¬ G1 = (0 : Int32)) => ?_)
  refine own_seg C S137 [(6, .aload_n 0, 1)] (by decide +kernel) 7 #[.val (.ref a), .val (.ref x)] [(.ref a)] rfl ?_
  refine own_getF C S137 (host := "") (Or.inl (own_wd hw 136 rfl)) Via.refl aC (by decide +kernel) ?_
  intro T139 S140
  refine own_seg C S140 [(10, .aload_n 1, 1)] (by decide +kernel) 11 #[.val (.ref a), .val (.ref x)] [(.ref x), (.int (0 : Int32))] rfl ?_
  refine own_callV C S140 (own_wd hw 171 rfl) (own_wd hw 80 rfl) (own_wd hw 82 rfl) (y' := ⟨"java/lang/String", "coder", "()B"⟩) rfl (own_wd hw 82 rfl) (own_wd hw 81 rfl) (by decide) (own_Met.pay (own_coder l Z a0 hw G1 G3 x h0 n0 z0 X00 xC O2 O4 P5 rG3) C 1 (own_wd hw 83 rfl) (own_wd hw 7 rfl) (by decide) (by decide)) (fun _ _ _ q => q.2) xE [] [(.int (0 : Int32))] rfl own_pd6 rfl rfl rfl (Nat.le_of_ble_eq_true rfl) (by decide) (by decide) (by decide +kernel) ?_
  rintro T142 h143 v144 L145 S146 ⟨⟨rfl, e141⟩, -⟩
  replace S146 : own_S p l e ({ frames := 1, cells := 0, slots := 0, locals := 13 } : Room) s m #[(.ref a), (.ref x)] below meth c n0 T142 h143 0 0 := S146
  rw [e141] at S146; clear e141
  show own_Go p e below _ T142 (mkF m 14 #[.val (.ref a), .val (.ref x)] [(.int 0), (.int (0 : Int32))])
  refine own_icmp C S146 (q := .eq) (o := 7) (by decide +kernel) 21 (by decide) (by decide) (fun (q147 : (0 : Int32) = 0) => ?_) (fun (hq : ¬ (0 : Int32) = 0) => False.elim (hq rfl))
  refine own_retV C S146 (by decide +kernel) (by decide) (by decide) ?_
  exact ⟨rfl, rfl⟩
set_option maxRecDepth 65536 in
set_option maxHeartbeats 40000000 in
theorem own_gb (l : Launch) (Z : State) (a0 : Array Value) (hw : ∀ d ∈ tables_1, d.before a0 Z = true) (G1 : Int32) (G3 : Value) (x : Addr) (xt : Addr) (xk : ClassId) (xN : Int32) (xvs : List Value) (xcs : List Int32) (b : Addr) (bk : ClassId) (bN : Int32) (bvs : List Value) (off : Int32) (us : List Value) (h0 : Heap) (n0 : Nat) (z0 : n0 ≤ h0.size) (ge_b : n0 ≤ b) (X00 : Old Z n0 h0) (xE : Exa Z h0 x "java/lang/String") (xV : Fld Z h0 x "java/lang/String" "value" "[B" (.ref xt)) (xC : Fld Z h0 x "java/lang/String" "coder" "B" (.int 0)) (xK : Arv Z h0 xt xk .byte xN xvs (.int 0)) (bK : Arv Z h0 b bk .byte bN bvs (.int (0 : Int32))) (O2 : Sta Z Z.heap "java/lang/String" "COMPACT_STRINGS" "Z" (.int G1)) (O4 : Sta Z Z.heap "jdk/internal/util/Preconditions" "SIOOBE_FORMATTER" "Ljava/util/function/BiFunction;" G3) (P5 : ¬ G1 = (0 : Int32)) (rG3 : G3.isRef = true) (xcd : StrChars.Road.CodA xcs 0 xN xvs) (xhp : ∀ c ∈ xcs, ¬ c < 0 ∧ ¬ (255 : Int32) < c) (xl2 : xcs.length ≤ 4000) (c3 : ¬ xN < 0) (c2 : ¬ off < 0) (c5 : off.toNatClampNeg + xN.toNatClampNeg ≤ bN.toNatClampNeg) (cl : off.toNatClampNeg + xN.toNatClampNeg ≤ bvs.length) (cu : bvs.take off.toNatClampNeg ++ ((List.range xN.toNatClampNeg).map fun i => xvs.getD ((0 : Int32).toNatClampNeg + i) (.int 0)) ++ bvs.drop (off.toNatClampNeg + xN.toNatClampNeg) = us) :
    own_Met l Z (⟨"java/lang/String", "getBytes", "([BIB)V"⟩ : MethodName) jdk_42_method_147_code 4 none ({ frames := 1, cells := 0, slots := 0, locals := 18 } : Room) n0 #[(.ref x), (.ref b), (.int off), (.int (0 : Int32))] h0 (fun v h => v = none ∧ Keep h0 h [b] ∧ Arv Z h b bk .byte bN us (.int (0 : Int32))) := by
  refine own_met (by decide +kernel) #[.val (.ref x), .val (.ref b), .val (.int off), .val (.int (0 : Int32))] (fun m => by first | (simp [entryFrame, mkF, argsToLocals, Value.category]; done) | rfl) ?_
  intro p e s m below meth c T0 C S0
  refine own_seg C S0 [(0, .aload_n 0, 1)] (by decide +kernel) 1 #[.val (.ref x), .val (.ref b), .val (.int off), .val (.int (0 : Int32))] [(.ref x)] rfl ?_
  refine own_callV C S0 (own_wd hw 79 rfl) (own_wd hw 80 rfl) (own_wd hw 82 rfl) (y' := ⟨"java/lang/String", "coder", "()B"⟩) rfl (own_wd hw 82 rfl) (own_wd hw 81 rfl) (by decide) (own_Met.pay (own_coder l Z a0 hw G1 G3 x h0 n0 z0 X00 xC O2 O4 P5 rG3) C 0 (own_wd hw 83 rfl) (own_wd hw 7 rfl) (by decide) (by decide)) (fun _ _ _ q => q.2) xE [] [] rfl own_pd6 rfl rfl rfl (Nat.le_of_ble_eq_true rfl) (by decide) (by decide) (by decide +kernel) ?_
  rintro T149 h150 v151 L152 S153 ⟨⟨rfl, e148⟩, -⟩
  replace S153 : own_S p l e ({ frames := 1, cells := 0, slots := 0, locals := 18 } : Room) s m #[(.ref x), (.ref b), (.int off), (.int (0 : Int32))] below meth c n0 T149 h150 0 0 := S153
  rw [e148] at S153; clear e148
  show own_Go p e below _ T149 (mkF m 4 #[.val (.ref x), .val (.ref b), .val (.int off), .val (.int (0 : Int32))] [(.int 0)])
  refine own_seg C S153 [(4, .iload_n 3, 1)] (by decide +kernel) 5 #[.val (.ref x), .val (.ref b), .val (.int off), .val (.int (0 : Int32))] [(.int (0 : Int32)), (.int 0)] rfl ?_
  refine own_icmp C S153 (q := .ne) (o := 23) (by decide +kernel) 28 (by decide) (by decide) (fun (hq : ¬ 0 = (0 : Int32)) => False.elim (hq rfl)) (fun (q154 : 0 = (0 : Int32)) => ?_)
  refine own_seg C S153 [(8, .aload_n 0, 1)] (by decide +kernel) 9 #[.val (.ref x), .val (.ref b), .val (.int off), .val (.int (0 : Int32))] [(.ref x)] rfl ?_
  refine own_getF C S153 (host := "") (Or.inl (own_wd hw 32 rfl)) Via.refl xV (by decide +kernel) ?_
  intro T155 S156
  refine own_seg C S156 [(12, .iconst 0, 1), (13, .aload_n 1, 1), (14, .iload_n 2, 1), (15, .iload_n 3, 1)] (by decide +kernel) 16 #[.val (.ref x), .val (.ref b), .val (.int off), .val (.int (0 : Int32))] [(.int (0 : Int32)), (.int off), (.ref b), (.int (0 : Int32)), (.ref xt)] rfl ?_
  refine own_seg C S156 [(16, .ishl, 1)] (by decide +kernel) 17 #[.val (.ref x), .val (.ref b), .val (.int off), .val (.int (0 : Int32))] [(.int (off <<< ((0 : Int32) &&& 31))), (.ref b), (.int (0 : Int32)), (.ref xt)] rfl ?_
  rw [show (off <<< ((0 : Int32) &&& 31)) = off from own_shl0 _]
  refine own_seg C S156 [(17, .aload_n 0, 1)] (by decide +kernel) 18 #[.val (.ref x), .val (.ref b), .val (.int off), .val (.int (0 : Int32))] [(.ref x), (.int off), (.ref b), (.int (0 : Int32)), (.ref xt)] rfl ?_
  refine own_getF C S156 (host := "") (Or.inl (own_wd hw 32 rfl)) Via.refl xV (by decide +kernel) ?_
  intro T157 S158
  refine own_alen C S158 xK (by decide +kernel) ?_
  refine own_copy C S158 (own_wd hw 177 rfl) (own_wd hw 180 rfl) (own_wd hw 178 rfl) (own_wd hw 179 rfl) xK bK rfl (by decide) c2 c3 (Nat.le_of_eq (Nat.zero_add _)) c5 cl ge_b us cu rfl (by decide +kernel) (by decide) 0 (Nat.le_of_ble_eq_true rfl) (by decide) ?_
  intro T159 h161 S160 K162 f163
  refine own_seg C S160 [(25, .goto 18, 3)] (by decide +kernel) 43 #[.val (.ref x), .val (.ref b), .val (.int off), .val (.int (0 : Int32))] [] rfl ?_
  refine own_retV C S160 (by decide +kernel) (by decide) (by decide) ?_
  exact ⟨rfl, ((Keep.refl _ _).trans K162 (allS (Or.inl (List.mem_of_getElem? (i := 0) rfl)) all0)), f163⟩
theorem own_pd7 : parseMethodDescriptor "(Ljava/lang/String;)V" = some ⟨[(.object "java/lang/String")], none⟩ := by decide +kernel
theorem own_pd8 : parseMethodDescriptor "([BIB)V" = some ⟨[(.array .byte), .int, .byte], none⟩ := by decide +kernel
set_option maxRecDepth 65536 in
set_option maxHeartbeats 40000000 in
theorem own_put (l : Launch) (Z : State) (a0 : Array Value) (hw : ∀ d ∈ tables_1, d.before a0 Z = true) (G1 : Int32) (G3 : Value) (x : Addr) (xt : Addr) (xk : ClassId) (xN : Int32) (xvs : List Value) (xcs : List Int32) (a : Addr) (b : Addr) (bk : ClassId) (bN : Int32) (bvs : List Value) (off : Int32) (us : List Value) (h0 : Heap) (n0 : Nat) (z0 : n0 ≤ h0.size) (ge_b : n0 ≤ b) (X00 : Old Z n0 h0) (xE : Exa Z h0 x "java/lang/String") (xV : Fld Z h0 x "java/lang/String" "value" "[B" (.ref xt)) (xC : Fld Z h0 x "java/lang/String" "coder" "B" (.int 0)) (xK : Arv Z h0 xt xk .byte xN xvs (.int 0)) (aE : Exa Z h0 a "java/lang/StringBuilder") (aV : Fld Z h0 a "java/lang/AbstractStringBuilder" "value" "[B" (.ref b)) (aC : Fld Z h0 a "java/lang/AbstractStringBuilder" "coder" "B" (.int (0 : Int32))) (bK : Arv Z h0 b bk .byte bN bvs (.int (0 : Int32))) (O2 : Sta Z Z.heap "java/lang/String" "COMPACT_STRINGS" "Z" (.int G1)) (O4 : Sta Z Z.heap "jdk/internal/util/Preconditions" "SIOOBE_FORMATTER" "Ljava/util/function/BiFunction;" G3) (P5 : ¬ G1 = (0 : Int32)) (rG3 : G3.isRef = true) (xcd : StrChars.Road.CodA xcs 0 xN xvs) (xhp : ∀ c ∈ xcs, ¬ c < 0 ∧ ¬ (255 : Int32) < c) (xl2 : xcs.length ≤ 4000) (c3 : ¬ xN < 0) (c2 : ¬ off < 0) (c5 : off.toNatClampNeg + xN.toNatClampNeg ≤ bN.toNatClampNeg) (cl : off.toNatClampNeg + xN.toNatClampNeg ≤ bvs.length) (cu : bvs.take off.toNatClampNeg ++ ((List.range xN.toNatClampNeg).map fun i => xvs.getD ((0 : Int32).toNatClampNeg + i) (.int 0)) ++ bvs.drop (off.toNatClampNeg + xN.toNatClampNeg) = us) :
    own_Met l Z (⟨"java/lang/AbstractStringBuilder", "putStringAt", "(ILjava/lang/String;)V"⟩ : MethodName) jdk_68_method_73_code 3 none ({ frames := 2, cells := 0, slots := 0, locals := 33 } : Room) n0 #[(.ref a), (.int off), (.ref x)] h0 (fun v h => v = none ∧ Keep h0 h [b] ∧ Arv Z h b bk .byte bN us (.int (0 : Int32))) := by
  refine own_met (by decide +kernel) #[.val (.ref a), .val (.int off), .val (.ref x)] (fun m => by first | (simp [entryFrame, mkF, argsToLocals, Value.category]; done) | rfl) ?_
  intro p e s m below meth c T0 C S0
  refine own_seg C S0 [(0, .aload_n 0, 1), (1, .aload_n 2, 1)] (by decide +kernel) 2 #[.val (.ref a), .val (.int off), .val (.ref x)] [(.ref x), (.ref a)] rfl ?_
  refine own_callP C S0 (own_wd hw 166 rfl) (own_wd hw 167 rfl) (own_selfP (own_wd hw 167 rfl) (own_wd hw 168 rfl) (own_wd hw 169 rfl) (by decide)) (own_wd hw 168 rfl) (own_wd hw 170 rfl) (by decide) (own_Met.pay (own_infl l Z a0 hw G1 G3 a x h0 n0 z0 X00 aC xE xC O2 O4 P5 rG3) C 0 (own_wd hw 170 rfl) (own_wd hw 130 rfl) (by decide) (by decide)) (fun _ _ _ q => q.2) aE [(.ref x)] [] rfl own_pd7 rfl rfl rfl (Nat.le_of_ble_eq_true rfl) (by decide) (by decide) (by decide +kernel) ?_
  rintro T165 h166 v167 L168 S169 ⟨⟨rfl, e164⟩, -⟩
  replace S169 : own_S p l e ({ frames := 2, cells := 0, slots := 0, locals := 33 } : Room) s m #[(.ref a), (.int off), (.ref x)] below meth c n0 T165 h166 0 0 := S169
  rw [e164] at S169; clear e164
  show own_Go p e below _ T165 (mkF m 5 #[.val (.ref a), .val (.int off), .val (.ref x)] [])
  refine own_seg C S169 [(5, .aload_n 2, 1), (6, .aload_n 0, 1)] (by decide +kernel) 7 #[.val (.ref a), .val (.int off), .val (.ref x)] [(.ref a), (.ref x)] rfl ?_
  refine own_getF C S169 (host := "") (Or.inl (own_wd hw 134 rfl)) Via.refl aV (by decide +kernel) ?_
  intro T170 S171
  refine own_seg C S171 [(10, .iload_n 1, 1), (11, .aload_n 0, 1)] (by decide +kernel) 12 #[.val (.ref a), .val (.int off), .val (.ref x)] [(.ref a), (.int off), (.ref b), (.ref x)] rfl ?_
  refine own_getF C S171 (host := "") (Or.inl (own_wd hw 136 rfl)) Via.refl aC (by decide +kernel) ?_
  intro T172 S173
  refine own_callV C S173 (own_wd hw 172 rfl) (own_wd hw 173 rfl) (own_wd hw 175 rfl) (y' := ⟨"java/lang/String", "getBytes", "([BIB)V"⟩) rfl (own_wd hw 175 rfl) (own_wd hw 174 rfl) (by decide) (own_Met.pay (own_gb l Z a0 hw G1 G3 x xt xk xN xvs xcs b bk bN bvs off us h0 n0 z0 ge_b X00 xE xV xC xK bK O2 O4 P5 rG3 xcd xhp xl2 c3 c2 c5 cl cu) C 0 (own_wd hw 176 rfl) (own_wd hw 7 rfl) (by decide) (by decide)) (fun _ _ _ q => q.2) xE [(.ref b), (.int off), (.int (0 : Int32))] [] rfl own_pd8 rfl rfl rfl (Nat.le_of_ble_eq_true rfl) (by decide) (by decide) (by decide +kernel) ?_
  rintro T176 h177 v178 L179 S180 ⟨⟨rfl, K174, f175⟩, -⟩
  replace S180 : own_S p l e ({ frames := 2, cells := 0, slots := 0, locals := 33 } : Room) s m #[(.ref a), (.int off), (.ref x)] below meth c n0 T176 h177 0 0 := S180
  show own_Go p e below _ T176 (mkF m 18 #[.val (.ref a), .val (.int off), .val (.ref x)] [])
  refine own_retV C S180 (by decide +kernel) (by decide) (by decide) ?_
  exact ⟨rfl, ((Keep.refl _ _).trans K174 (allS (Or.inl (List.mem_of_getElem? (i := 0) rfl)) all0)), f175⟩
theorem own_pd9 : parseMethodDescriptor "(ILjava/lang/String;)V" = some ⟨[.int, (.object "java/lang/String")], none⟩ := by decide +kernel
theorem own_sn4 {Z : State} {a0 : Array Value} (hw : ∀ d ∈ tables_1, d.before a0 Z = true) : Jvm.RoadKit.slotOf Z "java/lang/AbstractStringBuilder" "value" "[B" ≠ Jvm.RoadKit.slotOf Z "java/lang/AbstractStringBuilder" "count" "I" := slot_ne (Or.inl (own_wd hw 135 rfl)) (Or.inl (own_wd hw 155 rfl)) (by decide) own_fd0 own_fd2
theorem own_sn5 {Z : State} {a0 : Array Value} (hw : ∀ d ∈ tables_1, d.before a0 Z = true) : Jvm.RoadKit.slotOf Z "java/lang/AbstractStringBuilder" "coder" "B" ≠ Jvm.RoadKit.slotOf Z "java/lang/AbstractStringBuilder" "count" "I" := slot_ne (Or.inl (own_wd hw 137 rfl)) (Or.inl (own_wd hw 155 rfl)) (by decide) own_fd1 own_fd2
set_option maxRecDepth 65536 in
set_option maxHeartbeats 40000000 in
theorem own_asbA (l : Launch) (Z : State) (a0 : Array Value) (hw : ∀ d ∈ tables_1, d.before a0 Z = true) (G1 : Int32) (G3 : Value) (x : Addr) (xt : Addr) (xk : ClassId) (xN : Int32) (xvs : List Value) (xcs : List Int32) (a : Addr) (b : Addr) (bk : ClassId) (bN : Int32) (bvs : List Value) (cnt : Int32) (us : List Value) (h0 : Heap) (n0 : Nat) (z0 : n0 ≤ h0.size) (ge_a : n0 ≤ a) (ge_b : n0 ≤ b) (X00 : Old Z n0 h0) (xE : Exa Z h0 x "java/lang/String") (xV : Fld Z h0 x "java/lang/String" "value" "[B" (.ref xt)) (xC : Fld Z h0 x "java/lang/String" "coder" "B" (.int 0)) (xK : Arv Z h0 xt xk .byte xN xvs (.int 0)) (aE : Exa Z h0 a "java/lang/StringBuilder") (aV : Fld Z h0 a "java/lang/AbstractStringBuilder" "value" "[B" (.ref b)) (aC : Fld Z h0 a "java/lang/AbstractStringBuilder" "coder" "B" (.int (0 : Int32))) (aN : Fld Z h0 a "java/lang/AbstractStringBuilder" "count" "I" (.int cnt)) (bK : Arv Z h0 b bk .byte bN bvs (.int (0 : Int32))) (ne_xt_b : xt ≠ b) (ne_xt_a : xt ≠ a) (ne_x_a : x ≠ a) (ne_x_b : x ≠ b) (ne_b_a : b ≠ a) (O2 : Sta Z Z.heap "java/lang/String" "COMPACT_STRINGS" "Z" (.int G1)) (O4 : Sta Z Z.heap "jdk/internal/util/Preconditions" "SIOOBE_FORMATTER" "Ljava/util/function/BiFunction;" G3) (P5 : ¬ G1 = (0 : Int32)) (rG3 : G3.isRef = true) (xcd : StrChars.Road.CodA xcs 0 xN xvs) (xhp : ∀ c ∈ xcs, ¬ c < 0 ∧ ¬ (255 : Int32) < c) (xl2 : xcs.length ≤ 4000) (hle : ¬ (0 : Int32) < ((cnt + xN) - bN)) (c3 : ¬ xN < 0) (c2 : ¬ cnt < 0) (c5 : cnt.toNatClampNeg + xN.toNatClampNeg ≤ bN.toNatClampNeg) (cl : cnt.toNatClampNeg + xN.toNatClampNeg ≤ bvs.length) (cu : bvs.take cnt.toNatClampNeg ++ ((List.range xN.toNatClampNeg).map fun i => xvs.getD ((0 : Int32).toNatClampNeg + i) (.int 0)) ++ bvs.drop (cnt.toNatClampNeg + xN.toNatClampNeg) = us) :
    own_Met l Z (⟨"java/lang/AbstractStringBuilder", "append", "(Ljava/lang/String;)Ljava/lang/AbstractStringBuilder;"⟩ : MethodName) jdk_68_method_22_code 3 (some (.object "java/lang/AbstractStringBuilder")) ({ frames := 3, cells := 0, slots := 0, locals := 47 } : Room) n0 #[(.ref a), (.ref x)] h0 (fun v h => v = some (.ref a) ∧ Keep h0 h [a, b] ∧ Exa Z h a "java/lang/StringBuilder" ∧ Fld Z h a "java/lang/AbstractStringBuilder" "value" "[B" (.ref b) ∧ Fld Z h a "java/lang/AbstractStringBuilder" "coder" "B" (.int (0 : Int32)) ∧ Fld Z h a "java/lang/AbstractStringBuilder" "count" "I" (.int (cnt + xN)) ∧ Arv Z h b bk .byte bN us (.int (0 : Int32))) := by
  refine own_met (by decide +kernel) #[.val (.ref a), .val (.ref x), .unset] (fun m => by first | (simp [entryFrame, mkF, argsToLocals, Value.category]; done) | rfl) ?_
  intro p e s m below meth c T0 C S0
  refine own_seg C S0 [(0, .aload_n 1, 1), (1, .ifnonnull 8, 3), (9, .aload_n 1, 1)] (by decide +kernel) 10 #[.val (.ref a), .val (.ref x), .unset] [(.ref x)] rfl ?_
  refine own_callV C S0 (own_wd hw 153 rfl) (own_wd hw 75 rfl) (own_wd hw 77 rfl) (y' := ⟨"java/lang/String", "length", "()I"⟩) rfl (own_wd hw 77 rfl) (own_wd hw 76 rfl) (by decide) (Q := (fun v h' L => v = some (.int (Int32.ofNat (xcs).length)) ∧ L = [] ∧ h' = h0)) (StrChars.Road.lenW (W := 0) C.2.2.2.2.2.2.2 (fun d hd => hw d (own_hln d hd)) (kI := 4) (own_wd hw 6 rfl) xE xV xC xK xcd (own_up _ xhp) (O2.ext X00.2) P5 xl2 (by decide) (by decide)) (fun _ _ L q => by rw [q.2.1]; exact Fr.nil _) xE [] [] rfl own_pd4 rfl rfl rfl (Nat.le_of_ble_eq_true rfl) (by decide) (by decide) (by decide +kernel) ?_
  rintro T182 h183 v184 L185 S186 ⟨rfl, -, e181⟩
  replace S186 : own_S p l e ({ frames := 3, cells := 0, slots := 0, locals := 47 } : Room) s m #[(.ref a), (.ref x)] below meth c n0 T182 h183 0 0 := S186
  rw [e181] at S186; clear e181
  rw [(own_cod xcd).1]
  show own_Go p e below _ T182 (mkF m 13 #[.val (.ref a), .val (.ref x), .unset] [(.int xN)])
  refine own_seg C S186 [(13, .istore_n 2, 1), (14, .aload_n 0, 1), (15, .aload_n 0, 1)] (by decide +kernel) 16 #[.val (.ref a), .val (.ref x), .val (.int xN)] [(.ref a), (.ref a)] rfl ?_
  refine own_getF C S186 (host := "") (Or.inl (own_wd hw 154 rfl)) Via.refl aN (by decide +kernel) ?_
  intro T187 S188
  refine own_seg C S188 [(19, .iload_n 2, 1), (20, .iadd, 1)] (by decide +kernel) 21 #[.val (.ref a), .val (.ref x), .val (.int xN)] [(.int (cnt + xN)), (.ref a)] rfl ?_
  refine own_callP C S188 (own_wd hw 156 rfl) (own_wd hw 157 rfl) (own_selfP (own_wd hw 157 rfl) (own_wd hw 158 rfl) (own_wd hw 159 rfl) (by decide)) (own_wd hw 158 rfl) (own_wd hw 160 rfl) (by decide) (own_Met.pay (own_ens l Z a0 hw a (cnt + xN) b bk bN bvs h0 n0 z0 aE aV aC bK hle) C 0 (own_wd hw 160 rfl) (own_wd hw 130 rfl) (by decide) (by decide)) (fun _ _ _ q => q.2) aE [(.int (cnt + xN))] [] rfl own_pd5 rfl rfl rfl (Nat.le_of_ble_eq_true rfl) (by decide) (by decide) (by decide +kernel) ?_
  rintro T190 h191 v192 L193 S194 ⟨⟨rfl, e189⟩, -⟩
  replace S194 : own_S p l e ({ frames := 3, cells := 0, slots := 0, locals := 47 } : Room) s m #[(.ref a), (.ref x)] below meth c n0 T190 h191 0 0 := S194
  rw [e189] at S194; clear e189
  show own_Go p e below _ T190 (mkF m 24 #[.val (.ref a), .val (.ref x), .val (.int xN)] [])
  refine own_seg C S194 [(24, .aload_n 0, 1), (25, .aload_n 0, 1)] (by decide +kernel) 26 #[.val (.ref a), .val (.ref x), .val (.int xN)] [(.ref a), (.ref a)] rfl ?_
  refine own_getF C S194 (host := "") (Or.inl (own_wd hw 154 rfl)) Via.refl aN (by decide +kernel) ?_
  intro T195 S196
  refine own_seg C S196 [(29, .aload_n 1, 1)] (by decide +kernel) 30 #[.val (.ref a), .val (.ref x), .val (.int xN)] [(.ref x), (.int cnt), (.ref a)] rfl ?_
  refine own_callP C S196 (own_wd hw 161 rfl) (own_wd hw 162 rfl) (own_selfP (own_wd hw 162 rfl) (own_wd hw 163 rfl) (own_wd hw 164 rfl) (by decide)) (own_wd hw 163 rfl) (own_wd hw 165 rfl) (by decide) (own_Met.pay (own_put l Z a0 hw G1 G3 x xt xk xN xvs xcs a b bk bN bvs cnt us h0 n0 z0 ge_b X00 xE xV xC xK aE aV aC bK O2 O4 P5 rG3 xcd xhp xl2 c3 c2 c5 cl cu) C 0 (own_wd hw 165 rfl) (own_wd hw 130 rfl) (by decide) (by decide)) (fun _ _ _ q => q.2) aE [(.int cnt), (.ref x)] [] rfl own_pd9 rfl rfl rfl (Nat.le_of_ble_eq_true rfl) (by decide) (by decide) (by decide +kernel) ?_
  rintro T199 h200 v201 L202 S203 ⟨⟨rfl, K197, f198⟩, -⟩
  replace S203 : own_S p l e ({ frames := 3, cells := 0, slots := 0, locals := 47 } : Room) s m #[(.ref a), (.ref x)] below meth c n0 T199 h200 0 0 := S203
  show own_Go p e below _ T199 (mkF m 33 #[.val (.ref a), .val (.ref x), .val (.int xN)] [])
  refine own_seg C S203 [(33, .aload_n 0, 1), (34, .dup, 1)] (by decide +kernel) 35 #[.val (.ref a), .val (.ref x), .val (.int xN)] [(.ref a), (.ref a)] rfl ?_
  have f204 : Fld Z h200 a "java/lang/AbstractStringBuilder" "count" "I" (.int cnt) := (aN.keep K197 (ninS (Ne.symm ne_b_a) nin0))
  refine own_getF C S203 (host := "") (Or.inl (own_wd hw 154 rfl)) Via.refl f204 (by decide +kernel) ?_
  intro T205 S206
  refine own_seg C S206 [(38, .iload_n 2, 1), (39, .iadd, 1)] (by decide +kernel) 40 #[.val (.ref a), .val (.ref x), .val (.int xN)] [(.int (cnt + xN)), (.ref a)] rfl ?_
  have f207 : Exa Z h200 a "java/lang/StringBuilder" := (aE.keep K197)
  refine own_putF C S206 (ty := .int) (host := "") (Or.inl (own_wd hw 154 rfl)) Via.refl f204 f207 (Or.inl (own_wd hw 155 rfl)) (own_wd hw 121 rfl) own_fd2 rfl rfl ge_a (by decide +kernel) ?_
  intro T208 h210 S209 W211
  have f212 : Fld Z h210 a "java/lang/AbstractStringBuilder" "count" "I" (.int (cnt + xN)) := Fld.same W211 f204
  refine own_seg C S209 [(43, .aload_n 0, 1)] (by decide +kernel) 44 #[.val (.ref a), .val (.ref x), .val (.int xN)] [(.ref a)] rfl ?_
  refine own_retA C S209 rfl rfl (by decide +kernel) (by decide) (by decide) ?_
  have f213 : Exa Z h210 a "java/lang/StringBuilder" := (Exa.wr W211 f207)
  have f214 : Fld Z h210 a "java/lang/AbstractStringBuilder" "value" "[B" (.ref b) := (Fld.other W211 (aV.keep K197 (ninS (Ne.symm ne_b_a) nin0)) (Or.inr (own_sn4 hw)))
  have f215 : Fld Z h210 a "java/lang/AbstractStringBuilder" "coder" "B" (.int (0 : Int32)) := (Fld.other W211 (aC.keep K197 (ninS (Ne.symm ne_b_a) nin0)) (Or.inr (own_sn5 hw)))
  have f216 : Arv Z h210 b bk .byte bN us (.int (0 : Int32)) := (f198.other W211 ne_b_a)
  exact ⟨rfl, (((Keep.refl _ _).trans K197 (allS (Or.inl (List.mem_of_getElem? (i := 1) rfl)) all0)).wr W211 (Or.inl (List.mem_of_getElem? (i := 0) rfl))), f213, f214, f215, f212, f216⟩
theorem own_pd10 : parseMethodDescriptor "(Ljava/lang/String;)Ljava/lang/AbstractStringBuilder;" = some ⟨[(.object "java/lang/String")], (some (.object "java/lang/AbstractStringBuilder"))⟩ := by decide +kernel
set_option maxRecDepth 65536 in
set_option maxHeartbeats 40000000 in
theorem own_sbA (l : Launch) (Z : State) (a0 : Array Value) (hw : ∀ d ∈ tables_1, d.before a0 Z = true) (G1 : Int32) (G3 : Value) (x : Addr) (xt : Addr) (xk : ClassId) (xN : Int32) (xvs : List Value) (xcs : List Int32) (a : Addr) (b : Addr) (bk : ClassId) (bN : Int32) (bvs : List Value) (cnt : Int32) (us : List Value) (h0 : Heap) (n0 : Nat) (z0 : n0 ≤ h0.size) (ge_a : n0 ≤ a) (ge_b : n0 ≤ b) (X00 : Old Z n0 h0) (xE : Exa Z h0 x "java/lang/String") (xV : Fld Z h0 x "java/lang/String" "value" "[B" (.ref xt)) (xC : Fld Z h0 x "java/lang/String" "coder" "B" (.int 0)) (xK : Arv Z h0 xt xk .byte xN xvs (.int 0)) (aE : Exa Z h0 a "java/lang/StringBuilder") (aV : Fld Z h0 a "java/lang/AbstractStringBuilder" "value" "[B" (.ref b)) (aC : Fld Z h0 a "java/lang/AbstractStringBuilder" "coder" "B" (.int (0 : Int32))) (aN : Fld Z h0 a "java/lang/AbstractStringBuilder" "count" "I" (.int cnt)) (bK : Arv Z h0 b bk .byte bN bvs (.int (0 : Int32))) (ne_xt_b : xt ≠ b) (ne_xt_a : xt ≠ a) (ne_x_a : x ≠ a) (ne_x_b : x ≠ b) (ne_b_a : b ≠ a) (O2 : Sta Z Z.heap "java/lang/String" "COMPACT_STRINGS" "Z" (.int G1)) (O4 : Sta Z Z.heap "jdk/internal/util/Preconditions" "SIOOBE_FORMATTER" "Ljava/util/function/BiFunction;" G3) (P5 : ¬ G1 = (0 : Int32)) (rG3 : G3.isRef = true) (xcd : StrChars.Road.CodA xcs 0 xN xvs) (xhp : ∀ c ∈ xcs, ¬ c < 0 ∧ ¬ (255 : Int32) < c) (xl2 : xcs.length ≤ 4000) (hle : ¬ (0 : Int32) < ((cnt + xN) - bN)) (c3 : ¬ xN < 0) (c2 : ¬ cnt < 0) (c5 : cnt.toNatClampNeg + xN.toNatClampNeg ≤ bN.toNatClampNeg) (cl : cnt.toNatClampNeg + xN.toNatClampNeg ≤ bvs.length) (cu : bvs.take cnt.toNatClampNeg ++ ((List.range xN.toNatClampNeg).map fun i => xvs.getD ((0 : Int32).toNatClampNeg + i) (.int 0)) ++ bvs.drop (cnt.toNatClampNeg + xN.toNatClampNeg) = us) :
    own_Met l Z (⟨"java/lang/StringBuilder", "append", "(Ljava/lang/String;)Ljava/lang/StringBuilder;"⟩ : MethodName) jdk_67_method_7_code 2 (some (.object "java/lang/StringBuilder")) ({ frames := 4, cells := 0, slots := 0, locals := 61 } : Room) n0 #[(.ref a), (.ref x)] h0 (fun v h => v = some (.ref a) ∧ Keep h0 h [a, b] ∧ Exa Z h a "java/lang/StringBuilder" ∧ Fld Z h a "java/lang/AbstractStringBuilder" "value" "[B" (.ref b) ∧ Fld Z h a "java/lang/AbstractStringBuilder" "coder" "B" (.int (0 : Int32)) ∧ Fld Z h a "java/lang/AbstractStringBuilder" "count" "I" (.int (cnt + xN)) ∧ Arv Z h b bk .byte bN us (.int (0 : Int32))) := by
  refine own_met (by decide +kernel) #[.val (.ref a), .val (.ref x)] (fun m => by first | (simp [entryFrame, mkF, argsToLocals, Value.category]; done) | rfl) ?_
  intro p e s m below meth c T0 C S0
  refine own_seg C S0 [(0, .aload_n 0, 1), (1, .aload_n 1, 1)] (by decide +kernel) 2 #[.val (.ref a), .val (.ref x)] [(.ref x), (.ref a)] rfl ?_
  refine own_callX C S0 (own_wd hw 148 rfl) (own_same (y' := ⟨"java/lang/AbstractStringBuilder", "ensureCapacityInternal", "(I)V"⟩) rfl (own_wd hw 149 rfl) (own_wd hw 159 rfl) (by decide)) (own_wd hw 149 rfl) (own_wd hw 150 rfl) (by decide) (own_wd hw 152 rfl) (own_Met.pay (own_asbA l Z a0 hw G1 G3 x xt xk xN xvs xcs a b bk bN bvs cnt us h0 n0 z0 ge_a ge_b X00 xE xV xC xK aE aV aC aN bK ne_xt_b ne_xt_a ne_x_a ne_x_b ne_b_a O2 O4 P5 rG3 xcd xhp xl2 hle c3 c2 c5 cl cu) C 0 (own_wd hw 152 rfl) (own_wd hw 130 rfl) (by decide) (by decide)) (fun _ _ _ q => q.2) (Ins.self aE) [(.ref x)] [] rfl own_pd10 rfl rfl rfl (Nat.le_of_ble_eq_true rfl) (by decide) (by decide) (by decide +kernel) ?_
  rintro T223 h224 v225 L226 S227 ⟨⟨rfl, K217, f218, f219, f220, f221, f222⟩, -⟩
  replace S227 : own_S p l e ({ frames := 4, cells := 0, slots := 0, locals := 61 } : Room) s m #[(.ref a), (.ref x)] below meth c n0 T223 h224 0 0 := S227
  show own_Go p e below _ T223 (mkF m 5 #[.val (.ref a), .val (.ref x)] [(.ref a)])
  refine own_seg C S227 [(5, .pop, 1), (6, .aload_n 0, 1)] (by decide +kernel) 7 #[.val (.ref a), .val (.ref x)] [(.ref a)] rfl ?_
  refine own_retA C S227 rfl rfl (by decide +kernel) (by decide) (by decide) ?_
  exact ⟨rfl, ((Keep.refl _ _).trans K217 (allS (Or.inl (List.mem_of_getElem? (i := 0) rfl)) (allS (Or.inl (List.mem_of_getElem? (i := 1) rfl)) all0))), f218, f219, f220, f221, f222⟩
set_option maxRecDepth 65536 in
set_option maxHeartbeats 40000000 in
theorem own_cec (l : Launch) (Z : State) (a0 : Array Value) (hw : ∀ d ∈ tables_1, d.before a0 Z = true) (k : Int32) (h0 : Heap) (n0 : Nat) (z0 : n0 ≤ h0.size) (k0 : ¬ (255 : Int32) < k) :
    own_Met l Z (⟨"java/lang/StringLatin1", "canEncode", "(C)Z"⟩ : MethodName) jdk_43_method_3_code 1 (some .boolean) ({ frames := 0, cells := 0, slots := 0, locals := 0 } : Room) n0 #[(.int k)] h0 (fun v h => v = some (.int (1 : Int32)) ∧ h = h0) := by
  refine own_met (by decide +kernel) #[.val (.int k)] (fun m => by first | (simp [entryFrame, mkF, argsToLocals, Value.category]; done) | rfl) ?_
  intro p e s m below meth c T0 C S0
  refine own_seg C S0 [(0, .iload_n 0, 1), (1, .sipush 255, 3)] (by decide +kernel) 4 #[.val (.int k)] [(.int (255 : Int32)), (.int k)] rfl ?_
  refine own_icmp C S0 (q := .gt) (o := 7) (by decide +kernel) 11 (by decide) (by decide) (fun (hq : (255 : Int32) < k) => False.elim (k0 hq)) (fun (q228 : ¬ (255 : Int32) < k) => ?_)
  refine own_seg C S0 [(7, .iconst 1, 1), (8, .goto 4, 3)] (by decide +kernel) 12 #[.val (.int k)] [(.int (1 : Int32))] rfl ?_
  refine own_retZ C S0 (by decide +kernel) (by decide) (by decide) (by decide) ?_
  exact ⟨rfl, rfl⟩
set_option maxRecDepth 65536 in
set_option maxHeartbeats 40000000 in
theorem own_asbisL (l : Launch) (Z : State) (a0 : Array Value) (hw : ∀ d ∈ tables_1, d.before a0 Z = true) (G1 : Int32) (G3 : Value) (x : Addr) (h0 : Heap) (n0 : Nat) (z0 : n0 ≤ h0.size) (X00 : Old Z n0 h0) (pC : Fld Z h0 x "java/lang/AbstractStringBuilder" "coder" "B" (.int 0)) (O2 : Sta Z Z.heap "java/lang/String" "COMPACT_STRINGS" "Z" (.int G1)) (O4 : Sta Z Z.heap "jdk/internal/util/Preconditions" "SIOOBE_FORMATTER" "Ljava/util/function/BiFunction;" G3) (P5 : ¬ G1 = (0 : Int32)) (rG3 : G3.isRef = true) :
    own_Met l Z (⟨"java/lang/AbstractStringBuilder", "isLatin1", "()Z"⟩ : MethodName) jdk_68_method_68_code 1 (some .boolean) ({ frames := 0, cells := 0, slots := 0, locals := 0 } : Room) n0 #[(.ref x)] h0 (fun v h => v = some (.int (1 : Int32)) ∧ h = h0) := by
  refine own_met (by decide +kernel) #[.val (.ref x)] (fun m => by first | (simp [entryFrame, mkF, argsToLocals, Value.category]; done) | rfl) ?_
  intro p e s m below meth c T0 C S0
  refine own_getS C S0 (own_wd hw 133 rfl) Via.refl (O2.ext X00.2) (by decide +kernel) ?_
  intro T229 S230
  refine own_if C S230 (q := .eq) (o := 14) (by decide +kernel) 17 (by decide) (by decide) (fun (hq : G1 = (0 : Int32)) => False.elim (P5 hq)) (fun (q231 : ¬ G1 = (0 : Int32)) => ?_)
  refine own_seg C S230 [(6, .aload_n 0, 1)] (by decide +kernel) 7 #[.val (.ref x)] [(.ref x)] rfl ?_
  refine own_getF C S230 (host := "") (Or.inl (own_wd hw 136 rfl)) Via.refl pC (by decide +kernel) ?_
  intro T232 S233
  refine own_if C S233 (q := .ne) (o := 7) (by decide +kernel) 17 (by decide) (by decide) (fun (hq : ¬ 0 = (0 : Int32)) => False.elim (hq rfl)) (fun (q234 : 0 = (0 : Int32)) => ?_)
  refine own_seg C S233 [(13, .iconst 1, 1), (14, .goto 4, 3)] (by decide +kernel) 18 #[.val (.ref x)] [(.int (1 : Int32))] rfl ?_
  refine own_retZ C S233 (by decide +kernel) (by decide) (by decide) (by decide) ?_
  exact ⟨rfl, rfl⟩
theorem own_pd11 : parseMethodDescriptor "(C)Z" = some ⟨[.char], (some .boolean)⟩ := by decide +kernel
set_option maxRecDepth 65536 in
set_option maxHeartbeats 40000000 in
theorem own_asbC (l : Launch) (Z : State) (a0 : Array Value) (hw : ∀ d ∈ tables_1, d.before a0 Z = true) (G1 : Int32) (G3 : Value) (a : Addr) (b : Addr) (bk : ClassId) (bN : Int32) (bvs : List Value) (cnt : Int32) (k : Int32) (us : List Value) (h0 : Heap) (n0 : Nat) (z0 : n0 ≤ h0.size) (ge_a : n0 ≤ a) (ge_b : n0 ≤ b) (X00 : Old Z n0 h0) (aE : Exa Z h0 a "java/lang/StringBuilder") (aV : Fld Z h0 a "java/lang/AbstractStringBuilder" "value" "[B" (.ref b)) (aC : Fld Z h0 a "java/lang/AbstractStringBuilder" "coder" "B" (.int (0 : Int32))) (aN : Fld Z h0 a "java/lang/AbstractStringBuilder" "count" "I" (.int cnt)) (bK : Arv Z h0 b bk .byte bN bvs (.int (0 : Int32))) (ne_b_a : b ≠ a) (O2 : Sta Z Z.heap "java/lang/String" "COMPACT_STRINGS" "Z" (.int G1)) (O4 : Sta Z Z.heap "jdk/internal/util/Preconditions" "SIOOBE_FORMATTER" "Ljava/util/function/BiFunction;" G3) (P5 : ¬ G1 = (0 : Int32)) (rG3 : G3.isRef = true) (k0 : ¬ (255 : Int32) < k) (hle : ¬ (0 : Int32) < ((cnt + (1 : Int32)) - bN)) (c1 : ¬ cnt < 0 ∧ cnt < bN) (cl : cnt.toNatClampNeg < bvs.length) (cu : bvs.set cnt.toNatClampNeg (.int k.toInt8.toInt32) = us) :
    own_Met l Z (⟨"java/lang/AbstractStringBuilder", "append", "(C)Ljava/lang/AbstractStringBuilder;"⟩ : MethodName) jdk_68_method_31_code 2 (some (.object "java/lang/AbstractStringBuilder")) ({ frames := 1, cells := 0, slots := 0, locals := 14 } : Room) n0 #[(.ref a), (.int k)] h0 (fun v h => v = some (.ref a) ∧ Keep h0 h [a, b] ∧ Exa Z h a "java/lang/StringBuilder" ∧ Fld Z h a "java/lang/AbstractStringBuilder" "value" "[B" (.ref b) ∧ Fld Z h a "java/lang/AbstractStringBuilder" "coder" "B" (.int (0 : Int32)) ∧ Fld Z h a "java/lang/AbstractStringBuilder" "count" "I" (.int (cnt + (1 : Int32))) ∧ Arv Z h b bk .byte bN us (.int (0 : Int32))) := by
  refine own_met (by decide +kernel) #[.val (.ref a), .val (.int k)] (fun m => by first | (simp [entryFrame, mkF, argsToLocals, Value.category]; done) | rfl) ?_
  intro p e s m below meth c T0 C S0
  refine own_seg C S0 [(0, .aload_n 0, 1), (1, .aload_n 0, 1)] (by decide +kernel) 2 #[.val (.ref a), .val (.int k)] [(.ref a), (.ref a)] rfl ?_
  refine own_getF C S0 (host := "") (Or.inl (own_wd hw 154 rfl)) Via.refl aN (by decide +kernel) ?_
  intro T235 S236
  refine own_seg C S236 [(5, .iconst 1, 1), (6, .iadd, 1)] (by decide +kernel) 7 #[.val (.ref a), .val (.int k)] [(.int (cnt + (1 : Int32))), (.ref a)] rfl ?_
  refine own_callP C S236 (own_wd hw 156 rfl) (own_wd hw 157 rfl) (own_selfP (own_wd hw 157 rfl) (own_wd hw 158 rfl) (own_wd hw 159 rfl) (by decide)) (own_wd hw 158 rfl) (own_wd hw 160 rfl) (by decide) (own_Met.pay (own_ens l Z a0 hw a (cnt + (1 : Int32)) b bk bN bvs h0 n0 z0 aE aV aC bK hle) C 0 (own_wd hw 160 rfl) (own_wd hw 130 rfl) (by decide) (by decide)) (fun _ _ _ q => q.2) aE [(.int (cnt + (1 : Int32)))] [] rfl own_pd5 rfl rfl rfl (Nat.le_of_ble_eq_true rfl) (by decide) (by decide) (by decide +kernel) ?_
  rintro T238 h239 v240 L241 S242 ⟨⟨rfl, e237⟩, -⟩
  replace S242 : own_S p l e ({ frames := 1, cells := 0, slots := 0, locals := 14 } : Room) s m #[(.ref a), (.int k)] below meth c n0 T238 h239 0 0 := S242
  rw [e237] at S242; clear e237
  show own_Go p e below _ T238 (mkF m 10 #[.val (.ref a), .val (.int k)] [])
  refine own_seg C S242 [(10, .aload_n 0, 1)] (by decide +kernel) 11 #[.val (.ref a), .val (.int k)] [(.ref a)] rfl ?_
  refine own_callV C S242 (own_wd hw 190 rfl) (own_wd hw 191 rfl) (own_wd hw 193 rfl) (y' := ⟨"java/lang/AbstractStringBuilder", "isLatin1", "()Z"⟩) rfl (own_wd hw 193 rfl) (own_wd hw 192 rfl) (by decide) (own_Met.pay (own_asbisL l Z a0 hw G1 G3 a h0 n0 z0 X00 aC O2 O4 P5 rG3) C 0 (own_wd hw 194 rfl) (own_wd hw 130 rfl) (by decide) (by decide)) (fun _ _ _ q => q.2) aE [] [] rfl own_pd3 rfl rfl rfl (Nat.le_of_ble_eq_true rfl) (by decide) (by decide) (by decide +kernel) ?_
  rintro T244 h245 v246 L247 S248 ⟨⟨rfl, e243⟩, -⟩
  replace S248 : own_S p l e ({ frames := 1, cells := 0, slots := 0, locals := 14 } : Room) s m #[(.ref a), (.int k)] below meth c n0 T244 h245 0 0 := S248
  rw [e243] at S248; clear e243
  show own_Go p e below _ T244 (mkF m 14 #[.val (.ref a), .val (.int k)] [(.int (1 : Int32))])
  refine own_if C S248 (q := .eq) (o := 31) (by decide +kernel) 45 (by decide) (by decide) (fun (hq : (1 : Int32) = (0 : Int32)) => False.elim (absurd hq (by decide))) (fun (q249 : ¬ (1 : Int32) = (0 : Int32)) => ?_)
  refine own_seg C S248 [(17, .iload_n 1, 1)] (by decide +kernel) 18 #[.val (.ref a), .val (.int k)] [(.int k)] rfl ?_
  refine own_callS C S248 (own_wd hw 195 rfl) (own_wd hw 196 rfl) (own_wd hw 86 rfl) (own_wd hw 197 rfl) (by decide) (own_Met.pay (own_cec l Z a0 hw k h0 n0 z0 k0) C 0 (own_wd hw 197 rfl) (own_wd hw 86 rfl) (by decide) (by decide)) (fun _ _ _ q => q.2) [(.int k)] [] rfl own_pd11 rfl rfl rfl (Nat.le_of_ble_eq_true rfl) (by decide) (by decide) (by decide +kernel) ?_
  rintro T251 h252 v253 L254 S255 ⟨⟨rfl, e250⟩, -⟩
  replace S255 : own_S p l e ({ frames := 1, cells := 0, slots := 0, locals := 14 } : Room) s m #[(.ref a), (.int k)] below meth c n0 T251 h252 0 0 := S255
  rw [e250] at S255; clear e250
  show own_Go p e below _ T251 (mkF m 21 #[.val (.ref a), .val (.int k)] [(.int (1 : Int32))])
  refine own_if C S255 (q := .eq) (o := 24) (by decide +kernel) 45 (by decide) (by decide) (fun (hq : (1 : Int32) = (0 : Int32)) => False.elim (absurd hq (by decide))) (fun (q256 : ¬ (1 : Int32) = (0 : Int32)) => ?_)
  refine own_seg C S255 [(24, .aload_n 0, 1)] (by decide +kernel) 25 #[.val (.ref a), .val (.int k)] [(.ref a)] rfl ?_
  refine own_getF C S255 (host := "") (Or.inl (own_wd hw 134 rfl)) Via.refl aV (by decide +kernel) ?_
  intro T257 S258
  refine own_seg C S258 [(28, .aload_n 0, 1), (29, .dup, 1)] (by decide +kernel) 30 #[.val (.ref a), .val (.int k)] [(.ref a), (.ref a), (.ref b)] rfl ?_
  refine own_getF C S258 (host := "") (Or.inl (own_wd hw 154 rfl)) Via.refl aN (by decide +kernel) ?_
  intro T259 S260
  refine own_seg C S260 [(33, .dup_x1, 1), (34, .iconst 1, 1), (35, .iadd, 1)] (by decide +kernel) 36 #[.val (.ref a), .val (.int k)] [(.int (cnt + (1 : Int32))), (.ref a), (.int cnt), (.ref b)] rfl ?_
  refine own_putF C S260 (ty := .int) (host := "") (Or.inl (own_wd hw 154 rfl)) Via.refl aN aE (Or.inl (own_wd hw 155 rfl)) (own_wd hw 121 rfl) own_fd2 rfl rfl ge_a (by decide +kernel) ?_
  intro T261 h263 S262 W264
  have f265 : Fld Z h263 a "java/lang/AbstractStringBuilder" "count" "I" (.int (cnt + (1 : Int32))) := Fld.same W264 aN
  refine own_seg C S262 [(39, .iload_n 1, 1), (40, .i2b, 1)] (by decide +kernel) 41 #[.val (.ref a), .val (.int k)] [(.int k.toInt8.toInt32), (.int cnt), (.ref b)] rfl ?_
  have f266 : Arv Z h263 b bk .byte bN bvs (.int (0 : Int32)) := (bK.other W264 ne_b_a)
  refine own_bastore C S262 f266 c1 cnt.toNatClampNeg rfl cl k.toInt8.toInt32 (own_i2b2 _) ge_b (by decide +kernel) ?_
  intro T267 h269 S268 W270 f271
  have f272 : Arv Z h269 b bk .byte bN us (.int (0 : Int32)) := by rw [← cu]; exact f271
  refine own_seg C S268 [(42, .goto 33, 3), (75, .aload_n 0, 1)] (by decide +kernel) 76 #[.val (.ref a), .val (.int k)] [(.ref a)] rfl ?_
  refine own_retA C S268 rfl rfl (by decide +kernel) (by decide) (by decide) ?_
  have f273 : Exa Z h269 a "java/lang/StringBuilder" := (Exa.wr W270 (Exa.wr W264 aE))
  have f274 : Fld Z h269 a "java/lang/AbstractStringBuilder" "value" "[B" (.ref b) := (Fld.other W270 (Fld.other W264 aV (Or.inr (own_sn4 hw))) (Or.inl (Ne.symm ne_b_a)))
  have f275 : Fld Z h269 a "java/lang/AbstractStringBuilder" "coder" "B" (.int (0 : Int32)) := (Fld.other W270 (Fld.other W264 aC (Or.inr (own_sn5 hw))) (Or.inl (Ne.symm ne_b_a)))
  have f276 : Fld Z h269 a "java/lang/AbstractStringBuilder" "count" "I" (.int (cnt + (1 : Int32))) := (Fld.other W270 f265 (Or.inl (Ne.symm ne_b_a)))
  exact ⟨rfl, (((Keep.refl _ _).wr W264 (Or.inl (List.mem_of_getElem? (i := 0) rfl))).wr W270 (Or.inl (List.mem_of_getElem? (i := 1) rfl))), f273, f274, f275, f276, f272⟩
theorem own_pd12 : parseMethodDescriptor "(C)Ljava/lang/AbstractStringBuilder;" = some ⟨[.char], (some (.object "java/lang/AbstractStringBuilder"))⟩ := by decide +kernel
set_option maxRecDepth 65536 in
set_option maxHeartbeats 40000000 in
theorem own_sbC (l : Launch) (Z : State) (a0 : Array Value) (hw : ∀ d ∈ tables_1, d.before a0 Z = true) (G1 : Int32) (G3 : Value) (a : Addr) (b : Addr) (bk : ClassId) (bN : Int32) (bvs : List Value) (cnt : Int32) (k : Int32) (us : List Value) (h0 : Heap) (n0 : Nat) (z0 : n0 ≤ h0.size) (ge_a : n0 ≤ a) (ge_b : n0 ≤ b) (X00 : Old Z n0 h0) (aE : Exa Z h0 a "java/lang/StringBuilder") (aV : Fld Z h0 a "java/lang/AbstractStringBuilder" "value" "[B" (.ref b)) (aC : Fld Z h0 a "java/lang/AbstractStringBuilder" "coder" "B" (.int (0 : Int32))) (aN : Fld Z h0 a "java/lang/AbstractStringBuilder" "count" "I" (.int cnt)) (bK : Arv Z h0 b bk .byte bN bvs (.int (0 : Int32))) (ne_b_a : b ≠ a) (O2 : Sta Z Z.heap "java/lang/String" "COMPACT_STRINGS" "Z" (.int G1)) (O4 : Sta Z Z.heap "jdk/internal/util/Preconditions" "SIOOBE_FORMATTER" "Ljava/util/function/BiFunction;" G3) (P5 : ¬ G1 = (0 : Int32)) (rG3 : G3.isRef = true) (k0 : ¬ (255 : Int32) < k) (hle : ¬ (0 : Int32) < ((cnt + (1 : Int32)) - bN)) (c1 : ¬ cnt < 0 ∧ cnt < bN) (cl : cnt.toNatClampNeg < bvs.length) (cu : bvs.set cnt.toNatClampNeg (.int k.toInt8.toInt32) = us) :
    own_Met l Z (⟨"java/lang/StringBuilder", "append", "(C)Ljava/lang/StringBuilder;"⟩ : MethodName) jdk_67_method_14_code 2 (some (.object "java/lang/StringBuilder")) ({ frames := 2, cells := 0, slots := 0, locals := 27 } : Room) n0 #[(.ref a), (.int k)] h0 (fun v h => v = some (.ref a) ∧ Keep h0 h [a, b] ∧ Exa Z h a "java/lang/StringBuilder" ∧ Fld Z h a "java/lang/AbstractStringBuilder" "value" "[B" (.ref b) ∧ Fld Z h a "java/lang/AbstractStringBuilder" "coder" "B" (.int (0 : Int32)) ∧ Fld Z h a "java/lang/AbstractStringBuilder" "count" "I" (.int (cnt + (1 : Int32))) ∧ Arv Z h b bk .byte bN us (.int (0 : Int32))) := by
  refine own_met (by decide +kernel) #[.val (.ref a), .val (.int k)] (fun m => by first | (simp [entryFrame, mkF, argsToLocals, Value.category]; done) | rfl) ?_
  intro p e s m below meth c T0 C S0
  refine own_seg C S0 [(0, .aload_n 0, 1), (1, .iload_n 1, 1)] (by decide +kernel) 2 #[.val (.ref a), .val (.int k)] [(.int k), (.ref a)] rfl ?_
  refine own_callX C S0 (own_wd hw 186 rfl) (own_same (y' := ⟨"java/lang/AbstractStringBuilder", "ensureCapacityInternal", "(I)V"⟩) rfl (own_wd hw 187 rfl) (own_wd hw 159 rfl) (by decide)) (own_wd hw 187 rfl) (own_wd hw 150 rfl) (by decide) (own_wd hw 189 rfl) (own_Met.pay (own_asbC l Z a0 hw G1 G3 a b bk bN bvs cnt k us h0 n0 z0 ge_a ge_b X00 aE aV aC aN bK ne_b_a O2 O4 P5 rG3 k0 hle c1 cl cu) C 0 (own_wd hw 189 rfl) (own_wd hw 130 rfl) (by decide) (by decide)) (fun _ _ _ q => q.2) (Ins.self aE) [(.int k)] [] rfl own_pd12 rfl rfl rfl (Nat.le_of_ble_eq_true rfl) (by decide) (by decide) (by decide +kernel) ?_
  rintro T283 h284 v285 L286 S287 ⟨⟨rfl, K277, f278, f279, f280, f281, f282⟩, -⟩
  replace S287 : own_S p l e ({ frames := 2, cells := 0, slots := 0, locals := 27 } : Room) s m #[(.ref a), (.int k)] below meth c n0 T283 h284 0 0 := S287
  show own_Go p e below _ T283 (mkF m 5 #[.val (.ref a), .val (.int k)] [(.ref a)])
  refine own_seg C S287 [(5, .pop, 1), (6, .aload_n 0, 1)] (by decide +kernel) 7 #[.val (.ref a), .val (.int k)] [(.ref a)] rfl ?_
  refine own_retA C S287 rfl rfl (by decide +kernel) (by decide) (by decide) ?_
  exact ⟨rfl, ((Keep.refl _ _).trans K277 (allS (Or.inl (List.mem_of_getElem? (i := 0) rfl)) (allS (Or.inl (List.mem_of_getElem? (i := 1) rfl)) all0))), f278, f279, f280, f281, f282⟩
set_option maxRecDepth 65536 in
set_option maxHeartbeats 40000000 in
theorem own_ckl (l : Launch) (Z : State) (a0 : Array Value) (hw : ∀ d ∈ tables_1, d.before a0 Z = true) (x1 : Int32) (x2 : Int32) (h0 : Heap) (n0 : Nat) (z0 : n0 ≤ h0.size) (hge : ¬ x2 < x1) :
    own_Met l Z (⟨"java/util/Arrays", "checkLength", "(II)V"⟩ : MethodName) jdk_65_method_131_code 2 none ({ frames := 0, cells := 0, slots := 0, locals := 0 } : Room) n0 #[(.int x1), (.int x2)] h0 (fun v h => v = none ∧ h = h0) := by
  refine own_met (by decide +kernel) #[.val (.int x1), .val (.int x2)] (fun m => by first | (simp [entryFrame, mkF, argsToLocals, Value.category]; done) | rfl) ?_
  intro p e s m below meth c T0 C S0
  refine own_seg C S0 [(0, .iload_n 1, 1), (1, .iload_n 0, 1)] (by decide +kernel) 2 #[.val (.int x1), .val (.int x2)] [(.int x1), (.int x2)] rfl ?_
  refine own_icmp C S0 (q := .ge) (o := 35) (by decide +kernel) 37 (by decide) (by decide) (fun (q288 : ¬ x2 < x1) => ?_) (fun (hq : x2 < x1) => False.elim (hge hq))
  refine own_retV C S0 (by decide +kernel) (by decide) (by decide) ?_
  exact ⟨rfl, rfl⟩
theorem own_pd13 : parseMethodDescriptor "(II)V" = some ⟨[.int, .int], none⟩ := by decide +kernel
set_option maxRecDepth 65536 in
set_option maxHeartbeats 40000000 in
theorem own_corb (l : Launch) (Z : State) (a0 : Array Value) (hw : ∀ d ∈ tables_1, d.before a0 Z = true) (b : Addr) (bk : ClassId) (bN : Int32) (bvs : List Value) (n : Int32) (us : List Value) (h0 : Heap) (n0 : Nat) (z0 : n0 ≤ h0.size) (bK : Arv Z h0 b bk .byte bN bvs (.int (0 : Int32))) (t0 : ¬ n < (0 : Int32)) (t1 : ¬ bN < n) (t2 : ¬ n = bN) (t3 : n.toNatClampNeg ≤ 64) (t4 : ((List.range n.toNatClampNeg).map fun i => bvs.getD ((0 : Int32).toNatClampNeg + i) (.int (0 : Int32))) = us) :
    own_Met l Z (⟨"java/util/Arrays", "copyOfRangeByte", "([BII)[B"⟩ : MethodName) jdk_65_method_133_code 5 (some (.array .byte)) ({ frames := 1, cells := 1, slots := 64, locals := 18 } : Room) n0 #[(.ref b), (.int (0 : Int32)), (.int n)] h0 (fun v h => ∃ r : Addr, ∃ rk : ClassId, v = some (.ref r) ∧ h0.size ≤ r ∧ Keep h0 h [] ∧ Arv Z h r rk .byte n us (.int (0 : Int32))) := by
  refine own_met (by decide +kernel) #[.val (.ref b), .val (.int (0 : Int32)), .val (.int n), .unset, .unset] (fun m => by first | (simp [entryFrame, mkF, argsToLocals, Value.category]; done) | rfl) ?_
  intro p e s m below meth c T0 C S0
  refine own_seg C S0 [(0, .iload_n 1, 1), (1, .iload_n 2, 1)] (by decide +kernel) 2 #[.val (.ref b), .val (.int (0 : Int32)), .val (.int n), .unset, .unset] [(.int n), (.int (0 : Int32))] rfl ?_
  refine own_callS C S0 (own_wd hw 231 rfl) (own_wd hw 232 rfl) (own_wd hw 226 rfl) (own_wd hw 233 rfl) (by decide) (own_Met.pay (own_ckl l Z a0 hw (0 : Int32) n h0 n0 z0 t0) C 0 (own_wd hw 233 rfl) (own_wd hw 226 rfl) (by decide) (by decide)) (fun _ _ _ q => q.2) [(.int (0 : Int32)), (.int n)] [] rfl own_pd13 rfl rfl rfl (Nat.le_of_ble_eq_true rfl) (by decide) (by decide) (by decide +kernel) ?_
  rintro T290 h291 v292 L293 S294 ⟨⟨rfl, e289⟩, -⟩
  replace S294 : own_S p l e ({ frames := 1, cells := 1, slots := 64, locals := 18 } : Room) s m #[(.ref b), (.int (0 : Int32)), (.int n)] below meth c n0 T290 h291 0 0 := S294
  rw [e289] at S294; clear e289
  show own_Go p e below _ T290 (mkF m 5 #[.val (.ref b), .val (.int (0 : Int32)), .val (.int n), .unset, .unset] [])
  refine own_seg C S294 [(5, .iload_n 2, 1), (6, .iload_n 1, 1), (7, .isub, 1), (8, .istore_n 3, 1), (9, .iload_n 3, 1)] (by decide +kernel) 10 #[.val (.ref b), .val (.int (0 : Int32)), .val (.int n), .val (.int (n - (0 : Int32))), .unset] [(.int (n - (0 : Int32)))] rfl ?_
  rw [show (n - (0 : Int32)) = n from Int32.sub_zero n]
  refine own_newP C S294 (aty := .byte) (own_wd hw 23 rfl) (by decide +kernel) t0 64 t3 (by decide) (by decide) (by decide) ?_
  intro T295 h297 a298 k299 S296 g300 E301 f302
  have f303 : Arv Z h297 a298 k299 .byte n (List.replicate n.toNatClampNeg (.int (0 : Int32))) (.int (0 : Int32)) := Arv.pad f302 (pad_rep [] (.int (0 : Int32)) n.toNatClampNeg)
  refine own_seg C S296 [(12, .astore 4, 2), (14, .aload_n 0, 1), (15, .iload_n 1, 1), (16, .aload 4, 2), (18, .iconst 0, 1), (19, .aload_n 0, 1)] (by decide +kernel) 20 #[.val (.ref b), .val (.int (0 : Int32)), .val (.int n), .val (.int n), .val (.ref a298)] [(.ref b), (.int (0 : Int32)), (.ref a298), (.int (0 : Int32)), (.ref b)] rfl ?_
  have f304 : Arv Z h297 b bk .byte bN bvs (.int (0 : Int32)) := (bK.ext E301)
  refine own_alen C S296 f304 (by decide +kernel) ?_
  refine own_seg C S296 [(21, .iload_n 1, 1), (22, .isub, 1), (23, .iload_n 3, 1)] (by decide +kernel) 24 #[.val (.ref b), .val (.int (0 : Int32)), .val (.int n), .val (.int n), .val (.ref a298)] [(.int n), (.int (bN - (0 : Int32))), (.int (0 : Int32)), (.ref a298), (.int (0 : Int32)), (.ref b)] rfl ?_
  have f305 : n0 ≤ h297.size := (Nat.le_trans z0 E301.1)
  refine own_callS C S296 (own_wd hw 234 rfl) (own_wd hw 96 rfl) (own_wd hw 93 rfl) (own_wd hw 97 rfl) (by decide) (own_Met.pay (own_min l Z a0 hw (bN - (0 : Int32)) n h297 n0 f305) C 4 (own_wd hw 97 rfl) (own_wd hw 93 rfl) (by decide) (by decide)) (fun _ _ _ q => q.2) [(.int (bN - (0 : Int32))), (.int n)] [(.int (0 : Int32)), (.ref a298), (.int (0 : Int32)), (.ref b)] rfl own_pd1 rfl rfl rfl (Nat.le_of_ble_eq_true rfl) (by decide) (by decide) (by decide +kernel) ?_
  rintro T307 h308 v309 L310 S311 ⟨⟨rfl, e306⟩, -⟩
  replace S311 : own_S p l e ({ frames := 1, cells := 1, slots := 64, locals := 18 } : Room) s m #[(.ref b), (.int (0 : Int32)), (.int n)] below meth c n0 T307 h308 1 64 := S311
  rw [e306] at S311; clear e306
  show own_Go p e below _ T307 (mkF m 27 #[.val (.ref b), .val (.int (0 : Int32)), .val (.int n), .val (.int n), .val (.ref a298)] [(.int (if n < (bN - (0 : Int32)) then n else (bN - (0 : Int32)))), (.int (0 : Int32)), (.ref a298), (.int (0 : Int32)), (.ref b)])
  rw [show (bN - (0 : Int32)) = bN from Int32.sub_zero bN, own_min_g t1]
  show own_Go p e below _ T307 (mkF m 27 #[.val (.ref b), .val (.int (0 : Int32)), .val (.int n), .val (.int n), .val (.ref a298)] [(.int n), (.int (0 : Int32)), (.ref a298), (.int (0 : Int32)), (.ref b)])
  have g312 : n0 ≤ a298 := by rw [g300]; exact z0
  refine own_copy C S311 (own_wd hw 235 rfl) (own_wd hw 180 rfl) (own_wd hw 178 rfl) (own_wd hw 179 rfl) f304 f303 rfl (by decide) (by decide) t0 (by rw [show (0 : Int32).toNatClampNeg = 0 from rfl]; exact own_nat_le t0 t1) (Nat.le_of_eq (Nat.zero_add _)) (by rw [List.length_replicate]; exact Nat.le_of_eq (Nat.zero_add _)) g312 us (by rw [← t4]; exact own_take0 _ _ _) rfl (by decide +kernel) (by decide) 0 (Nat.le_of_ble_eq_true rfl) (by decide) ?_
  intro T313 h315 S314 K316 f317
  refine own_seg C S314 [(30, .aload 4, 2)] (by decide +kernel) 32 #[.val (.ref b), .val (.int (0 : Int32)), .val (.int n), .val (.int n), .val (.ref a298)] [(.ref a298)] rfl ?_
  refine own_retA C S314 rfl rfl (by decide +kernel) (by decide) (by decide) ?_
  exact ⟨a298, k299, rfl, (by rw [g300]; exact (Nat.le_refl _)), (((Keep.refl _ _).ext E301).trans K316 (allS (Or.inr (by rw [g300]; exact (Nat.le_refl _))) all0)), f317⟩
theorem own_pd14 : parseMethodDescriptor "([BII)[B" = some ⟨[(.array .byte), .int, .int], (some (.array .byte))⟩ := by decide +kernel
set_option maxRecDepth 65536 in
set_option maxHeartbeats 40000000 in
theorem own_cor (l : Launch) (Z : State) (a0 : Array Value) (hw : ∀ d ∈ tables_1, d.before a0 Z = true) (b : Addr) (bk : ClassId) (bN : Int32) (bvs : List Value) (n : Int32) (us : List Value) (h0 : Heap) (n0 : Nat) (z0 : n0 ≤ h0.size) (bK : Arv Z h0 b bk .byte bN bvs (.int (0 : Int32))) (t0 : ¬ n < (0 : Int32)) (t1 : ¬ bN < n) (t2 : ¬ n = bN) (t3 : n.toNatClampNeg ≤ 64) (t4 : ((List.range n.toNatClampNeg).map fun i => bvs.getD ((0 : Int32).toNatClampNeg + i) (.int (0 : Int32))) = us) :
    own_Met l Z (⟨"java/util/Arrays", "copyOfRange", "([BII)[B"⟩ : MethodName) jdk_65_method_132_code 3 (some (.array .byte)) ({ frames := 2, cells := 1, slots := 64, locals := 34 } : Room) n0 #[(.ref b), (.int (0 : Int32)), (.int n)] h0 (fun v h => ∃ r : Addr, ∃ rk : ClassId, v = some (.ref r) ∧ h0.size ≤ r ∧ Keep h0 h [] ∧ Arv Z h r rk .byte n us (.int (0 : Int32))) := by
  refine own_met (by decide +kernel) #[.val (.ref b), .val (.int (0 : Int32)), .val (.int n)] (fun m => by first | (simp [entryFrame, mkF, argsToLocals, Value.category]; done) | rfl) ?_
  intro p e s m below meth c T0 C S0
  refine own_seg C S0 [(0, .iload_n 1, 1)] (by decide +kernel) 1 #[.val (.ref b), .val (.int (0 : Int32)), .val (.int n)] [(.int (0 : Int32))] rfl ?_
  refine own_if C S0 (q := .ne) (o := 9) (by decide +kernel) 10 (by decide) (by decide) (fun (hq : ¬ (0 : Int32) = (0 : Int32)) => False.elim (hq rfl)) (fun (q318 : (0 : Int32) = (0 : Int32)) => ?_)
  refine own_seg C S0 [(4, .iload_n 2, 1), (5, .aload_n 0, 1)] (by decide +kernel) 6 #[.val (.ref b), .val (.int (0 : Int32)), .val (.int n)] [(.ref b), (.int n)] rfl ?_
  refine own_alen C S0 bK (by decide +kernel) ?_
  refine own_icmp C S0 (q := .eq) (o := 10) (by decide +kernel) 17 (by decide) (by decide) (fun (hq : n = bN) => False.elim (t2 hq)) (fun (q319 : ¬ n = bN) => ?_)
  refine own_seg C S0 [(10, .aload_n 0, 1), (11, .iload_n 1, 1), (12, .iload_n 2, 1)] (by decide +kernel) 13 #[.val (.ref b), .val (.int (0 : Int32)), .val (.int n)] [(.int n), (.int (0 : Int32)), (.ref b)] rfl ?_
  refine own_callS C S0 (own_wd hw 228 rfl) (own_wd hw 229 rfl) (own_wd hw 226 rfl) (own_wd hw 230 rfl) (by decide) (own_Met.pay (own_corb l Z a0 hw b bk bN bvs n us h0 n0 z0 bK t0 t1 t2 t3 t4) C 0 (own_wd hw 230 rfl) (own_wd hw 226 rfl) (by decide) (by decide)) (fun _ _ _ q => q.2) [(.ref b), (.int (0 : Int32)), (.int n)] [] rfl own_pd14 rfl rfl rfl (Nat.le_of_ble_eq_true rfl) (by decide) (by decide) (by decide +kernel) ?_
  rintro T325 h326 v327 L328 S329 ⟨⟨a320, k321, rfl, g322, K323, f324⟩, -⟩
  replace S329 : own_S p l e ({ frames := 2, cells := 1, slots := 64, locals := 34 } : Room) s m #[(.ref b), (.int (0 : Int32)), (.int n)] below meth c n0 T325 h326 1 64 := S329
  show own_Go p e below _ T325 (mkF m 16 #[.val (.ref b), .val (.int (0 : Int32)), .val (.int n)] [(.ref a320)])
  refine own_retA C S329 rfl rfl (by decide +kernel) (by decide) (by decide) ?_
  exact ⟨a320, k321, rfl, (Nat.le_trans (Nat.le_refl _) g322), ((Keep.refl _ _).trans K323 all0), f324⟩
set_option maxRecDepth 65536 in
set_option maxHeartbeats 40000000 in
theorem own_gv (l : Launch) (Z : State) (a0 : Array Value) (hw : ∀ d ∈ tables_1, d.before a0 Z = true) (a : Addr) (y : Addr) (h0 : Heap) (n0 : Nat) (z0 : n0 ≤ h0.size) (pF : Fld Z h0 a "java/lang/AbstractStringBuilder" "value" "[B" (.ref y)) :
    own_Met l Z (⟨"java/lang/AbstractStringBuilder", "getValue", "()[B"⟩ : MethodName) jdk_68_method_64_code 1 (some (.array .byte)) ({ frames := 0, cells := 0, slots := 0, locals := 0 } : Room) n0 #[(.ref a)] h0 (fun v h => v = some (.ref y) ∧ h = h0) := by
  refine own_met (by decide +kernel) #[.val (.ref a)] (fun m => by first | (simp [entryFrame, mkF, argsToLocals, Value.category]; done) | rfl) ?_
  intro p e s m below meth c T0 C S0
  refine own_seg C S0 [(0, .aload_n 0, 1)] (by decide +kernel) 1 #[.val (.ref a)] [(.ref a)] rfl ?_
  refine own_getF C S0 (host := "") (Or.inl (own_wd hw 134 rfl)) Via.refl pF (by decide +kernel) ?_
  intro T330 S331
  refine own_retA C S331 rfl rfl (by decide +kernel) (by decide) (by decide) ?_
  exact ⟨rfl, rfl⟩
set_option maxRecDepth 65536 in
set_option maxHeartbeats 40000000 in
theorem own_asbL (l : Launch) (Z : State) (a0 : Array Value) (hw : ∀ d ∈ tables_1, d.before a0 Z = true) (a : Addr) (y : Int32) (h0 : Heap) (n0 : Nat) (z0 : n0 ≤ h0.size) (pF : Fld Z h0 a "java/lang/AbstractStringBuilder" "count" "I" (.int y)) :
    own_Met l Z (⟨"java/lang/AbstractStringBuilder", "length", "()I"⟩ : MethodName) jdk_68_method_6_code 1 (some .int) ({ frames := 0, cells := 0, slots := 0, locals := 0 } : Room) n0 #[(.ref a)] h0 (fun v h => v = some (.int y) ∧ h = h0) := by
  refine own_met (by decide +kernel) #[.val (.ref a)] (fun m => by first | (simp [entryFrame, mkF, argsToLocals, Value.category]; done) | rfl) ?_
  intro p e s m below meth c T0 C S0
  refine own_seg C S0 [(0, .aload_n 0, 1)] (by decide +kernel) 1 #[.val (.ref a)] [(.ref a)] rfl ?_
  refine own_getF C S0 (host := "") (Or.inl (own_wd hw 154 rfl)) Via.refl pF (by decide +kernel) ?_
  intro T332 S333
  refine own_retI C S333 (by decide +kernel) (by decide) (by decide) ?_
  exact ⟨rfl, rfl⟩
set_option maxRecDepth 65536 in
set_option maxHeartbeats 40000000 in
theorem own_sbL (l : Launch) (Z : State) (a0 : Array Value) (hw : ∀ d ∈ tables_1, d.before a0 Z = true) (a : Addr) (y : Int32) (h0 : Heap) (n0 : Nat) (z0 : n0 ≤ h0.size) (pF : Fld Z h0 a "java/lang/AbstractStringBuilder" "count" "I" (.int y)) (aE : Exa Z h0 a "java/lang/StringBuilder") :
    own_Met l Z (⟨"java/lang/StringBuilder", "length", "()I"⟩ : MethodName) jdk_67_method_93_code 1 (some .int) ({ frames := 1, cells := 0, slots := 0, locals := 12 } : Room) n0 #[(.ref a)] h0 (fun v h => v = some (.int y) ∧ h = h0) := by
  refine own_met (by decide +kernel) #[.val (.ref a)] (fun m => by first | (simp [entryFrame, mkF, argsToLocals, Value.category]; done) | rfl) ?_
  intro p e s m below meth c T0 C S0
  refine own_seg C S0 [(0, .aload_n 0, 1)] (by decide +kernel) 1 #[.val (.ref a)] [(.ref a)] rfl ?_
  refine own_callX C S0 (own_wd hw 221 rfl) (own_same (y' := ⟨"java/lang/AbstractStringBuilder", "ensureCapacityInternal", "(I)V"⟩) rfl (own_wd hw 217 rfl) (own_wd hw 159 rfl) (by decide)) (own_wd hw 217 rfl) (own_wd hw 150 rfl) (by decide) (own_wd hw 222 rfl) (own_Met.pay (own_asbL l Z a0 hw a y h0 n0 z0 pF) C 0 (own_wd hw 222 rfl) (own_wd hw 130 rfl) (by decide) (by decide)) (fun _ _ _ q => q.2) (Ins.self aE) [] [] rfl own_pd4 rfl rfl rfl (Nat.le_of_ble_eq_true rfl) (by decide) (by decide) (by decide +kernel) ?_
  rintro T335 h336 v337 L338 S339 ⟨⟨rfl, e334⟩, -⟩
  replace S339 : own_S p l e ({ frames := 1, cells := 0, slots := 0, locals := 12 } : Room) s m #[(.ref a)] below meth c n0 T335 h336 0 0 := S339
  rw [e334] at S339; clear e334
  show own_Go p e below _ T335 (mkF m 4 #[.val (.ref a)] [(.int y)])
  refine own_retI C S339 (by decide +kernel) (by decide) (by decide) ?_
  exact ⟨rfl, rfl⟩
theorem own_pd15 : parseMethodDescriptor "()[B" = some ⟨[], (some (.array .byte))⟩ := by decide +kernel
theorem own_sn6 {Z : State} {a0 : Array Value} (hw : ∀ d ∈ tables_1, d.before a0 Z = true) : Jvm.RoadKit.slotOf Z "java/lang/String" "value" "[B" ≠ Jvm.RoadKit.slotOf Z "java/lang/String" "coder" "B" := slot_ne (Or.inr (own_wd hw 33 rfl)) (Or.inr (own_wd hw 31 rfl)) (by decide) own_fd0 own_fd1
theorem own_sn7 {Z : State} {a0 : Array Value} (hw : ∀ d ∈ tables_1, d.before a0 Z = true) : Jvm.RoadKit.slotOf Z "java/lang/String" "coder" "B" ≠ Jvm.RoadKit.slotOf Z "java/lang/String" "value" "[B" := slot_ne (Or.inr (own_wd hw 31 rfl)) (Or.inr (own_wd hw 33 rfl)) (by decide) own_fd1 own_fd0
set_option maxRecDepth 65536 in
set_option maxHeartbeats 40000000 in
theorem own_sib (l : Launch) (Z : State) (a0 : Array Value) (hw : ∀ d ∈ tables_1, d.before a0 Z = true) (G1 : Int32) (G3 : Value) (x : Addr) (a : Addr) (b : Addr) (bk : ClassId) (bN : Int32) (bvs : List Value) (cnt : Int32) (us : List Value) (h0 : Heap) (n0 : Nat) (z0 : n0 ≤ h0.size) (ge_x : n0 ≤ x) (X00 : Old Z n0 h0) (xE : Exa Z h0 x "java/lang/String") (xV : Fld Z h0 x "java/lang/String" "value" "[B" .null) (xC : Fld Z h0 x "java/lang/String" "coder" "B" (.int (0 : Int32))) (aE : Exa Z h0 a "java/lang/StringBuilder") (aV : Fld Z h0 a "java/lang/AbstractStringBuilder" "value" "[B" (.ref b)) (aC : Fld Z h0 a "java/lang/AbstractStringBuilder" "coder" "B" (.int (0 : Int32))) (aN : Fld Z h0 a "java/lang/AbstractStringBuilder" "count" "I" (.int cnt)) (bK : Arv Z h0 b bk .byte bN bvs (.int (0 : Int32))) (ne_a_x : a ≠ x) (ne_b_x : b ≠ x) (O2 : Sta Z Z.heap "java/lang/String" "COMPACT_STRINGS" "Z" (.int G1)) (O4 : Sta Z Z.heap "jdk/internal/util/Preconditions" "SIOOBE_FORMATTER" "Ljava/util/function/BiFunction;" G3) (P5 : ¬ G1 = (0 : Int32)) (rG3 : G3.isRef = true) (t0 : ¬ cnt < (0 : Int32)) (t1 : ¬ bN < cnt) (t2 : ¬ cnt = bN) (t3 : cnt.toNatClampNeg ≤ 64) (t4 : ((List.range cnt.toNatClampNeg).map fun i => bvs.getD ((0 : Int32).toNatClampNeg + i) (.int (0 : Int32))) = us) :
    own_Met l Z (⟨"java/lang/String", "<init>", "(Ljava/lang/AbstractStringBuilder;Ljava/lang/Void;)V"⟩ : MethodName) jdk_42_method_150_code 5 none ({ frames := 3, cells := 1, slots := 64, locals := 49 } : Room) n0 #[(.ref x), (.ref a), .null] h0 (fun v h => ∃ r : Addr, ∃ rk : ClassId, v = none ∧ h0.size ≤ r ∧ Keep h0 h [x] ∧ Exa Z h x "java/lang/String" ∧ Fld Z h x "java/lang/String" "coder" "B" (.int 0) ∧ Fld Z h x "java/lang/String" "value" "[B" (.ref r) ∧ Arv Z h r rk .byte cnt us (.int 0)) := by
  refine own_met (by decide +kernel) #[.val (.ref x), .val (.ref a), .val .null, .unset, .unset] (fun m => by first | (simp [entryFrame, mkF, argsToLocals, Value.category]; done) | rfl) ?_
  intro p e s m below meth c T0 C S0
  refine own_seg C S0 [(0, .aload_n 0, 1)] (by decide +kernel) 1 #[.val (.ref x), .val (.ref a), .val .null, .unset, .unset] [(.ref x)] rfl ?_
  refine own_initO C S0 (own_wd hw 15 rfl) (own_wd hw 16 rfl) (own_wd hw 17 rfl) rfl (by decide +kernel) (by decide) 0 (Nat.le_of_ble_eq_true rfl) (by decide) ?_
  intro T340 S341
  refine own_seg C S341 [(4, .aload_n 1, 1)] (by decide +kernel) 5 #[.val (.ref x), .val (.ref a), .val .null, .unset, .unset] [(.ref a)] rfl ?_
  refine own_callV C S341 (own_wd hw 210 rfl) (own_wd hw 211 rfl) (own_wd hw 213 rfl) (y' := ⟨"java/lang/AbstractStringBuilder", "getValue", "()[B"⟩) rfl (own_wd hw 213 rfl) (own_wd hw 212 rfl) (by decide) (own_Met.pay (own_gv l Z a0 hw a b h0 n0 z0 aV) C 0 (own_wd hw 214 rfl) (own_wd hw 130 rfl) (by decide) (by decide)) (fun _ _ _ q => q.2) aE [] [] rfl own_pd15 rfl rfl rfl (Nat.le_of_ble_eq_true rfl) (by decide) (by decide) (by decide +kernel) ?_
  rintro T343 h344 v345 L346 S347 ⟨⟨rfl, e342⟩, -⟩
  replace S347 : own_S p l e ({ frames := 3, cells := 1, slots := 64, locals := 49 } : Room) s m #[(.ref x), (.ref a), .null] below meth c n0 T343 h344 0 0 := S347
  rw [e342] at S347; clear e342
  show own_Go p e below _ T343 (mkF m 8 #[.val (.ref x), .val (.ref a), .val .null, .unset, .unset] [(.ref b)])
  refine own_seg C S347 [(8, .astore_n 3, 1), (9, .aload_n 1, 1)] (by decide +kernel) 10 #[.val (.ref x), .val (.ref a), .val .null, .val (.ref b), .unset] [(.ref a)] rfl ?_
  refine own_callV C S347 (own_wd hw 215 rfl) (own_wd hw 216 rfl) (own_wd hw 218 rfl) (y' := ⟨"java/lang/AbstractStringBuilder", "ensureCapacityInternal", "(I)V"⟩) rfl (own_wd hw 159 rfl) (own_wd hw 219 rfl) (by decide) (own_Met.pay (own_sbL l Z a0 hw a cnt h0 n0 z0 aN aE) C 0 (own_wd hw 220 rfl) (own_wd hw 122 rfl) (by decide) (by decide)) (fun _ _ _ q => q.2) aE [] [] rfl own_pd4 rfl rfl rfl (Nat.le_of_ble_eq_true rfl) (by decide) (by decide) (by decide +kernel) ?_
  rintro T349 h350 v351 L352 S353 ⟨⟨rfl, e348⟩, -⟩
  replace S353 : own_S p l e ({ frames := 3, cells := 1, slots := 64, locals := 49 } : Room) s m #[(.ref x), (.ref a), .null] below meth c n0 T349 h350 0 0 := S353
  rw [e348] at S353; clear e348
  show own_Go p e below _ T349 (mkF m 13 #[.val (.ref x), .val (.ref a), .val .null, .val (.ref b), .unset] [(.int cnt)])
  refine own_seg C S353 [(13, .istore 4, 2), (15, .aload_n 1, 1)] (by decide +kernel) 16 #[.val (.ref x), .val (.ref a), .val .null, .val (.ref b), .val (.int cnt)] [(.ref a)] rfl ?_
  refine own_callV C S353 (own_wd hw 223 rfl) (own_wd hw 191 rfl) (own_wd hw 193 rfl) (y' := ⟨"java/lang/AbstractStringBuilder", "isLatin1", "()Z"⟩) rfl (own_wd hw 193 rfl) (own_wd hw 192 rfl) (by decide) (own_Met.pay (own_asbisL l Z a0 hw G1 G3 a h0 n0 z0 X00 aC O2 O4 P5 rG3) C 0 (own_wd hw 194 rfl) (own_wd hw 130 rfl) (by decide) (by decide)) (fun _ _ _ q => q.2) aE [] [] rfl own_pd3 rfl rfl rfl (Nat.le_of_ble_eq_true rfl) (by decide) (by decide) (by decide +kernel) ?_
  rintro T355 h356 v357 L358 S359 ⟨⟨rfl, e354⟩, -⟩
  replace S359 : own_S p l e ({ frames := 3, cells := 1, slots := 64, locals := 49 } : Room) s m #[(.ref x), (.ref a), .null] below meth c n0 T355 h356 0 0 := S359
  rw [e354] at S359; clear e354
  show own_Go p e below _ T355 (mkF m 19 #[.val (.ref x), .val (.ref a), .val .null, .val (.ref b), .val (.int cnt)] [(.int (1 : Int32))])
  refine own_if C S359 (q := .eq) (o := 22) (by decide +kernel) 41 (by decide) (by decide) (fun (hq : (1 : Int32) = (0 : Int32)) => False.elim (absurd hq (by decide))) (fun (q360 : ¬ (1 : Int32) = (0 : Int32)) => ?_)
  refine own_seg C S359 [(22, .aload_n 0, 1), (23, .iconst 0, 1)] (by decide +kernel) 24 #[.val (.ref x), .val (.ref a), .val .null, .val (.ref b), .val (.int cnt)] [(.int (0 : Int32)), (.ref x)] rfl ?_
  refine own_putF C S359 (ty := .byte) (host := "") (Or.inl (own_wd hw 30 rfl)) Via.refl xC xE (Or.inr ⟨(own_wd hw 31 rfl), rfl, rfl⟩) (own_wd hw 6 rfl) own_fd1 rfl rfl ge_x (by decide +kernel) ?_
  intro T361 h363 S362 W364
  have f365 : Fld Z h363 x "java/lang/String" "coder" "B" (.int (0 : Int32)) := Fld.same W364 xC
  refine own_seg C S362 [(27, .aload_n 0, 1), (28, .aload_n 3, 1), (29, .iconst 0, 1), (30, .iload 4, 2)] (by decide +kernel) 32 #[.val (.ref x), .val (.ref a), .val .null, .val (.ref b), .val (.int cnt)] [(.int cnt), (.int (0 : Int32)), (.ref b), (.ref x)] rfl ?_
  have f366 : Arv Z h363 b bk .byte bN bvs (.int (0 : Int32)) := (bK.other W364 ne_b_x)
  have f367 : n0 ≤ h363.size := (by rw [W364.size]; exact z0)
  refine own_callS C S362 (own_wd hw 224 rfl) (own_wd hw 225 rfl) (own_wd hw 226 rfl) (own_wd hw 227 rfl) (by decide) (own_Met.pay (own_cor l Z a0 hw b bk bN bvs cnt us h363 n0 f367 f366 t0 t1 t2 t3 t4) C 1 (own_wd hw 227 rfl) (own_wd hw 226 rfl) (by decide) (by decide)) (fun _ _ _ q => q.2) [(.ref b), (.int (0 : Int32)), (.int cnt)] [(.ref x)] rfl own_pd14 rfl rfl rfl (Nat.le_of_ble_eq_true rfl) (by decide) (by decide) (by decide +kernel) ?_
  rintro T373 h374 v375 L376 S377 ⟨⟨a368, k369, rfl, g370, K371, f372⟩, -⟩
  replace S377 : own_S p l e ({ frames := 3, cells := 1, slots := 64, locals := 49 } : Room) s m #[(.ref x), (.ref a), .null] below meth c n0 T373 h374 1 64 := S377
  show own_Go p e below _ T373 (mkF m 35 #[.val (.ref x), .val (.ref a), .val .null, .val (.ref b), .val (.int cnt)] [(.ref a368), (.ref x)])
  have f378 : Fld Z h374 x "java/lang/String" "value" "[B" .null := ((Fld.other W364 xV (Or.inr (own_sn6 hw))).keep K371 nin0)
  have f379 : Exa Z h374 x "java/lang/String" := ((Exa.wr W364 xE).keep K371)
  refine own_putF C S377 (ty := (.array .byte)) (host := "") (Or.inl (own_wd hw 32 rfl)) Via.refl f378 f379 (Or.inr ⟨(own_wd hw 33 rfl), rfl, rfl⟩) (own_wd hw 6 rfl) own_fd0 rfl rfl ge_x (by decide +kernel) ?_
  intro T380 h382 S381 W383
  have f384 : Fld Z h382 x "java/lang/String" "value" "[B" (.ref a368) := Fld.same W383 f378
  refine own_seg C S381 [(38, .goto 59, 3)] (by decide +kernel) 97 #[.val (.ref x), .val (.ref a), .val .null, .val (.ref b), .val (.int cnt)] [] rfl ?_
  refine own_retV C S381 (by decide +kernel) (by decide) (by decide) ?_
  have f385 : Exa Z h382 x "java/lang/String" := (Exa.wr W383 f379)
  have f386 : Fld Z h382 x "java/lang/String" "coder" "B" (.int (0 : Int32)) := (Fld.other W383 (f365.keep K371 nin0) (Or.inr (own_sn7 hw)))
  have f387 : x < h363.size := (by rw [W364.size]; exact xC.lt)
  have n388 : x ≠ a368 := Nat.ne_of_lt (Nat.lt_of_lt_of_le f387 g370)
  have f389 : Arv Z h382 a368 k369 .byte cnt us (.int (0 : Int32)) := (f372.other W383 (Ne.symm n388))
  exact ⟨a368, k369, rfl, (Nat.le_trans (by rw [W364.size]; exact (Nat.le_refl _)) g370), ((((Keep.refl _ _).wr W364 (Or.inl (List.mem_of_getElem? (i := 0) rfl))).trans K371 all0).wr W383 (Or.inl (List.mem_of_getElem? (i := 0) rfl))), f385, f386, f384, f389⟩
theorem own_pd16 : parseMethodDescriptor "(Ljava/lang/AbstractStringBuilder;Ljava/lang/Void;)V" = some ⟨[(.object "java/lang/AbstractStringBuilder"), (.object "java/lang/Void")], none⟩ := by decide +kernel
set_option maxRecDepth 65536 in
set_option maxHeartbeats 40000000 in
theorem own_sib2 (l : Launch) (Z : State) (a0 : Array Value) (hw : ∀ d ∈ tables_1, d.before a0 Z = true) (G1 : Int32) (G3 : Value) (x : Addr) (a : Addr) (b : Addr) (bk : ClassId) (bN : Int32) (bvs : List Value) (cnt : Int32) (us : List Value) (h0 : Heap) (n0 : Nat) (z0 : n0 ≤ h0.size) (ge_x : n0 ≤ x) (X00 : Old Z n0 h0) (xE : Exa Z h0 x "java/lang/String") (xV : Fld Z h0 x "java/lang/String" "value" "[B" .null) (xC : Fld Z h0 x "java/lang/String" "coder" "B" (.int (0 : Int32))) (aE : Exa Z h0 a "java/lang/StringBuilder") (aV : Fld Z h0 a "java/lang/AbstractStringBuilder" "value" "[B" (.ref b)) (aC : Fld Z h0 a "java/lang/AbstractStringBuilder" "coder" "B" (.int (0 : Int32))) (aN : Fld Z h0 a "java/lang/AbstractStringBuilder" "count" "I" (.int cnt)) (bK : Arv Z h0 b bk .byte bN bvs (.int (0 : Int32))) (ne_a_x : a ≠ x) (ne_b_x : b ≠ x) (O2 : Sta Z Z.heap "java/lang/String" "COMPACT_STRINGS" "Z" (.int G1)) (O4 : Sta Z Z.heap "jdk/internal/util/Preconditions" "SIOOBE_FORMATTER" "Ljava/util/function/BiFunction;" G3) (P5 : ¬ G1 = (0 : Int32)) (rG3 : G3.isRef = true) (t0 : ¬ cnt < (0 : Int32)) (t1 : ¬ bN < cnt) (t2 : ¬ cnt = bN) (t3 : cnt.toNatClampNeg ≤ 64) (t4 : ((List.range cnt.toNatClampNeg).map fun i => bvs.getD ((0 : Int32).toNatClampNeg + i) (.int (0 : Int32))) = us) :
    own_Met l Z (⟨"java/lang/String", "<init>", "(Ljava/lang/StringBuilder;)V"⟩ : MethodName) jdk_42_method_53_code 2 none ({ frames := 4, cells := 1, slots := 64, locals := 65 } : Room) n0 #[(.ref x), (.ref a)] h0 (fun v h => ∃ r : Addr, ∃ rk : ClassId, v = none ∧ h0.size ≤ r ∧ Keep h0 h [x] ∧ Exa Z h x "java/lang/String" ∧ Fld Z h x "java/lang/String" "coder" "B" (.int 0) ∧ Fld Z h x "java/lang/String" "value" "[B" (.ref r) ∧ Arv Z h r rk .byte cnt us (.int 0)) := by
  refine own_met (by decide +kernel) #[.val (.ref x), .val (.ref a)] (fun m => by first | (simp [entryFrame, mkF, argsToLocals, Value.category]; done) | rfl) ?_
  intro p e s m below meth c T0 C S0
  refine own_seg C S0 [(0, .aload_n 0, 1), (1, .aload_n 1, 1), (2, .aconst_null, 1)] (by decide +kernel) 3 #[.val (.ref x), .val (.ref a)] [.null, (.ref a), (.ref x)] rfl ?_
  refine own_callI C S0 rfl (own_wd hw 207 rfl) (own_wd hw 208 rfl) (own_wd hw 209 rfl) (by decide) (own_Met.pay (own_sib l Z a0 hw G1 G3 x a b bk bN bvs cnt us h0 n0 z0 ge_x X00 xE xV xC aE aV aC aN bK ne_a_x ne_b_x O2 O4 P5 rG3 t0 t1 t2 t3 t4) C 0 (own_wd hw 209 rfl) (own_wd hw 7 rfl) (by decide) (by decide)) (fun _ _ _ q => q.2) [(.ref a), .null] [] rfl own_pd16 rfl rfl rfl (Nat.le_of_ble_eq_true rfl) (by decide) (by decide) (by decide +kernel) ?_
  rintro T398 h399 v400 L401 S402 ⟨⟨a390, k391, rfl, g392, K393, f394, f395, f396, f397⟩, -⟩
  replace S402 : own_S p l e ({ frames := 4, cells := 1, slots := 64, locals := 65 } : Room) s m #[(.ref x), (.ref a)] below meth c n0 T398 h399 1 64 := S402
  show own_Go p e below _ T398 (mkF m 6 #[.val (.ref x), .val (.ref a)] [])
  refine own_retV C S402 (by decide +kernel) (by decide) (by decide) ?_
  exact ⟨a390, k391, rfl, (Nat.le_trans (Nat.le_refl _) g392), ((Keep.refl _ _).trans K393 (allS (Or.inl (List.mem_of_getElem? (i := 0) rfl)) all0)), f394, f395, f396, f397⟩
theorem own_pd17 : parseMethodDescriptor "(Ljava/lang/StringBuilder;)V" = some ⟨[(.object "java/lang/StringBuilder")], none⟩ := by decide +kernel
set_option maxRecDepth 65536 in
set_option maxHeartbeats 40000000 in
theorem own_ts (l : Launch) (Z : State) (a0 : Array Value) (hw : ∀ d ∈ tables_1, d.before a0 Z = true) (G1 : Int32) (G3 : Value) (a : Addr) (b : Addr) (bk : ClassId) (bN : Int32) (bvs : List Value) (cnt : Int32) (us : List Value) (h0 : Heap) (n0 : Nat) (z0 : n0 ≤ h0.size) (X00 : Old Z n0 h0) (aE : Exa Z h0 a "java/lang/StringBuilder") (aV : Fld Z h0 a "java/lang/AbstractStringBuilder" "value" "[B" (.ref b)) (aC : Fld Z h0 a "java/lang/AbstractStringBuilder" "coder" "B" (.int (0 : Int32))) (aN : Fld Z h0 a "java/lang/AbstractStringBuilder" "count" "I" (.int cnt)) (bK : Arv Z h0 b bk .byte bN bvs (.int (0 : Int32))) (O2 : Sta Z Z.heap "java/lang/String" "COMPACT_STRINGS" "Z" (.int G1)) (O4 : Sta Z Z.heap "jdk/internal/util/Preconditions" "SIOOBE_FORMATTER" "Ljava/util/function/BiFunction;" G3) (P5 : ¬ G1 = (0 : Int32)) (rG3 : G3.isRef = true) (t0 : ¬ cnt < (0 : Int32)) (t1 : ¬ bN < cnt) (t2 : ¬ cnt = bN) (t3 : cnt.toNatClampNeg ≤ 64) (t4 : ((List.range cnt.toNatClampNeg).map fun i => bvs.getD ((0 : Int32).toNatClampNeg + i) (.int (0 : Int32))) = us) :
    own_Met l Z (⟨"java/lang/StringBuilder", "toString", "()Ljava/lang/String;"⟩ : MethodName) jdk_67_method_42_code 1 (some (.object "java/lang/String")) ({ frames := 5, cells := 2, slots := 68, locals := 79 } : Room) n0 #[(.ref a)] h0 (fun v h => ∃ x : Addr, ∃ r : Addr, ∃ rk : ClassId, v = some (.ref x) ∧ h0.size ≤ x ∧ h0.size ≤ r ∧ Keep h0 h [] ∧ Exa Z h x "java/lang/String" ∧ Fld Z h x "java/lang/String" "coder" "B" (.int 0) ∧ Fld Z h x "java/lang/String" "value" "[B" (.ref r) ∧ Arv Z h r rk .byte cnt us (.int 0)) := by
  refine own_met (by decide +kernel) #[.val (.ref a)] (fun m => by first | (simp [entryFrame, mkF, argsToLocals, Value.category]; done) | rfl) ?_
  intro p e s m below meth c T0 C S0
  refine own_new C S0 (own_wd hw 203 rfl) (own_wd hw 6 rfl) (own_wd hw 7 rfl) (by decide +kernel) (by decide) (by decide) ?_
  intro T403 h405 a406 S404 g407 E408 x409 D410
  have f411 : Fld Z h405 a406 "java/lang/String" "coder" "B" (.int (0 : Int32)) := D410 (ty := .byte) (Or.inr (own_wd hw 31 rfl)) own_fd1
  have f412 : Fld Z h405 a406 "java/lang/String" "value" "[B" .null := D410 (ty := (.array .byte)) (Or.inr (own_wd hw 33 rfl)) own_fd0
  refine own_seg C S404 [(3, .dup, 1), (4, .aload_n 0, 1)] (by decide +kernel) 5 #[.val (.ref a)] [(.ref a), (.ref a406), (.ref a406)] rfl ?_
  have f413 : Old Z n0 h405 := (X00.ext E408)
  have f414 : Exa Z h405 a "java/lang/StringBuilder" := (Exa.ext E408 aE)
  have f415 : Fld Z h405 a "java/lang/AbstractStringBuilder" "value" "[B" (.ref b) := (Fld.ext E408 aV)
  have f416 : Fld Z h405 a "java/lang/AbstractStringBuilder" "coder" "B" (.int (0 : Int32)) := (Fld.ext E408 aC)
  have f417 : Fld Z h405 a "java/lang/AbstractStringBuilder" "count" "I" (.int cnt) := (Fld.ext E408 aN)
  have f418 : Arv Z h405 b bk .byte bN bvs (.int (0 : Int32)) := (bK.ext E408)
  have f419 : n0 ≤ h405.size := (Nat.le_trans z0 E408.1)
  have g420 : n0 ≤ a406 := by rw [g407]; exact z0
  have n421 : a ≠ a406 := by rw [g407]; exact Nat.ne_of_lt aE.lt
  have n422 : b ≠ a406 := by rw [g407]; exact Nat.ne_of_lt bK.lt
  refine own_callI C S404 rfl (own_wd hw 204 rfl) (own_wd hw 205 rfl) (own_wd hw 206 rfl) (by decide) (own_Met.pay (own_sib2 l Z a0 hw G1 G3 a406 a b bk bN bvs cnt us h405 n0 f419 g420 f413 x409 f412 f411 f414 f415 f416 f417 f418 n421 n422 O2 O4 P5 rG3 t0 t1 t2 t3 t4) C 1 (own_wd hw 206 rfl) (own_wd hw 7 rfl) (by decide) (by decide)) (fun _ _ _ q => q.2) [(.ref a)] [(.ref a406)] rfl own_pd17 rfl rfl rfl (Nat.le_of_ble_eq_true rfl) (by decide) (by decide) (by decide +kernel) ?_
  rintro T431 h432 v433 L434 S435 ⟨⟨a423, k424, rfl, g425, K426, f427, f428, f429, f430⟩, -⟩
  replace S435 : own_S p l e ({ frames := 5, cells := 2, slots := 68, locals := 79 } : Room) s m #[(.ref a)] below meth c n0 T431 h432 2 68 := S435
  show own_Go p e below _ T431 (mkF m 8 #[.val (.ref a)] [(.ref a406)])
  refine own_retA C S435 rfl rfl (by decide +kernel) (by decide) (by decide) ?_
  exact ⟨a406, a423, k424, rfl, (by rw [g407]; exact (Nat.le_refl _)), (Nat.le_trans (Nat.le_trans (Nat.le_refl _) E408.1) g425), (((Keep.refl _ _).ext E408).trans K426 (allS (Or.inr (by rw [g407]; exact (Nat.le_refl _))) all0)), f427, f428, f429, f430⟩
set_option maxRecDepth 65536 in
set_option maxHeartbeats 40000000 in
theorem own_se4 (l : Launch) (Z : State) (a0 : Array Value) (hw : ∀ d ∈ tables_1, d.before a0 Z = true) (hEL : EW Z a0 own_EL) (wS : ∀ a ∈ Bundle.stringAtoms, a.before a0 Z = true) (x : Addr) (y : Addr) (h0 : Heap) (n0 : Nat) (z0 : n0 ≤ h0.size) (ge_x : n0 ≤ x) (xE : Exa Z h0 x "java/lang/String") (xV : Fld Z h0 x "java/lang/String" "value" "[B" .null) (xC : Fld Z h0 x "java/lang/String" "coder" "B" (.int (0 : Int32))) :
    own_MetW l Z own_EL (⟨"java/lang/String", "<init>", "([CIILjava/lang/Void;)V"⟩ : MethodName) jdk_42_method_149_code 6 none ({ frames := 1, cells := 4, slots := 8, locals := 12 } : Room) n0 #[(.ref x), (.ref y), (.int (0 : Int32)), (.int (0 : Int32)), .null] h0 [x] (fun v h => ∃ t : Addr, ∃ tk : ClassId, v = none ∧ Keep h0 h [x] ∧ Exa Z h x "java/lang/String" ∧ Fld Z h x "java/lang/String" "coder" "B" (.int (0 : Int32)) ∧ Fld Z h x "java/lang/String" "value" "[B" (.ref t) ∧ Arv Z h t tk .byte (0 : Int32) ([]) (.int 0)) := by
  refine own_metW hEL wS (by decide +kernel) #[.val (.ref x), .val (.ref y), .val (.int (0 : Int32)), .val (.int (0 : Int32)), .val .null, .unset] (fun m => by first | (simp [entryFrame, mkF, argsToLocals, Value.category]; done) | rfl) ?_
  intro p e s m below meth c T0 CW SW0
  refine own_lift CW SW0 ?_
  intro vm436 C S437 rb438
  refine own_seg C S437 [(0, .aload_n 0, 1)] (by decide +kernel) 1 #[.val (.ref x), .val (.ref y), .val (.int (0 : Int32)), .val (.int (0 : Int32)), .val .null, .unset] [(.ref x)] rfl ?_
  refine own_initO C S437 (own_wd hw 15 rfl) (own_wd hw 16 rfl) (own_wd hw 17 rfl) rfl (by decide +kernel) (by decide) 0 (Nat.le_of_ble_eq_true rfl) (by decide) ?_
  intro T439 S440
  refine own_seg C S440 [(4, .iload_n 3, 1)] (by decide +kernel) 5 #[.val (.ref x), .val (.ref y), .val (.int (0 : Int32)), .val (.int (0 : Int32)), .val .null, .unset] [(.int (0 : Int32))] rfl ?_
  refine own_if C S440 (q := .ne) (o := 22) (by decide +kernel) 27 (by decide) (by decide) (fun (hq : ¬ (0 : Int32) = (0 : Int32)) => False.elim (hq rfl)) (fun (q441 : (0 : Int32) = (0 : Int32)) => ?_)
  refine own_seg C S440 [(8, .aload_n 0, 1)] (by decide +kernel) 9 #[.val (.ref x), .val (.ref y), .val (.int (0 : Int32)), .val (.int (0 : Int32)), .val .null, .unset] [(.ref x)] rfl ?_
  have SW442 : own_SW p l e ({ frames := 1, cells := 4, slots := 8, locals := 12 } : Room) s m #[(.ref x), (.ref y), (.int (0 : Int32)), (.int (0 : Int32)), .null] below meth c n0 Z own_EL "java/lang/String" T439 h0 [x] 0 0 := rb438 _ _ _ _ [] [] S440 (Keep.refl _ _) all0 all0
  refine own_ldcW CW SW442 (own_wd hw 34 rfl) (List.mem_of_getElem? (i := 4) rfl) (z := (0 : Int32)) (vs := []) ⟨by decide, by decide⟩ (by decide) rfl (by decide +kernel) 0 (by decide) (by decide) (by decide) (by decide) ?_
  intro T443 h444 a445 b446 k447 SW448 E449 x450 f451 f452 f453 ne454
  have hp455 : ∀ c ∈ ([] : List Int32), ¬ c < 0 ∧ ¬ (255 : Int32) < c := by decide
  have hcd456 : StrChars.Road.CodA ([] : List Int32) 0 (0 : Int32) [] := StrChars.Road.codOf (cs := ([] : List Int32)) (n := 0) rfl (fun c hc => (hp455 c hc).2)
  refine own_lift CW SW448 ?_
  intro vm457 C S458 rb459
  refine own_getF C S458 (host := "") (Or.inl (own_wd hw 32 rfl)) Via.refl f452 (by decide +kernel) ?_
  intro T460 S461
  have f462 : Fld Z h444 x "java/lang/String" "value" "[B" .null := (Fld.ext E449 xV)
  have f463 : Exa Z h444 x "java/lang/String" := (Exa.ext E449 xE)
  refine own_putF C S461 (ty := (.array .byte)) (host := "") (Or.inl (own_wd hw 32 rfl)) Via.refl f462 f463 (Or.inr ⟨(own_wd hw 33 rfl), rfl, rfl⟩) (own_wd hw 6 rfl) own_fd0 rfl rfl ge_x (by decide +kernel) ?_
  intro T464 h466 S465 W467
  have f468 : Fld Z h466 x "java/lang/String" "value" "[B" (.ref b446) := Fld.same W467 f462
  refine own_seg C S465 [(17, .aload_n 0, 1)] (by decide +kernel) 18 #[.val (.ref x), .val (.ref y), .val (.int (0 : Int32)), .val (.int (0 : Int32)), .val .null, .unset] [(.ref x)] rfl ?_
  have SW469 : own_SW p l e ({ frames := 1, cells := 4, slots := 8, locals := 12 } : Room) s m #[(.ref x), (.ref y), (.int (0 : Int32)), (.int (0 : Int32)), .null] below meth c n0 Z own_EL "java/lang/String" T464 h466 [x] 2 4 := rb459 _ _ _ _ [x] [] S465 ((Keep.refl _ _).wr W467 (Or.inl (List.mem_of_getElem? (i := 0) rfl))) (allS (List.mem_of_getElem? (i := 0) rfl) all0) all0
  refine own_ldcW CW SW469 (own_wd hw 34 rfl) (List.mem_of_getElem? (i := 4) rfl) (z := (0 : Int32)) (vs := []) ⟨by decide, by decide⟩ (by decide) rfl (by decide +kernel) 0 (by decide) (by decide) (by decide) (by decide) ?_
  intro T470 h471 a472 b473 k474 SW475 E476 x477 f478 f479 f480 ne481
  have hp482 : ∀ c ∈ ([] : List Int32), ¬ c < 0 ∧ ¬ (255 : Int32) < c := by decide
  have hcd483 : StrChars.Road.CodA ([] : List Int32) 0 (0 : Int32) [] := StrChars.Road.codOf (cs := ([] : List Int32)) (n := 0) rfl (fun c hc => (hp482 c hc).2)
  refine own_lift CW SW475 ?_
  intro vm484 C S485 rb486
  refine own_getF C S485 (host := "") (Or.inl (own_wd hw 30 rfl)) Via.refl f478 (by decide +kernel) ?_
  intro T487 S488
  have f489 : Fld Z h471 x "java/lang/String" "coder" "B" (.int (0 : Int32)) := (Fld.ext E476 (Fld.other W467 (Fld.ext E449 xC) (Or.inr (own_sn7 hw))))
  have f490 : Exa Z h471 x "java/lang/String" := (Exa.ext E476 (Exa.wr W467 f463))
  refine own_putF C S488 (ty := .byte) (host := "") (Or.inl (own_wd hw 30 rfl)) Via.refl f489 f490 (Or.inr ⟨(own_wd hw 31 rfl), rfl, rfl⟩) (own_wd hw 6 rfl) own_fd1 rfl rfl ge_x (by decide +kernel) ?_
  intro T491 h493 S492 W494
  have f495 : Fld Z h493 x "java/lang/String" "coder" "B" (.int 0) := Fld.same W494 f489
  have SW496 : own_SW p l e ({ frames := 1, cells := 4, slots := 8, locals := 12 } : Room) s m #[(.ref x), (.ref y), (.int (0 : Int32)), (.int (0 : Int32)), .null] below meth c n0 Z own_EL "java/lang/String" T491 h493 [x] 4 8 := rb486 _ _ _ _ [x] [] S492 ((Keep.refl _ _).wr W494 (Or.inl (List.mem_of_getElem? (i := 0) rfl))) (allS (List.mem_of_getElem? (i := 0) rfl) all0) all0
  refine own_retVW CW SW496 (by decide +kernel) (by decide) (by decide) ?_
  have f497 : Exa Z h493 x "java/lang/String" := (Exa.wr W494 f490)
  have f498 : Fld Z h493 x "java/lang/String" "value" "[B" (.ref b446) := (Fld.other W494 (Fld.ext E476 f468) (Or.inr (own_sn6 hw)))
  have f499 : Arv Z h493 b446 k447 .byte (0 : Int32) ([]) (.int 0) := (((f453.other W467 (Ne.symm (ne454 x (List.mem_of_getElem? (i := 0) rfl)).2)).ext E476).other W494 (Ne.symm (ne454 x (List.mem_of_getElem? (i := 0) rfl)).2))
  exact ⟨b446, k447, rfl, (((((Keep.refl _ _).ext E449).wr W467 (Or.inl (List.mem_of_getElem? (i := 0) rfl))).ext E476).wr W494 (Or.inl (List.mem_of_getElem? (i := 0) rfl))), f497, f495, f498, f499⟩
theorem own_pd18 : parseMethodDescriptor "([CIILjava/lang/Void;)V" = some ⟨[(.array .char), .int, .int, (.object "java/lang/Void")], none⟩ := by decide +kernel
set_option maxRecDepth 65536 in
set_option maxHeartbeats 40000000 in
theorem own_se1 (l : Launch) (Z : State) (a0 : Array Value) (hw : ∀ d ∈ tables_1, d.before a0 Z = true) (hEL : EW Z a0 own_EL) (wS : ∀ a ∈ Bundle.stringAtoms, a.before a0 Z = true) (x : Addr) (y : Addr) (yk : ClassId) (yvs : List Value) (yd : Value) (h0 : Heap) (n0 : Nat) (z0 : n0 ≤ h0.size) (ge_x : n0 ≤ x) (xE : Exa Z h0 x "java/lang/String") (xV : Fld Z h0 x "java/lang/String" "value" "[B" .null) (xC : Fld Z h0 x "java/lang/String" "coder" "B" (.int (0 : Int32))) (yK : Arv Z h0 y yk .char (0 : Int32) yvs yd) :
    own_MetW l Z own_EL (⟨"java/lang/String", "<init>", "([C)V"⟩ : MethodName) jdk_42_method_3_code 2 none ({ frames := 2, cells := 4, slots := 8, locals := 29 } : Room) n0 #[(.ref x), (.ref y)] h0 [x] (fun v h => ∃ t : Addr, ∃ tk : ClassId, v = none ∧ Keep h0 h [x] ∧ Exa Z h x "java/lang/String" ∧ Fld Z h x "java/lang/String" "coder" "B" (.int (0 : Int32)) ∧ Fld Z h x "java/lang/String" "value" "[B" (.ref t) ∧ Arv Z h t tk .byte (0 : Int32) ([]) (.int 0)) := by
  refine own_metW hEL wS (by decide +kernel) #[.val (.ref x), .val (.ref y)] (fun m => by first | (simp [entryFrame, mkF, argsToLocals, Value.category]; done) | rfl) ?_
  intro p e s m below meth c T0 CW SW0
  refine own_lift CW SW0 ?_
  intro vm500 C S501 rb502
  refine own_seg C S501 [(0, .aload_n 0, 1), (1, .aload_n 1, 1), (2, .iconst 0, 1), (3, .aload_n 1, 1)] (by decide +kernel) 4 #[.val (.ref x), .val (.ref y)] [(.ref y), (.int (0 : Int32)), (.ref y), (.ref x)] rfl ?_
  refine own_alen C S501 yK (by decide +kernel) ?_
  refine own_seg C S501 [(5, .aconst_null, 1)] (by decide +kernel) 6 #[.val (.ref x), .val (.ref y)] [.null, (.int (0 : Int32)), (.int (0 : Int32)), (.ref y), (.ref x)] rfl ?_
  have SW503 : own_SW p l e ({ frames := 2, cells := 4, slots := 8, locals := 29 } : Room) s m #[(.ref x), (.ref y)] below meth c n0 Z own_EL "java/lang/String" T0 h0 [x] 0 0 := rb502 _ _ _ _ [] [] S501 (Keep.refl _ _) all0 all0
  refine own_callIW CW SW503 rfl (own_wd hw 11 rfl) (own_wd hw 12 rfl) (own_wd hw 7 rfl) (own_wd hw 14 rfl) (by decide) (own_se4 l Z a0 hw hEL wS x y h0 n0 z0 ge_x xE xV xC) (allS (List.mem_of_getElem? (i := 0) rfl) all0) 0 (by decide) (by decide) [(.ref y), (.int (0 : Int32)), (.int (0 : Int32)), .null] [] rfl own_pd18 rfl rfl rfl (Nat.le_of_ble_eq_true rfl) (by decide) (by decide) (by decide +kernel) ?_
  rintro T516 h517 v518 SW519 hg520 ⟨a504, k505, rfl, K506, f507, f508, f509, f510⟩
  replace SW519 : own_SW p l e ({ frames := 2, cells := 4, slots := 8, locals := 29 } : Room) s m #[(.ref x), (.ref y)] below meth c n0 Z own_EL "java/lang/String" T516 h517 [x] 4 8 := SW519
  show own_Go p e below _ T516 (mkF m 9 #[.val (.ref x), .val (.ref y)] [])
  refine own_retVW CW SW519 (by decide +kernel) (by decide) (by decide) ?_
  exact ⟨a504, k505, rfl, ((Keep.refl _ _).trans K506 (allS (Or.inl (List.mem_of_getElem? (i := 0) rfl)) all0)), f507, f508, f509, f510⟩
set_option maxRecDepth 65536 in
set_option maxHeartbeats 40000000 in
theorem own_nsn (l : Launch) (Z : State) (a0 : Array Value) (hw : ∀ d ∈ tables_1, d.before a0 Z = true) (a : Addr) (y : Addr) (h0 : Heap) (n0 : Nat) (z0 : n0 ≤ h0.size) (pF : Fld Z h0 a "com/example/nearfar_cache/nearfarcache/Namespace" "name" "Ljava/lang/String;" (.ref y)) :
    own_Met l Z (⟨"com/example/nearfar_cache/nearfarcache/Namespace", "name", "()Ljava/lang/String;"⟩ : MethodName) prog_19_method_5_code 1 (some (.object "java/lang/String")) ({ frames := 0, cells := 0, slots := 0, locals := 0 } : Room) n0 #[(.ref a)] h0 (fun v h => v = some (.ref y) ∧ h = h0) := by
  refine own_met (by decide +kernel) #[.val (.ref a)] (fun m => by first | (simp [entryFrame, mkF, argsToLocals, Value.category]; done) | rfl) ?_
  intro p e s m below meth c T0 C S0
  refine own_seg C S0 [(0, .aload_n 0, 1)] (by decide +kernel) 1 #[.val (.ref a)] [(.ref a)] rfl ?_
  refine own_getF C S0 (host := "") (Or.inl (own_wd hw 111 rfl)) Via.refl pF (by decide +kernel) ?_
  intro T521 S522
  refine own_retA C S522 rfl rfl (by decide +kernel) (by decide) (by decide) ?_
  exact ⟨rfl, rfl⟩
set_option maxRecDepth 65536 in
set_option maxHeartbeats 40000000 in
theorem own_ch (l : Launch) (Z : State) (a0 : Array Value) (hw : ∀ d ∈ tables_1, d.before a0 Z = true) (x : Int32) (h0 : Heap) (n0 : Nat) (z0 : n0 ≤ h0.size) :
    own_Met l Z (⟨"com/example/nearfar_cache/nearfarcache/redis/RedisKeysOfPinLaw", "nameChar", "(I)C"⟩ : MethodName) method_2_code 2 (some .char) ({ frames := 0, cells := 0, slots := 0, locals := 0 } : Room) n0 #[(.int x)] h0 (fun v h => ∃ r : Int32, v = some (.int r) ∧ h = h0 ∧ own_Ch r ∧ ¬ r = (58 : Int32)) := by
  refine own_met (by decide +kernel) #[.val (.int x), .unset] (fun m => by first | (simp [entryFrame, mkF, argsToLocals, Value.category]; done) | rfl) ?_
  intro p e s m below meth c T0 C S0
  refine own_seg C S0 [(0, .iload_n 0, 1), (1, .sipush 255, 3), (4, .iand, 1), (5, .i2c, 1), (6, .istore_n 1, 1), (7, .iload_n 1, 1), (8, .bipush 58, 2)] (by decide +kernel) 10 #[.val (.int x), .val (.int ((x &&& (255 : Int32)).toUInt32.toUInt16.toUInt32.toInt32))] [(.int (58 : Int32)), (.int ((x &&& (255 : Int32)).toUInt32.toUInt16.toUInt32.toInt32))] rfl ?_
  rw [show (x &&& (255 : Int32)).toUInt32.toUInt16.toUInt32.toInt32 = (x &&& (255 : Int32)) from i2c_mask x]
  refine own_icmp C S0 (q := .ne) (o := 6) (by decide +kernel) 16 (by decide) (by decide) (fun (q523 : ¬ (x &&& (255 : Int32)) = (58 : Int32)) => ?_) (fun (q524 : (x &&& (255 : Int32)) = (58 : Int32)) => ?_)
  · refine own_seg C S0 [(16, .iload_n 1, 1)] (by decide +kernel) 17 #[.val (.int x), .val (.int (x &&& (255 : Int32)))] [(.int (x &&& (255 : Int32)))] rfl ?_
    refine own_retC C S0 (by decide +kernel) (i2c_mask x) (by decide) (by decide) ?_
    exact ⟨_, rfl, rfl, own_Ch.of x, q523⟩
  · refine own_seg C S0 [(13, .bipush 59, 2), (15, .istore_n 1, 1), (16, .iload_n 1, 1)] (by decide +kernel) 17 #[.val (.int x), .val (.int (59 : Int32))] [(.int (59 : Int32))] rfl ?_
    refine own_retC C S0 (by decide +kernel) rfl (by decide) (by decide) ?_
    exact ⟨_, rfl, rfl, ⟨by decide, by decide, by decide⟩, by decide⟩
theorem own_pd19 : parseMethodDescriptor "()V" = some ⟨[], none⟩ := by decide +kernel
theorem own_pd20 : parseMethodDescriptor "(Ljava/lang/Object;Ljava/lang/String;)Ljava/lang/Object;" = some ⟨[(.object "java/lang/Object"), (.object "java/lang/String")], (some (.object "java/lang/Object"))⟩ := by decide +kernel
theorem own_hem : ∀ d ∈ StrChars.Road.wordsEmp, d ∈ tables_1 := by decide +kernel
theorem own_pd21 : parseMethodDescriptor "(I)I" = some ⟨[.int], (some .int)⟩ := by decide +kernel
theorem own_heq : ∀ d ∈ StrChars.Road.wordsEq, d ∈ tables_1 := by decide +kernel
theorem own_pd22 : parseMethodDescriptor "(Ljava/lang/Object;)Z" = some ⟨[(.object "java/lang/Object")], (some .boolean)⟩ := by decide +kernel
theorem own_fd3 : parseFieldDescriptor "Ljava/lang/String;" = some (.object "java/lang/String") := by decide +kernel
set_option maxRecDepth 65536 in
set_option maxHeartbeats 40000000 in
theorem own_ns (l : Launch) (Z : State) (a0 : Array Value) (hw : ∀ d ∈ tables_1, d.before a0 Z = true) (hEL : EW Z a0 own_EL) (wS : ∀ a ∈ Bundle.stringAtoms, a.before a0 Z = true) (G1 : Int32) (G3 : Value) (a : Addr) (x : Addr) (xt : Addr) (xk : ClassId) (xN : Int32) (xvs : List Value) (xcs : List Int32) (h0 : Heap) (n0 : Nat) (z0 : n0 ≤ h0.size) (ge_a : n0 ≤ a) (X00 : Old Z n0 h0) (xE : Exa Z h0 x "java/lang/String") (xV : Fld Z h0 x "java/lang/String" "value" "[B" (.ref xt)) (xC : Fld Z h0 x "java/lang/String" "coder" "B" (.int 0)) (xK : Arv Z h0 xt xk .byte xN xvs (.int 0)) (aE : Exa Z h0 a "com/example/nearfar_cache/nearfarcache/Namespace") (aN : Fld Z h0 a "com/example/nearfar_cache/nearfarcache/Namespace" "name" "Ljava/lang/String;" .null) (O2 : Sta Z Z.heap "java/lang/String" "COMPACT_STRINGS" "Z" (.int G1)) (O4 : Sta Z Z.heap "jdk/internal/util/Preconditions" "SIOOBE_FORMATTER" "Ljava/util/function/BiFunction;" G3) (P5 : ¬ G1 = (0 : Int32)) (rG3 : G3.isRef = true) (xcd : StrChars.Road.CodA xcs 0 xN xvs) (xhp : ∀ c ∈ xcs, ¬ c < 0 ∧ ¬ (255 : Int32) < c) (xl2 : xcs.length ≤ 4000) (h0e : ¬ xcs.length = 0) (hne : ∀ c ∈ xcs, ¬ c = (58 : Int32)) (h7 : ¬ xcs = ([110, 101, 97, 114, 102, 97, 114] : List Int32)) :
    own_MetW l Z own_EL (⟨"com/example/nearfar_cache/nearfarcache/Namespace", "<init>", "(Ljava/lang/String;)V"⟩ : MethodName) prog_19_method_1_code 2 none ({ frames := 4, cells := 4, slots := 52, locals := 59 } : Room) n0 #[(.ref a), (.ref x)] h0 [] (fun v h => v = none ∧ Keep h0 h [a] ∧ Exa Z h a "com/example/nearfar_cache/nearfarcache/Namespace" ∧ Fld Z h a "com/example/nearfar_cache/nearfarcache/Namespace" "name" "Ljava/lang/String;" (.ref x)) := by
  refine own_metW hEL wS (by decide +kernel) #[.val (.ref a), .val (.ref x)] (fun m => by first | (simp [entryFrame, mkF, argsToLocals, Value.category]; done) | rfl) ?_
  intro p e s m below meth c T0 CW SW0
  have SW525 : own_SW p l e ({ frames := 4, cells := 4, slots := 52, locals := 59 } : Room) s m #[(.ref a), (.ref x)] below meth c n0 Z own_EL "com/example/nearfar_cache/nearfarcache/Namespace" T0 h0 [a] 0 0 := SW0.addE aE (by decide) (by decide)
  refine own_lift CW SW525 ?_
  intro vm526 C S527 rb528
  refine own_seg C S527 [(0, .aload_n 0, 1)] (by decide +kernel) 1 #[.val (.ref a), .val (.ref x)] [(.ref a)] rfl ?_
  refine own_callI C S527 rfl (own_wd hw 43 rfl) (own_wd hw 44 rfl) (own_wd hw 47 rfl) (by decide) (own_Met.pay (own_rec l Z a0 hw a h0 n0 z0) C 0 (own_wd hw 47 rfl) (own_wd hw 46 rfl) (by decide) (by decide)) (fun _ _ _ q => q.2) [] [] rfl own_pd19 rfl rfl rfl (Nat.le_of_ble_eq_true rfl) (by decide) (by decide) (by decide +kernel) ?_
  rintro T530 h531 v532 L533 S534 ⟨⟨rfl, e529⟩, -⟩
  replace S534 : own_S p l e ({ frames := 4, cells := 4, slots := 52, locals := 59 } : Room) (s.setVm vm526) m #[(.ref a), (.ref x)] below meth c n0 T530 h531 0 0 := S534
  rw [e529] at S534; clear e529
  show own_Go p e below _ T530 (mkF m 4 #[.val (.ref a), .val (.ref x)] [])
  refine own_seg C S534 [(4, .aload_n 1, 1)] (by decide +kernel) 5 #[.val (.ref a), .val (.ref x)] [(.ref x)] rfl ?_
  have SW535 : own_SW p l e ({ frames := 4, cells := 4, slots := 52, locals := 59 } : Room) s m #[(.ref a), (.ref x)] below meth c n0 Z own_EL "com/example/nearfar_cache/nearfarcache/Namespace" T530 h0 [a] 0 0 := rb528 _ _ _ _ [] [] S534 (Keep.refl _ _) all0 all0
  refine own_ldcO CW SW535 (own_wd hw 49 rfl) (by decide +kernel) 16 (by decide) (by decide) (by decide) (by decide) ?_
  intro T536 h537 a538 SW539 E540
  have f541 : n0 ≤ h537.size := (Nat.le_trans z0 E540.1)
  refine own_lift CW SW539 ?_
  intro vm548 C S549 rb550
  refine own_callS C S549 (own_wd hw 50 rfl) (own_wd hw 51 rfl) (own_wd hw 52 rfl) (own_wd hw 53 rfl) (by decide) (own_Met.pay (own_rnn2 l Z a0 hw x a538 h537 n0 f541) C 0 (own_wd hw 53 rfl) (own_wd hw 52 rfl) (by decide) (by decide)) (fun _ _ _ q => q.2) [(.ref x), (.ref a538)] [] rfl own_pd20 rfl rfl rfl (Nat.le_of_ble_eq_true rfl) (by decide) (by decide) (by decide +kernel) ?_
  rintro T543 h544 v545 L546 S547 ⟨⟨rfl, e542⟩, -⟩
  replace S547 : own_S p l e ({ frames := 4, cells := 4, slots := 52, locals := 59 } : Room) (s.setVm vm548) m #[(.ref a), (.ref x)] below meth c n0 T543 h544 2 20 := S547
  rw [e542] at S547; clear e542
  show own_Go p e below _ T543 (mkF m 10 #[.val (.ref a), .val (.ref x)] [(.ref x)])
  refine own_seg C S547 [(10, .pop, 1), (11, .aload_n 1, 1)] (by decide +kernel) 12 #[.val (.ref a), .val (.ref x)] [(.ref x)] rfl ?_
  have f551 : Exa Z h537 x "java/lang/String" := (Exa.ext E540 xE)
  have f552 : Fld Z h537 x "java/lang/String" "value" "[B" (.ref xt) := (Fld.ext E540 xV)
  have f553 : Fld Z h537 x "java/lang/String" "coder" "B" (.int 0) := (Fld.ext E540 xC)
  have f554 : Arv Z h537 xt xk .byte xN xvs (.int 0) := (xK.ext E540)
  refine own_callV C S547 (own_wd hw 54 rfl) (own_wd hw 55 rfl) (own_wd hw 57 rfl) (y' := ⟨"java/lang/String", "isEmpty", "()Z"⟩) rfl (own_wd hw 57 rfl) (own_wd hw 56 rfl) (by decide) (Q := (fun v h' L => v = some (.int (if (xcs).length = 0 then 1 else 0)) ∧ L = [] ∧ h' = h537)) (StrChars.Road.empW (W := 0) C.2.2.2.2.2.2.2 (fun d hd => hw d (own_hem d hd)) (kI := 4) (own_wd hw 6 rfl) f551 f552 f553 f554 xcd (own_up _ xhp) xl2 (by decide) (by decide)) (fun _ _ L q => by rw [q.2.1]; exact Fr.nil _) f551 [] [] rfl own_pd3 rfl rfl rfl (Nat.le_of_ble_eq_true rfl) (by decide) (by decide) (by decide +kernel) ?_
  rintro T556 h557 v558 L559 S560 ⟨rfl, -, e555⟩
  replace S560 : own_S p l e ({ frames := 4, cells := 4, slots := 52, locals := 59 } : Room) (s.setVm vm548) m #[(.ref a), (.ref x)] below meth c n0 T556 h557 2 20 := S560
  rw [e555] at S560; clear e555
  show own_Go p e below _ T556 (mkF m 15 #[.val (.ref a), .val (.ref x)] [(.int (if (xcs).length = 0 then 1 else 0))])
  refine own_if C S560 (q := .eq) (o := 13) (by decide +kernel) 28 (by decide) (by decide) (fun (q561 : (if (xcs).length = 0 then 1 else 0) = (0 : Int32)) => ?_) (fun (hq : ¬ (if (xcs).length = 0 then 1 else 0) = (0 : Int32)) => False.elim (hq (if_neg h0e)))
  refine own_seg C S560 [(28, .aload_n 1, 1), (29, .bipush 58, 2)] (by decide +kernel) 31 #[.val (.ref a), .val (.ref x)] [(.int (58 : Int32)), (.ref x)] rfl ?_
  have f562 : Old Z n0 h537 := (X00.ext E540)
  refine own_callV C S560 (own_wd hw 59 rfl) (own_wd hw 60 rfl) (own_wd hw 62 rfl) (y' := ⟨"java/lang/String", "indexOf", "(I)I"⟩) rfl (own_wd hw 62 rfl) (own_wd hw 61 rfl) (by decide) (own_Met.pay (own_io l Z a0 hw G1 G3 x xt xk xN xvs xcs (58 : Int32) h537 n0 f541 f562 f551 f552 f553 f554 O2 O4 P5 rG3 xcd xhp xl2 (by decide)) C 0 (own_wd hw 63 rfl) (own_wd hw 7 rfl) (by decide) (by decide)) (fun _ _ _ q => q.2) f551 [(.int (58 : Int32))] [] rfl own_pd21 rfl rfl rfl (Nat.le_of_ble_eq_true rfl) (by decide) (by decide) (by decide +kernel) ?_
  rintro T566 h567 v568 L569 S570 ⟨⟨y563, rfl, e564, p565⟩, -⟩
  replace S570 : own_S p l e ({ frames := 4, cells := 4, slots := 52, locals := 59 } : Room) (s.setVm vm548) m #[(.ref a), (.ref x)] below meth c n0 T566 h567 2 20 := S570
  rw [e564] at S570; clear e564
  show own_Go p e below _ T566 (mkF m 34 #[.val (.ref a), .val (.ref x)] [(.int y563)])
  refine own_if C S570 (q := .lt) (o := 30) (by decide +kernel) 64 (by decide) (by decide) (fun (q571 : y563 < (0 : Int32)) => ?_) (fun (hq : ¬ y563 < (0 : Int32)) => False.elim (p565.no hne hq))
  refine own_seg C S570 [(64, .aload_n 1, 1)] (by decide +kernel) 65 #[.val (.ref a), .val (.ref x)] [(.ref x)] rfl ?_
  have SW572 : own_SW p l e ({ frames := 4, cells := 4, slots := 52, locals := 59 } : Room) s m #[(.ref a), (.ref x)] below meth c n0 Z own_EL "com/example/nearfar_cache/nearfarcache/Namespace" T566 h537 [a] 2 20 := rb550 _ _ _ _ [] [] S570 (Keep.refl _ _) all0 all0
  refine own_ldcW CW SW572 (own_wd hw 101 rfl) (List.mem_of_getElem? (i := 1) rfl) (z := (7 : Int32)) (vs := [(.int (110 : Int32)), (.int (101 : Int32)), (.int (97 : Int32)), (.int (114 : Int32)), (.int (102 : Int32)), (.int (97 : Int32)), (.int (114 : Int32))]) ⟨by decide, by decide⟩ (by decide) rfl (by decide +kernel) 28 (by decide) (by decide) (by decide) (by decide) ?_
  intro T573 h574 a575 b576 k577 SW578 E579 x580 f581 f582 f583 ne584
  have hp585 : ∀ c ∈ ([110, 101, 97, 114, 102, 97, 114] : List Int32), ¬ c < 0 ∧ ¬ (255 : Int32) < c := by decide
  have hcd586 : StrChars.Road.CodA ([110, 101, 97, 114, 102, 97, 114] : List Int32) 0 (7 : Int32) [(.int (110 : Int32)), (.int (101 : Int32)), (.int (97 : Int32)), (.int (114 : Int32)), (.int (102 : Int32)), (.int (97 : Int32)), (.int (114 : Int32))] := StrChars.Road.codOf (cs := ([110, 101, 97, 114, 102, 97, 114] : List Int32)) (n := 7) rfl (fun c hc => (hp585 c hc).2)
  refine own_lift CW SW578 ?_
  intro vm587 C S588 rb589
  have f590 : Exa Z h574 x "java/lang/String" := (Exa.ext E579 f551)
  have f591 : Fld Z h574 x "java/lang/String" "value" "[B" (.ref xt) := (Fld.ext E579 f552)
  have f592 : Fld Z h574 x "java/lang/String" "coder" "B" (.int 0) := (Fld.ext E579 f553)
  have f593 : Arv Z h574 xt xk .byte xN xvs (.int 0) := (f554.ext E579)
  have f594 : Old Z n0 h574 := (f562.ext E579)
  refine own_callV C S588 (own_wd hw 102 rfl) (own_wd hw 103 rfl) (own_wd hw 105 rfl) (y' := ⟨"java/lang/String", "equals", "(Ljava/lang/Object;)Z"⟩) rfl (own_wd hw 105 rfl) (own_wd hw 104 rfl) (by decide) (Q := (fun v h' L => ((v = some (.int 1) ∧ xcs = ([110, 101, 97, 114, 102, 97, 114] : List Int32)) ∨ (v = some (.int 0) ∧ ¬ xcs = ([110, 101, 97, 114, 102, 97, 114] : List Int32))) ∧ L = [] ∧ h' = h574)) (StrChars.Road.eqW (W := 0) C.2.2.2.2.2.2.2 (fun d hd => hw d (own_heq d hd)) (kI := 4) (own_wd hw 6 rfl) f590 f591 f592 f593 xcd (own_up _ xhp) xl2 x580 f582 f581 f583 hcd586 (own_up _ hp585) (Nat.le_of_ble_eq_true rfl) (O2.ext f594.2) P5 (by decide) (by decide)) (fun _ _ L q => by rw [q.2.1]; exact Fr.nil _) f590 [(.ref a575)] [] rfl own_pd22 rfl rfl rfl (Nat.le_of_ble_eq_true rfl) (by decide) (by decide) (by decide +kernel) ?_
  rintro T599 h600 v601 L602 S603 ⟨d598, -, e595⟩
  replace S603 : own_S p l e ({ frames := 4, cells := 4, slots := 52, locals := 59 } : Room) (s.setVm vm587) m #[(.ref a), (.ref x)] below meth c n0 T599 h600 4 52 := S603
  rw [e595] at S603; clear e595
  rcases d598 with ⟨rfl, q596⟩ | ⟨rfl, q597⟩
  · exact absurd q596 h7
  · refine own_if C S603 (q := .eq) (o := 13) (by decide +kernel) 83 (by decide) (by decide) (fun (q604 : (0 : Int32) = (0 : Int32)) => ?_) (fun (hq : ¬ (0 : Int32) = (0 : Int32)) => False.elim (hq rfl))
    refine own_seg C S603 [(83, .aload_n 0, 1), (84, .aload_n 1, 1)] (by decide +kernel) 85 #[.val (.ref a), .val (.ref x)] [(.ref x), (.ref a)] rfl ?_
    have f605 : Fld Z h574 a "com/example/nearfar_cache/nearfarcache/Namespace" "name" "Ljava/lang/String;" .null := (Fld.ext E579 (Fld.ext E540 aN))
    have f606 : Exa Z h574 a "com/example/nearfar_cache/nearfarcache/Namespace" := (Exa.ext E579 (Exa.ext E540 aE))
    refine own_putF C S603 (ty := (.object "java/lang/String")) (host := "") (Or.inl (own_wd hw 111 rfl)) Via.refl f605 f606 (Or.inr ⟨(own_wd hw 112 rfl), rfl, rfl⟩) (own_wd hw 38 rfl) own_fd3 rfl rfl ge_a (by decide +kernel) ?_
    intro T607 h609 S608 W610
    have f611 : Fld Z h609 a "com/example/nearfar_cache/nearfarcache/Namespace" "name" "Ljava/lang/String;" (.ref x) := Fld.same W610 f605
    have SW612 : own_SW p l e ({ frames := 4, cells := 4, slots := 52, locals := 59 } : Room) s m #[(.ref a), (.ref x)] below meth c n0 Z own_EL "com/example/nearfar_cache/nearfarcache/Namespace" T607 h609 [a] 4 52 := rb589 _ _ _ _ [a] [] S608 ((Keep.refl _ _).wr W610 (Or.inl (List.mem_of_getElem? (i := 0) rfl))) (allS (List.mem_of_getElem? (i := 0) rfl) all0) all0
    refine own_retVW CW SW612 (by decide +kernel) (by decide) (by decide) ?_
    have f613 : Exa Z h609 a "com/example/nearfar_cache/nearfarcache/Namespace" := (Exa.wr W610 f606)
    exact ⟨rfl, ((((Keep.refl _ _).ext E540).ext E579).wr W610 (Or.inl (List.mem_of_getElem? (i := 0) rfl))), f613, f611⟩
theorem own_pd23 : parseMethodDescriptor "()Ljava/lang/String;" = some ⟨[], (some (.object "java/lang/String"))⟩ := by decide +kernel
theorem own_pd24 : parseMethodDescriptor "(Ljava/lang/String;)Ljava/lang/StringBuilder;" = some ⟨[(.object "java/lang/String")], (some (.object "java/lang/StringBuilder"))⟩ := by decide +kernel
theorem own_pd25 : parseMethodDescriptor "(C)Ljava/lang/StringBuilder;" = some ⟨[.char], (some (.object "java/lang/StringBuilder"))⟩ := by decide +kernel
set_option maxRecDepth 65536 in
set_option maxHeartbeats 40000000 in
theorem own_of10 (l : Launch) (Z : State) (a0 : Array Value) (hw : ∀ d ∈ tables_1, d.before a0 Z = true) (hEL : EW Z a0 own_EL) (wS : ∀ a ∈ Bundle.stringAtoms, a.before a0 Z = true) (G1 : Int32) (G3 : Value) (n : Addr) (x : Addr) (xt : Addr) (xk : ClassId) (x0 : Int32) (y : Addr) (yt : Addr) (yk : ClassId) (h0 : Heap) (n0 : Nat) (z0 : n0 ≤ h0.size) (X00 : Old Z n0 h0) (nE : Exa Z h0 n "com/example/nearfar_cache/nearfarcache/Namespace") (nN : Fld Z h0 n "com/example/nearfar_cache/nearfarcache/Namespace" "name" "Ljava/lang/String;" (.ref x)) (xE : Exa Z h0 x "java/lang/String") (xV : Fld Z h0 x "java/lang/String" "value" "[B" (.ref xt)) (xC : Fld Z h0 x "java/lang/String" "coder" "B" (.int 0)) (xK : Arv Z h0 xt xk .byte (1 : Int32) ([(.int x0.toInt8.toInt32)]) (.int 0)) (yE : Exa Z h0 y "java/lang/String") (yV : Fld Z h0 y "java/lang/String" "value" "[B" (.ref yt)) (yC : Fld Z h0 y "java/lang/String" "coder" "B" (.int 0)) (yK : Arv Z h0 yt yk .byte (0 : Int32) ([]) (.int 0)) (O2 : Sta Z Z.heap "java/lang/String" "COMPACT_STRINGS" "Z" (.int G1)) (O4 : Sta Z Z.heap "jdk/internal/util/Preconditions" "SIOOBE_FORMATTER" "Ljava/util/function/BiFunction;" G3) (P5 : ¬ G1 = (0 : Int32)) (rG3 : G3.isRef = true) (xh0 : ¬ x0 < 0 ∧ ¬ (255 : Int32) < x0) :
    own_MetW l Z own_EL (⟨"com/example/nearfar_cache/nearfarcache/redis/RedisKeys", "of", "(Lcom/example/nearfar_cache/nearfarcache/Namespace;Ljava/lang/String;)Ljava/lang/String;"⟩ : MethodName) prog_26_method_2_code 2 (some (.object "java/lang/String")) ({ frames := 6, cells := 8, slots := 144, locals := 91 } : Room) n0 #[(.ref n), (.ref y)] h0 [] (fun v h => ∃ r : Addr, ∃ rt : Addr, ∃ rk : ClassId, v = some (.ref r) ∧ h0.size ≤ r ∧ h0.size ≤ rt ∧ Keep h0 h [] ∧ Exa Z h r "java/lang/String" ∧ Fld Z h r "java/lang/String" "coder" "B" (.int 0) ∧ Fld Z h r "java/lang/String" "value" "[B" (.ref rt) ∧ Arv Z h rt rk .byte (2 : Int32) ([(.int x0.toInt8.toInt32), (.int (58 : Int32))]) (.int 0)) := by
  refine own_metW hEL wS (by decide +kernel) #[.val (.ref n), .val (.ref y)] (fun m => by first | (simp [entryFrame, mkF, argsToLocals, Value.category]; done) | rfl) ?_
  intro p e s m below meth c T0 CW SW0
  have hp614 : ∀ c ∈ ([x0] : List Int32), ¬ c < 0 ∧ ¬ (255 : Int32) < c := by
    intro c hc; simp only [List.mem_cons, List.not_mem_nil, or_false] at hc
    rcases hc with rfl
    · exact xh0
  have hcd615 : StrChars.Road.CodA ([x0] : List Int32) 0 (1 : Int32) [(.int x0.toInt8.toInt32)] := StrChars.Road.codOf (cs := ([x0] : List Int32)) (n := 1) rfl (fun c hc => (hp614 c hc).2)
  have hp616 : ∀ c ∈ ([] : List Int32), ¬ c < 0 ∧ ¬ (255 : Int32) < c := by
    intro c hc; cases hc
  have hcd617 : StrChars.Road.CodA ([] : List Int32) 0 (0 : Int32) [] := StrChars.Road.codOf (cs := ([] : List Int32)) (n := 0) rfl (fun c hc => (hp616 c hc).2)
  refine own_lift CW SW0 ?_
  intro vm618 C S619 rb620
  refine own_seg C S619 [(0, .aload_n 0, 1)] (by decide +kernel) 1 #[.val (.ref n), .val (.ref y)] [(.ref n)] rfl ?_
  have SW621 : own_SW p l e ({ frames := 6, cells := 8, slots := 144, locals := 91 } : Room) s m #[(.ref n), (.ref y)] below meth c n0 Z own_EL "com/example/nearfar_cache/nearfarcache/redis/RedisKeys" T0 h0 [] 0 0 := rb620 _ _ _ _ [] [] S619 (Keep.refl _ _) all0 all0
  refine own_ldcO CW SW621 (own_wd hw 117 rfl) (by decide +kernel) 36 (by decide) (by decide) (by decide) (by decide) ?_
  intro T622 h623 a624 SW625 E626
  have f627 : n0 ≤ h623.size := (Nat.le_trans z0 E626.1)
  refine own_lift CW SW625 ?_
  intro vm634 C S635 rb636
  refine own_callS C S635 (own_wd hw 118 rfl) (own_wd hw 51 rfl) (own_wd hw 52 rfl) (own_wd hw 53 rfl) (by decide) (own_Met.pay (own_rnn2 l Z a0 hw n a624 h623 n0 f627) C 0 (own_wd hw 53 rfl) (own_wd hw 52 rfl) (by decide) (by decide)) (fun _ _ _ q => q.2) [(.ref n), (.ref a624)] [] rfl own_pd20 rfl rfl rfl (Nat.le_of_ble_eq_true rfl) (by decide) (by decide) (by decide +kernel) ?_
  rintro T629 h630 v631 L632 S633 ⟨⟨rfl, e628⟩, -⟩
  replace S633 : own_S p l e ({ frames := 6, cells := 8, slots := 144, locals := 91 } : Room) (s.setVm vm634) m #[(.ref n), (.ref y)] below meth c n0 T629 h630 2 40 := S633
  rw [e628] at S633; clear e628
  show own_Go p e below _ T629 (mkF m 6 #[.val (.ref n), .val (.ref y)] [(.ref n)])
  refine own_seg C S633 [(6, .pop, 1), (7, .aload_n 1, 1)] (by decide +kernel) 8 #[.val (.ref n), .val (.ref y)] [(.ref y)] rfl ?_
  have SW637 : own_SW p l e ({ frames := 6, cells := 8, slots := 144, locals := 91 } : Room) s m #[(.ref n), (.ref y)] below meth c n0 Z own_EL "com/example/nearfar_cache/nearfarcache/redis/RedisKeys" T629 h623 [] 2 40 := rb636 _ _ _ _ [] [] S633 (Keep.refl _ _) all0 all0
  refine own_ldcO CW SW637 (own_wd hw 119 rfl) (by decide +kernel) 12 (by decide) (by decide) (by decide) (by decide) ?_
  intro T638 h639 a640 SW641 E642
  have f643 : n0 ≤ h639.size := (Nat.le_trans f627 E642.1)
  refine own_lift CW SW641 ?_
  intro vm650 C S651 rb652
  refine own_callS C S651 (own_wd hw 118 rfl) (own_wd hw 51 rfl) (own_wd hw 52 rfl) (own_wd hw 53 rfl) (by decide) (own_Met.pay (own_rnn2 l Z a0 hw y a640 h639 n0 f643) C 0 (own_wd hw 53 rfl) (own_wd hw 52 rfl) (by decide) (by decide)) (fun _ _ _ q => q.2) [(.ref y), (.ref a640)] [] rfl own_pd20 rfl rfl rfl (Nat.le_of_ble_eq_true rfl) (by decide) (by decide) (by decide +kernel) ?_
  rintro T645 h646 v647 L648 S649 ⟨⟨rfl, e644⟩, -⟩
  replace S649 : own_S p l e ({ frames := 6, cells := 8, slots := 144, locals := 91 } : Room) (s.setVm vm650) m #[(.ref n), (.ref y)] below meth c n0 T645 h646 4 56 := S649
  rw [e644] at S649; clear e644
  show own_Go p e below _ T645 (mkF m 13 #[.val (.ref n), .val (.ref y)] [(.ref y)])
  refine own_seg C S649 [(13, .pop, 1)] (by decide +kernel) 14 #[.val (.ref n), .val (.ref y)] [] rfl ?_
  refine own_new C S649 (own_wd hw 120 rfl) (own_wd hw 121 rfl) (own_wd hw 122 rfl) (by decide +kernel) (by decide) (by decide) ?_
  intro T653 h655 a656 S654 g657 E658 x659 D660
  have f661 : Fld Z h655 a656 "java/lang/AbstractStringBuilder" "value" "[B" .null := D660 (ty := (.array .byte)) (Or.inl (own_wd hw 135 rfl)) own_fd0
  have f662 : Fld Z h655 a656 "java/lang/AbstractStringBuilder" "coder" "B" (.int (0 : Int32)) := D660 (ty := .byte) (Or.inl (own_wd hw 137 rfl)) own_fd1
  have f663 : Fld Z h655 a656 "java/lang/AbstractStringBuilder" "count" "I" (.int (0 : Int32)) := D660 (ty := .int) (Or.inl (own_wd hw 155 rfl)) own_fd2
  refine own_seg C S654 [(17, .dup, 1)] (by decide +kernel) 18 #[.val (.ref n), .val (.ref y)] [(.ref a656), (.ref a656)] rfl ?_
  have f664 : Old Z n0 h655 := (((X00.ext E626).ext E642).ext E658)
  have f665 : n0 ≤ h655.size := (Nat.le_trans f643 E658.1)
  have g666 : n0 ≤ a656 := by rw [g657]; exact f643
  refine own_callI C S654 rfl (own_wd hw 123 rfl) (own_wd hw 124 rfl) (own_wd hw 125 rfl) (by decide) (own_Met.pay (own_sbI l Z a0 hw G1 G3 a656 h655 n0 f665 g666 f664 x659 f661 f662 f663 O2 O4 P5 rG3) C 1 (own_wd hw 125 rfl) (own_wd hw 122 rfl) (by decide) (by decide)) (fun _ _ _ q => q.2) [] [(.ref a656)] rfl own_pd19 rfl rfl rfl (Nat.le_of_ble_eq_true rfl) (by decide) (by decide) (by decide +kernel) ?_
  rintro T676 h677 v678 L679 S680 ⟨⟨a667, k668, rfl, g669, K670, f671, f672, f673, f674, f675⟩, -⟩
  replace S680 : own_S p l e ({ frames := 6, cells := 8, slots := 144, locals := 91 } : Room) (s.setVm vm650) m #[(.ref n), (.ref y)] below meth c n0 T676 h677 6 76 := S680
  show own_Go p e below _ T676 (mkF m 21 #[.val (.ref n), .val (.ref y)] [(.ref a656)])
  refine own_seg C S680 [(21, .aload_n 0, 1)] (by decide +kernel) 22 #[.val (.ref n), .val (.ref y)] [(.ref n), (.ref a656)] rfl ?_
  have f681 : n < h639.size := (Nat.lt_of_lt_of_le (Nat.lt_of_lt_of_le nE.lt E626.1) E642.1)
  have n682 : n ≠ a656 := by rw [g657]; exact Nat.ne_of_lt f681
  have f683 : Fld Z h677 n "com/example/nearfar_cache/nearfarcache/Namespace" "name" "Ljava/lang/String;" (.ref x) := ((Fld.ext E658 (Fld.ext E642 (Fld.ext E626 nN))).keep K670 (ninS n682 nin0))
  have f684 : n0 ≤ h677.size := (Nat.le_trans f665 K670.1)
  have f691 : Exa Z h677 n "com/example/nearfar_cache/nearfarcache/Namespace" := ((Exa.ext E658 (Exa.ext E642 (Exa.ext E626 nE))).keep K670)
  refine own_callV C S680 (own_wd hw 138 rfl) (own_wd hw 139 rfl) (own_wd hw 141 rfl) (y' := ⟨"com/example/nearfar_cache/nearfarcache/Namespace", "name", "()Ljava/lang/String;"⟩) rfl (own_wd hw 141 rfl) (own_wd hw 140 rfl) (by decide) (own_Met.pay (own_nsn l Z a0 hw n x h677 n0 f684 f683) C 1 (own_wd hw 142 rfl) (own_wd hw 39 rfl) (by decide) (by decide)) (fun _ _ _ q => q.2) f691 [] [(.ref a656)] rfl own_pd23 rfl rfl rfl (Nat.le_of_ble_eq_true rfl) (by decide) (by decide) (by decide +kernel) ?_
  rintro T686 h687 v688 L689 S690 ⟨⟨rfl, e685⟩, -⟩
  replace S690 : own_S p l e ({ frames := 6, cells := 8, slots := 144, locals := 91 } : Room) (s.setVm vm650) m #[(.ref n), (.ref y)] below meth c n0 T686 h687 6 76 := S690
  rw [e685] at S690; clear e685
  show own_Go p e below _ T686 (mkF m 25 #[.val (.ref n), .val (.ref y)] [(.ref x), (.ref a656)])
  have f692 : Old Z n0 h677 := (f664.keep K670 (allS g666 all0))
  have f693 : Exa Z h677 x "java/lang/String" := ((Exa.ext E658 (Exa.ext E642 (Exa.ext E626 xE))).keep K670)
  have f694 : x < h639.size := (Nat.lt_of_lt_of_le (Nat.lt_of_lt_of_le xE.lt E626.1) E642.1)
  have n695 : x ≠ a656 := by rw [g657]; exact Nat.ne_of_lt f694
  have f696 : Fld Z h677 x "java/lang/String" "value" "[B" (.ref xt) := ((Fld.ext E658 (Fld.ext E642 (Fld.ext E626 xV))).keep K670 (ninS n695 nin0))
  have f697 : Fld Z h677 x "java/lang/String" "coder" "B" (.int 0) := ((Fld.ext E658 (Fld.ext E642 (Fld.ext E626 xC))).keep K670 (ninS n695 nin0))
  have f698 : xt < h639.size := (Nat.lt_of_lt_of_le (Nat.lt_of_lt_of_le xK.lt E626.1) E642.1)
  have n699 : xt ≠ a656 := by rw [g657]; exact Nat.ne_of_lt f698
  have f700 : Arv Z h677 xt xk .byte (1 : Int32) ([(.int x0.toInt8.toInt32)]) (.int 0) := ((((xK.ext E626).ext E642).ext E658).keep K670 (ninS n699 nin0))
  have g701 : n0 ≤ a667 := Nat.le_trans f665 g669
  have f702 : xt < h655.size := (Nat.lt_of_lt_of_le f698 E658.1)
  have n703 : xt ≠ a667 := Nat.ne_of_lt (Nat.lt_of_lt_of_le f702 g669)
  have f704 : x < h655.size := (Nat.lt_of_lt_of_le f694 E658.1)
  have n705 : x ≠ a667 := Nat.ne_of_lt (Nat.lt_of_lt_of_le f704 g669)
  have n706 : a656 ≠ a667 := Nat.ne_of_lt (Nat.lt_of_lt_of_le f661.lt g669)
  refine own_callV C S690 (own_wd hw 143 rfl) (own_wd hw 144 rfl) (own_wd hw 146 rfl) (y' := ⟨"java/lang/StringBuilder", "append", "(Ljava/lang/String;)Ljava/lang/StringBuilder;"⟩) rfl (own_wd hw 146 rfl) (own_wd hw 145 rfl) (by decide) (own_Met.pay (own_sbA l Z a0 hw G1 G3 x xt xk (1 : Int32) ([(.int x0.toInt8.toInt32)]) ([x0] : List Int32) a656 a667 k668 (16 : Int32) ([(.int (0 : Int32)), (.int (0 : Int32)), (.int (0 : Int32)), (.int (0 : Int32)), (.int (0 : Int32)), (.int (0 : Int32)), (.int (0 : Int32)), (.int (0 : Int32)), (.int (0 : Int32)), (.int (0 : Int32)), (.int (0 : Int32)), (.int (0 : Int32)), (.int (0 : Int32)), (.int (0 : Int32)), (.int (0 : Int32)), (.int (0 : Int32))]) (0 : Int32) ([(.int x0.toInt8.toInt32), (.int (0 : Int32)), (.int (0 : Int32)), (.int (0 : Int32)), (.int (0 : Int32)), (.int (0 : Int32)), (.int (0 : Int32)), (.int (0 : Int32)), (.int (0 : Int32)), (.int (0 : Int32)), (.int (0 : Int32)), (.int (0 : Int32)), (.int (0 : Int32)), (.int (0 : Int32)), (.int (0 : Int32)), (.int (0 : Int32))]) h677 n0 f684 g666 g701 f692 f693 f696 f697 f700 f671 f672 f673 f674 f675 n703 n699 n695 n705 (Ne.symm n706) O2 O4 P5 rG3 hcd615 hp614 (Nat.le_of_ble_eq_true rfl) (by decide) (by decide) (by decide) (by decide) (Nat.le_of_ble_eq_true rfl) rfl) C 0 (own_wd hw 147 rfl) (own_wd hw 122 rfl) (by decide) (by decide)) (fun _ _ _ q => q.2) f671 [(.ref x)] [] rfl own_pd24 rfl rfl rfl (Nat.le_of_ble_eq_true rfl) (by decide) (by decide) (by decide +kernel) ?_
  rintro T713 h714 v715 L716 S717 ⟨⟨rfl, K707, f708, f709, f710, f711, f712⟩, -⟩
  replace S717 : own_S p l e ({ frames := 6, cells := 8, slots := 144, locals := 91 } : Room) (s.setVm vm650) m #[(.ref n), (.ref y)] below meth c n0 T713 h714 6 76 := S717
  have f718 : Fld Z h714 a656 "java/lang/AbstractStringBuilder" "count" "I" (.int (1 : Int32)) := f711
  show own_Go p e below _ T713 (mkF m 28 #[.val (.ref n), .val (.ref y)] [(.ref a656)])
  refine own_seg C S717 [(28, .bipush 58, 2)] (by decide +kernel) 30 #[.val (.ref n), .val (.ref y)] [(.int (58 : Int32)), (.ref a656)] rfl ?_
  have f719 : Old Z n0 h714 := (f692.keep K707 (allS g666 (allS g701 all0)))
  have f720 : n0 ≤ h714.size := (Nat.le_trans f684 K707.1)
  refine own_callV C S717 (own_wd hw 181 rfl) (own_wd hw 182 rfl) (own_wd hw 184 rfl) (y' := ⟨"java/lang/StringBuilder", "append", "(C)Ljava/lang/StringBuilder;"⟩) rfl (own_wd hw 184 rfl) (own_wd hw 183 rfl) (by decide) (own_Met.pay (own_sbC l Z a0 hw G1 G3 a656 a667 k668 (16 : Int32) ([(.int x0.toInt8.toInt32), (.int (0 : Int32)), (.int (0 : Int32)), (.int (0 : Int32)), (.int (0 : Int32)), (.int (0 : Int32)), (.int (0 : Int32)), (.int (0 : Int32)), (.int (0 : Int32)), (.int (0 : Int32)), (.int (0 : Int32)), (.int (0 : Int32)), (.int (0 : Int32)), (.int (0 : Int32)), (.int (0 : Int32)), (.int (0 : Int32))]) (1 : Int32) (58 : Int32) ([(.int x0.toInt8.toInt32), (.int (58 : Int32)), (.int (0 : Int32)), (.int (0 : Int32)), (.int (0 : Int32)), (.int (0 : Int32)), (.int (0 : Int32)), (.int (0 : Int32)), (.int (0 : Int32)), (.int (0 : Int32)), (.int (0 : Int32)), (.int (0 : Int32)), (.int (0 : Int32)), (.int (0 : Int32)), (.int (0 : Int32)), (.int (0 : Int32))]) h714 n0 f720 g666 g701 f719 f708 f709 f710 f718 f712 (Ne.symm n706) O2 O4 P5 rG3 (by decide) (by decide) (by decide) (Nat.le_of_ble_eq_true rfl) rfl) C 0 (own_wd hw 185 rfl) (own_wd hw 122 rfl) (by decide) (by decide)) (fun _ _ _ q => q.2) f708 [(.int (58 : Int32))] [] rfl own_pd25 rfl rfl rfl (Nat.le_of_ble_eq_true rfl) (by decide) (by decide) (by decide +kernel) ?_
  rintro T727 h728 v729 L730 S731 ⟨⟨rfl, K721, f722, f723, f724, f725, f726⟩, -⟩
  replace S731 : own_S p l e ({ frames := 6, cells := 8, slots := 144, locals := 91 } : Room) (s.setVm vm650) m #[(.ref n), (.ref y)] below meth c n0 T727 h728 6 76 := S731
  have f732 : Fld Z h728 a656 "java/lang/AbstractStringBuilder" "count" "I" (.int (2 : Int32)) := f725
  show own_Go p e below _ T727 (mkF m 33 #[.val (.ref n), .val (.ref y)] [(.ref a656)])
  refine own_seg C S731 [(33, .aload_n 1, 1)] (by decide +kernel) 34 #[.val (.ref n), .val (.ref y)] [(.ref y), (.ref a656)] rfl ?_
  have f733 : Old Z n0 h728 := (f719.keep K721 (allS g666 (allS g701 all0)))
  have f734 : Exa Z h728 y "java/lang/String" := ((((Exa.ext E658 (Exa.ext E642 (Exa.ext E626 yE))).keep K670).keep K707).keep K721)
  have f735 : y < h639.size := (Nat.lt_of_lt_of_le (Nat.lt_of_lt_of_le yE.lt E626.1) E642.1)
  have n736 : y ≠ a656 := by rw [g657]; exact Nat.ne_of_lt f735
  have f737 : y < h655.size := (Nat.lt_of_lt_of_le f735 E658.1)
  have n738 : y ≠ a667 := Nat.ne_of_lt (Nat.lt_of_lt_of_le f737 g669)
  have f739 : Fld Z h728 y "java/lang/String" "value" "[B" (.ref yt) := ((((Fld.ext E658 (Fld.ext E642 (Fld.ext E626 yV))).keep K670 (ninS n736 nin0)).keep K707 (ninS n736 (ninS n738 nin0))).keep K721 (ninS n736 (ninS n738 nin0)))
  have f740 : Fld Z h728 y "java/lang/String" "coder" "B" (.int 0) := ((((Fld.ext E658 (Fld.ext E642 (Fld.ext E626 yC))).keep K670 (ninS n736 nin0)).keep K707 (ninS n736 (ninS n738 nin0))).keep K721 (ninS n736 (ninS n738 nin0)))
  have f741 : yt < h639.size := (Nat.lt_of_lt_of_le (Nat.lt_of_lt_of_le yK.lt E626.1) E642.1)
  have n742 : yt ≠ a656 := by rw [g657]; exact Nat.ne_of_lt f741
  have f743 : yt < h655.size := (Nat.lt_of_lt_of_le f741 E658.1)
  have n744 : yt ≠ a667 := Nat.ne_of_lt (Nat.lt_of_lt_of_le f743 g669)
  have f745 : Arv Z h728 yt yk .byte (0 : Int32) ([]) (.int 0) := ((((((yK.ext E626).ext E642).ext E658).keep K670 (ninS n742 nin0)).keep K707 (ninS n742 (ninS n744 nin0))).keep K721 (ninS n742 (ninS n744 nin0)))
  have f746 : n0 ≤ h728.size := (Nat.le_trans f720 K721.1)
  refine own_callV C S731 (own_wd hw 143 rfl) (own_wd hw 144 rfl) (own_wd hw 146 rfl) (y' := ⟨"java/lang/StringBuilder", "append", "(Ljava/lang/String;)Ljava/lang/StringBuilder;"⟩) rfl (own_wd hw 146 rfl) (own_wd hw 145 rfl) (by decide) (own_Met.pay (own_sbA l Z a0 hw G1 G3 y yt yk (0 : Int32) ([]) ([] : List Int32) a656 a667 k668 (16 : Int32) ([(.int x0.toInt8.toInt32), (.int (58 : Int32)), (.int (0 : Int32)), (.int (0 : Int32)), (.int (0 : Int32)), (.int (0 : Int32)), (.int (0 : Int32)), (.int (0 : Int32)), (.int (0 : Int32)), (.int (0 : Int32)), (.int (0 : Int32)), (.int (0 : Int32)), (.int (0 : Int32)), (.int (0 : Int32)), (.int (0 : Int32)), (.int (0 : Int32))]) (2 : Int32) ([(.int x0.toInt8.toInt32), (.int (58 : Int32)), (.int (0 : Int32)), (.int (0 : Int32)), (.int (0 : Int32)), (.int (0 : Int32)), (.int (0 : Int32)), (.int (0 : Int32)), (.int (0 : Int32)), (.int (0 : Int32)), (.int (0 : Int32)), (.int (0 : Int32)), (.int (0 : Int32)), (.int (0 : Int32)), (.int (0 : Int32)), (.int (0 : Int32))]) h728 n0 f746 g666 g701 f733 f734 f739 f740 f745 f722 f723 f724 f732 f726 n744 n742 n736 n738 (Ne.symm n706) O2 O4 P5 rG3 hcd617 hp616 (Nat.le_of_ble_eq_true rfl) (by decide) (by decide) (by decide) (by decide) (Nat.le_of_ble_eq_true rfl) rfl) C 0 (own_wd hw 147 rfl) (own_wd hw 122 rfl) (by decide) (by decide)) (fun _ _ _ q => q.2) f722 [(.ref y)] [] rfl own_pd24 rfl rfl rfl (Nat.le_of_ble_eq_true rfl) (by decide) (by decide) (by decide +kernel) ?_
  rintro T753 h754 v755 L756 S757 ⟨⟨rfl, K747, f748, f749, f750, f751, f752⟩, -⟩
  replace S757 : own_S p l e ({ frames := 6, cells := 8, slots := 144, locals := 91 } : Room) (s.setVm vm650) m #[(.ref n), (.ref y)] below meth c n0 T753 h754 6 76 := S757
  have f758 : Fld Z h754 a656 "java/lang/AbstractStringBuilder" "count" "I" (.int (2 : Int32)) := f751
  show own_Go p e below _ T753 (mkF m 37 #[.val (.ref n), .val (.ref y)] [(.ref a656)])
  have f759 : Old Z n0 h754 := (f733.keep K747 (allS g666 (allS g701 all0)))
  have f760 : n0 ≤ h754.size := (Nat.le_trans f746 K747.1)
  refine own_callV C S757 (own_wd hw 198 rfl) (own_wd hw 199 rfl) (own_wd hw 201 rfl) (y' := ⟨"java/lang/StringBuilder", "toString", "()Ljava/lang/String;"⟩) rfl (own_wd hw 201 rfl) (own_wd hw 200 rfl) (by decide) (own_Met.pay (own_ts l Z a0 hw G1 G3 a656 a667 k668 (16 : Int32) ([(.int x0.toInt8.toInt32), (.int (58 : Int32)), (.int (0 : Int32)), (.int (0 : Int32)), (.int (0 : Int32)), (.int (0 : Int32)), (.int (0 : Int32)), (.int (0 : Int32)), (.int (0 : Int32)), (.int (0 : Int32)), (.int (0 : Int32)), (.int (0 : Int32)), (.int (0 : Int32)), (.int (0 : Int32)), (.int (0 : Int32)), (.int (0 : Int32))]) (2 : Int32) ([(.int x0.toInt8.toInt32), (.int (58 : Int32))]) h754 n0 f760 f759 f748 f749 f750 f758 f752 O2 O4 P5 rG3 (by decide) (by decide) (by decide) (by decide) rfl) C 0 (own_wd hw 202 rfl) (own_wd hw 122 rfl) (by decide) (by decide)) (fun _ _ _ q => q.2) f748 [] [] rfl own_pd23 rfl rfl rfl (Nat.le_of_ble_eq_true rfl) (by decide) (by decide) (by decide +kernel) ?_
  rintro T771 h772 v773 L774 S775 ⟨⟨a761, a762, k763, rfl, g764, g765, K766, f767, f768, f769, f770⟩, -⟩
  replace S775 : own_S p l e ({ frames := 6, cells := 8, slots := 144, locals := 91 } : Room) (s.setVm vm650) m #[(.ref n), (.ref y)] below meth c n0 T771 h772 8 144 := S775
  show own_Go p e below _ T771 (mkF m 40 #[.val (.ref n), .val (.ref y)] [(.ref a761)])
  have f776 : a667 < h772.size := (Nat.lt_of_lt_of_le (Nat.lt_of_lt_of_le (Nat.lt_of_lt_of_le (Nat.lt_of_lt_of_le f675.lt K707.1) K721.1) K747.1) K766.1)
  have f777 : a656 < h772.size := (Nat.lt_of_lt_of_le (Nat.lt_of_lt_of_le (Nat.lt_of_lt_of_le (Nat.lt_of_lt_of_le (Nat.lt_of_lt_of_le f661.lt K670.1) K707.1) K721.1) K747.1) K766.1)
  have SW778 : own_SW p l e ({ frames := 6, cells := 8, slots := 144, locals := 91 } : Room) s m #[(.ref n), (.ref y)] below meth c n0 Z own_EL "com/example/nearfar_cache/nearfarcache/redis/RedisKeys" T771 h772 [a656, a667, a761, a762] 8 144 := rb652 _ _ _ _ [] [a656, a667, a761, a762] S775 (((((((Keep.refl _ _).ext E658).trans K670 (allS (Or.inr (by rw [g657]; exact (Nat.le_refl _))) all0)).trans K707 (allS (Or.inr (by rw [g657]; exact (Nat.le_refl _))) (allS (Or.inr (Nat.le_trans (Nat.le_trans (Nat.le_refl _) E658.1) g669)) all0))).trans K721 (allS (Or.inr (by rw [g657]; exact (Nat.le_refl _))) (allS (Or.inr (Nat.le_trans (Nat.le_trans (Nat.le_refl _) E658.1) g669)) all0))).trans K747 (allS (Or.inr (by rw [g657]; exact (Nat.le_refl _))) (allS (Or.inr (Nat.le_trans (Nat.le_trans (Nat.le_refl _) E658.1) g669)) all0))).trans K766 all0) all0 (allS ⟨(by rw [g657]; exact (Nat.le_refl _)), f777⟩ (allS ⟨(Nat.le_trans (Nat.le_trans (Nat.le_refl _) E658.1) g669), f776⟩ (allS ⟨(Nat.le_trans (Nat.le_trans (Nat.le_trans (Nat.le_trans (Nat.le_trans (Nat.le_trans (Nat.le_refl _) E658.1) K670.1) K707.1) K721.1) K747.1) g764), f767.lt⟩ (allS ⟨(Nat.le_trans (Nat.le_trans (Nat.le_trans (Nat.le_trans (Nat.le_trans (Nat.le_trans (Nat.le_refl _) E658.1) K670.1) K707.1) K721.1) K747.1) g765), f770.lt⟩ all0))))
  refine own_retAW CW SW778 rfl rfl (by decide +kernel) (by decide) (by decide) ?_
  exact ⟨a761, a762, k763, rfl, (Nat.le_trans (Nat.le_trans (Nat.le_trans (Nat.le_trans (Nat.le_trans (Nat.le_trans (Nat.le_trans (Nat.le_trans (Nat.le_refl _) E626.1) E642.1) E658.1) K670.1) K707.1) K721.1) K747.1) g764), (Nat.le_trans (Nat.le_trans (Nat.le_trans (Nat.le_trans (Nat.le_trans (Nat.le_trans (Nat.le_trans (Nat.le_trans (Nat.le_refl _) E626.1) E642.1) E658.1) K670.1) K707.1) K721.1) K747.1) g765), (((((((((Keep.refl _ _).ext E626).ext E642).ext E658).trans K670 (allS (Or.inr (by rw [g657]; exact (Nat.le_trans (Nat.le_trans (Nat.le_refl _) E626.1) E642.1))) all0)).trans K707 (allS (Or.inr (by rw [g657]; exact (Nat.le_trans (Nat.le_trans (Nat.le_refl _) E626.1) E642.1))) (allS (Or.inr (Nat.le_trans (Nat.le_trans (Nat.le_trans (Nat.le_trans (Nat.le_refl _) E626.1) E642.1) E658.1) g669)) all0))).trans K721 (allS (Or.inr (by rw [g657]; exact (Nat.le_trans (Nat.le_trans (Nat.le_refl _) E626.1) E642.1))) (allS (Or.inr (Nat.le_trans (Nat.le_trans (Nat.le_trans (Nat.le_trans (Nat.le_refl _) E626.1) E642.1) E658.1) g669)) all0))).trans K747 (allS (Or.inr (by rw [g657]; exact (Nat.le_trans (Nat.le_trans (Nat.le_refl _) E626.1) E642.1))) (allS (Or.inr (Nat.le_trans (Nat.le_trans (Nat.le_trans (Nat.le_trans (Nat.le_refl _) E626.1) E642.1) E658.1) g669)) all0))).trans K766 all0), f767, f768, f769, f770⟩
set_option maxRecDepth 65536 in
set_option maxHeartbeats 40000000 in
theorem own_of11 (l : Launch) (Z : State) (a0 : Array Value) (hw : ∀ d ∈ tables_1, d.before a0 Z = true) (hEL : EW Z a0 own_EL) (wS : ∀ a ∈ Bundle.stringAtoms, a.before a0 Z = true) (G1 : Int32) (G3 : Value) (n : Addr) (x : Addr) (xt : Addr) (xk : ClassId) (x0 : Int32) (y : Addr) (yt : Addr) (yk : ClassId) (y0 : Int32) (h0 : Heap) (n0 : Nat) (z0 : n0 ≤ h0.size) (X00 : Old Z n0 h0) (nE : Exa Z h0 n "com/example/nearfar_cache/nearfarcache/Namespace") (nN : Fld Z h0 n "com/example/nearfar_cache/nearfarcache/Namespace" "name" "Ljava/lang/String;" (.ref x)) (xE : Exa Z h0 x "java/lang/String") (xV : Fld Z h0 x "java/lang/String" "value" "[B" (.ref xt)) (xC : Fld Z h0 x "java/lang/String" "coder" "B" (.int 0)) (xK : Arv Z h0 xt xk .byte (1 : Int32) ([(.int x0.toInt8.toInt32)]) (.int 0)) (yE : Exa Z h0 y "java/lang/String") (yV : Fld Z h0 y "java/lang/String" "value" "[B" (.ref yt)) (yC : Fld Z h0 y "java/lang/String" "coder" "B" (.int 0)) (yK : Arv Z h0 yt yk .byte (1 : Int32) ([(.int y0.toInt8.toInt32)]) (.int 0)) (O2 : Sta Z Z.heap "java/lang/String" "COMPACT_STRINGS" "Z" (.int G1)) (O4 : Sta Z Z.heap "jdk/internal/util/Preconditions" "SIOOBE_FORMATTER" "Ljava/util/function/BiFunction;" G3) (P5 : ¬ G1 = (0 : Int32)) (rG3 : G3.isRef = true) (xh0 : ¬ x0 < 0 ∧ ¬ (255 : Int32) < x0) (yh0 : ¬ y0 < 0 ∧ ¬ (255 : Int32) < y0) :
    own_MetW l Z own_EL (⟨"com/example/nearfar_cache/nearfarcache/redis/RedisKeys", "of", "(Lcom/example/nearfar_cache/nearfarcache/Namespace;Ljava/lang/String;)Ljava/lang/String;"⟩ : MethodName) prog_26_method_2_code 2 (some (.object "java/lang/String")) ({ frames := 6, cells := 8, slots := 144, locals := 91 } : Room) n0 #[(.ref n), (.ref y)] h0 [] (fun v h => ∃ r : Addr, ∃ rt : Addr, ∃ rk : ClassId, v = some (.ref r) ∧ h0.size ≤ r ∧ h0.size ≤ rt ∧ Keep h0 h [] ∧ Exa Z h r "java/lang/String" ∧ Fld Z h r "java/lang/String" "coder" "B" (.int 0) ∧ Fld Z h r "java/lang/String" "value" "[B" (.ref rt) ∧ Arv Z h rt rk .byte (3 : Int32) ([(.int x0.toInt8.toInt32), (.int (58 : Int32)), (.int y0.toInt8.toInt32)]) (.int 0)) := by
  refine own_metW hEL wS (by decide +kernel) #[.val (.ref n), .val (.ref y)] (fun m => by first | (simp [entryFrame, mkF, argsToLocals, Value.category]; done) | rfl) ?_
  intro p e s m below meth c T0 CW SW0
  have hp779 : ∀ c ∈ ([x0] : List Int32), ¬ c < 0 ∧ ¬ (255 : Int32) < c := by
    intro c hc; simp only [List.mem_cons, List.not_mem_nil, or_false] at hc
    rcases hc with rfl
    · exact xh0
  have hcd780 : StrChars.Road.CodA ([x0] : List Int32) 0 (1 : Int32) [(.int x0.toInt8.toInt32)] := StrChars.Road.codOf (cs := ([x0] : List Int32)) (n := 1) rfl (fun c hc => (hp779 c hc).2)
  have hp781 : ∀ c ∈ ([y0] : List Int32), ¬ c < 0 ∧ ¬ (255 : Int32) < c := by
    intro c hc; simp only [List.mem_cons, List.not_mem_nil, or_false] at hc
    rcases hc with rfl
    · exact yh0
  have hcd782 : StrChars.Road.CodA ([y0] : List Int32) 0 (1 : Int32) [(.int y0.toInt8.toInt32)] := StrChars.Road.codOf (cs := ([y0] : List Int32)) (n := 1) rfl (fun c hc => (hp781 c hc).2)
  refine own_lift CW SW0 ?_
  intro vm783 C S784 rb785
  refine own_seg C S784 [(0, .aload_n 0, 1)] (by decide +kernel) 1 #[.val (.ref n), .val (.ref y)] [(.ref n)] rfl ?_
  have SW786 : own_SW p l e ({ frames := 6, cells := 8, slots := 144, locals := 91 } : Room) s m #[(.ref n), (.ref y)] below meth c n0 Z own_EL "com/example/nearfar_cache/nearfarcache/redis/RedisKeys" T0 h0 [] 0 0 := rb785 _ _ _ _ [] [] S784 (Keep.refl _ _) all0 all0
  refine own_ldcO CW SW786 (own_wd hw 117 rfl) (by decide +kernel) 36 (by decide) (by decide) (by decide) (by decide) ?_
  intro T787 h788 a789 SW790 E791
  have f792 : n0 ≤ h788.size := (Nat.le_trans z0 E791.1)
  refine own_lift CW SW790 ?_
  intro vm799 C S800 rb801
  refine own_callS C S800 (own_wd hw 118 rfl) (own_wd hw 51 rfl) (own_wd hw 52 rfl) (own_wd hw 53 rfl) (by decide) (own_Met.pay (own_rnn2 l Z a0 hw n a789 h788 n0 f792) C 0 (own_wd hw 53 rfl) (own_wd hw 52 rfl) (by decide) (by decide)) (fun _ _ _ q => q.2) [(.ref n), (.ref a789)] [] rfl own_pd20 rfl rfl rfl (Nat.le_of_ble_eq_true rfl) (by decide) (by decide) (by decide +kernel) ?_
  rintro T794 h795 v796 L797 S798 ⟨⟨rfl, e793⟩, -⟩
  replace S798 : own_S p l e ({ frames := 6, cells := 8, slots := 144, locals := 91 } : Room) (s.setVm vm799) m #[(.ref n), (.ref y)] below meth c n0 T794 h795 2 40 := S798
  rw [e793] at S798; clear e793
  show own_Go p e below _ T794 (mkF m 6 #[.val (.ref n), .val (.ref y)] [(.ref n)])
  refine own_seg C S798 [(6, .pop, 1), (7, .aload_n 1, 1)] (by decide +kernel) 8 #[.val (.ref n), .val (.ref y)] [(.ref y)] rfl ?_
  have SW802 : own_SW p l e ({ frames := 6, cells := 8, slots := 144, locals := 91 } : Room) s m #[(.ref n), (.ref y)] below meth c n0 Z own_EL "com/example/nearfar_cache/nearfarcache/redis/RedisKeys" T794 h788 [] 2 40 := rb801 _ _ _ _ [] [] S798 (Keep.refl _ _) all0 all0
  refine own_ldcO CW SW802 (own_wd hw 119 rfl) (by decide +kernel) 12 (by decide) (by decide) (by decide) (by decide) ?_
  intro T803 h804 a805 SW806 E807
  have f808 : n0 ≤ h804.size := (Nat.le_trans f792 E807.1)
  refine own_lift CW SW806 ?_
  intro vm815 C S816 rb817
  refine own_callS C S816 (own_wd hw 118 rfl) (own_wd hw 51 rfl) (own_wd hw 52 rfl) (own_wd hw 53 rfl) (by decide) (own_Met.pay (own_rnn2 l Z a0 hw y a805 h804 n0 f808) C 0 (own_wd hw 53 rfl) (own_wd hw 52 rfl) (by decide) (by decide)) (fun _ _ _ q => q.2) [(.ref y), (.ref a805)] [] rfl own_pd20 rfl rfl rfl (Nat.le_of_ble_eq_true rfl) (by decide) (by decide) (by decide +kernel) ?_
  rintro T810 h811 v812 L813 S814 ⟨⟨rfl, e809⟩, -⟩
  replace S814 : own_S p l e ({ frames := 6, cells := 8, slots := 144, locals := 91 } : Room) (s.setVm vm815) m #[(.ref n), (.ref y)] below meth c n0 T810 h811 4 56 := S814
  rw [e809] at S814; clear e809
  show own_Go p e below _ T810 (mkF m 13 #[.val (.ref n), .val (.ref y)] [(.ref y)])
  refine own_seg C S814 [(13, .pop, 1)] (by decide +kernel) 14 #[.val (.ref n), .val (.ref y)] [] rfl ?_
  refine own_new C S814 (own_wd hw 120 rfl) (own_wd hw 121 rfl) (own_wd hw 122 rfl) (by decide +kernel) (by decide) (by decide) ?_
  intro T818 h820 a821 S819 g822 E823 x824 D825
  have f826 : Fld Z h820 a821 "java/lang/AbstractStringBuilder" "value" "[B" .null := D825 (ty := (.array .byte)) (Or.inl (own_wd hw 135 rfl)) own_fd0
  have f827 : Fld Z h820 a821 "java/lang/AbstractStringBuilder" "coder" "B" (.int (0 : Int32)) := D825 (ty := .byte) (Or.inl (own_wd hw 137 rfl)) own_fd1
  have f828 : Fld Z h820 a821 "java/lang/AbstractStringBuilder" "count" "I" (.int (0 : Int32)) := D825 (ty := .int) (Or.inl (own_wd hw 155 rfl)) own_fd2
  refine own_seg C S819 [(17, .dup, 1)] (by decide +kernel) 18 #[.val (.ref n), .val (.ref y)] [(.ref a821), (.ref a821)] rfl ?_
  have f829 : Old Z n0 h820 := (((X00.ext E791).ext E807).ext E823)
  have f830 : n0 ≤ h820.size := (Nat.le_trans f808 E823.1)
  have g831 : n0 ≤ a821 := by rw [g822]; exact f808
  refine own_callI C S819 rfl (own_wd hw 123 rfl) (own_wd hw 124 rfl) (own_wd hw 125 rfl) (by decide) (own_Met.pay (own_sbI l Z a0 hw G1 G3 a821 h820 n0 f830 g831 f829 x824 f826 f827 f828 O2 O4 P5 rG3) C 1 (own_wd hw 125 rfl) (own_wd hw 122 rfl) (by decide) (by decide)) (fun _ _ _ q => q.2) [] [(.ref a821)] rfl own_pd19 rfl rfl rfl (Nat.le_of_ble_eq_true rfl) (by decide) (by decide) (by decide +kernel) ?_
  rintro T841 h842 v843 L844 S845 ⟨⟨a832, k833, rfl, g834, K835, f836, f837, f838, f839, f840⟩, -⟩
  replace S845 : own_S p l e ({ frames := 6, cells := 8, slots := 144, locals := 91 } : Room) (s.setVm vm815) m #[(.ref n), (.ref y)] below meth c n0 T841 h842 6 76 := S845
  show own_Go p e below _ T841 (mkF m 21 #[.val (.ref n), .val (.ref y)] [(.ref a821)])
  refine own_seg C S845 [(21, .aload_n 0, 1)] (by decide +kernel) 22 #[.val (.ref n), .val (.ref y)] [(.ref n), (.ref a821)] rfl ?_
  have f846 : n < h804.size := (Nat.lt_of_lt_of_le (Nat.lt_of_lt_of_le nE.lt E791.1) E807.1)
  have n847 : n ≠ a821 := by rw [g822]; exact Nat.ne_of_lt f846
  have f848 : Fld Z h842 n "com/example/nearfar_cache/nearfarcache/Namespace" "name" "Ljava/lang/String;" (.ref x) := ((Fld.ext E823 (Fld.ext E807 (Fld.ext E791 nN))).keep K835 (ninS n847 nin0))
  have f849 : n0 ≤ h842.size := (Nat.le_trans f830 K835.1)
  have f856 : Exa Z h842 n "com/example/nearfar_cache/nearfarcache/Namespace" := ((Exa.ext E823 (Exa.ext E807 (Exa.ext E791 nE))).keep K835)
  refine own_callV C S845 (own_wd hw 138 rfl) (own_wd hw 139 rfl) (own_wd hw 141 rfl) (y' := ⟨"com/example/nearfar_cache/nearfarcache/Namespace", "name", "()Ljava/lang/String;"⟩) rfl (own_wd hw 141 rfl) (own_wd hw 140 rfl) (by decide) (own_Met.pay (own_nsn l Z a0 hw n x h842 n0 f849 f848) C 1 (own_wd hw 142 rfl) (own_wd hw 39 rfl) (by decide) (by decide)) (fun _ _ _ q => q.2) f856 [] [(.ref a821)] rfl own_pd23 rfl rfl rfl (Nat.le_of_ble_eq_true rfl) (by decide) (by decide) (by decide +kernel) ?_
  rintro T851 h852 v853 L854 S855 ⟨⟨rfl, e850⟩, -⟩
  replace S855 : own_S p l e ({ frames := 6, cells := 8, slots := 144, locals := 91 } : Room) (s.setVm vm815) m #[(.ref n), (.ref y)] below meth c n0 T851 h852 6 76 := S855
  rw [e850] at S855; clear e850
  show own_Go p e below _ T851 (mkF m 25 #[.val (.ref n), .val (.ref y)] [(.ref x), (.ref a821)])
  have f857 : Old Z n0 h842 := (f829.keep K835 (allS g831 all0))
  have f858 : Exa Z h842 x "java/lang/String" := ((Exa.ext E823 (Exa.ext E807 (Exa.ext E791 xE))).keep K835)
  have f859 : x < h804.size := (Nat.lt_of_lt_of_le (Nat.lt_of_lt_of_le xE.lt E791.1) E807.1)
  have n860 : x ≠ a821 := by rw [g822]; exact Nat.ne_of_lt f859
  have f861 : Fld Z h842 x "java/lang/String" "value" "[B" (.ref xt) := ((Fld.ext E823 (Fld.ext E807 (Fld.ext E791 xV))).keep K835 (ninS n860 nin0))
  have f862 : Fld Z h842 x "java/lang/String" "coder" "B" (.int 0) := ((Fld.ext E823 (Fld.ext E807 (Fld.ext E791 xC))).keep K835 (ninS n860 nin0))
  have f863 : xt < h804.size := (Nat.lt_of_lt_of_le (Nat.lt_of_lt_of_le xK.lt E791.1) E807.1)
  have n864 : xt ≠ a821 := by rw [g822]; exact Nat.ne_of_lt f863
  have f865 : Arv Z h842 xt xk .byte (1 : Int32) ([(.int x0.toInt8.toInt32)]) (.int 0) := ((((xK.ext E791).ext E807).ext E823).keep K835 (ninS n864 nin0))
  have g866 : n0 ≤ a832 := Nat.le_trans f830 g834
  have f867 : xt < h820.size := (Nat.lt_of_lt_of_le f863 E823.1)
  have n868 : xt ≠ a832 := Nat.ne_of_lt (Nat.lt_of_lt_of_le f867 g834)
  have f869 : x < h820.size := (Nat.lt_of_lt_of_le f859 E823.1)
  have n870 : x ≠ a832 := Nat.ne_of_lt (Nat.lt_of_lt_of_le f869 g834)
  have n871 : a821 ≠ a832 := Nat.ne_of_lt (Nat.lt_of_lt_of_le f826.lt g834)
  refine own_callV C S855 (own_wd hw 143 rfl) (own_wd hw 144 rfl) (own_wd hw 146 rfl) (y' := ⟨"java/lang/StringBuilder", "append", "(Ljava/lang/String;)Ljava/lang/StringBuilder;"⟩) rfl (own_wd hw 146 rfl) (own_wd hw 145 rfl) (by decide) (own_Met.pay (own_sbA l Z a0 hw G1 G3 x xt xk (1 : Int32) ([(.int x0.toInt8.toInt32)]) ([x0] : List Int32) a821 a832 k833 (16 : Int32) ([(.int (0 : Int32)), (.int (0 : Int32)), (.int (0 : Int32)), (.int (0 : Int32)), (.int (0 : Int32)), (.int (0 : Int32)), (.int (0 : Int32)), (.int (0 : Int32)), (.int (0 : Int32)), (.int (0 : Int32)), (.int (0 : Int32)), (.int (0 : Int32)), (.int (0 : Int32)), (.int (0 : Int32)), (.int (0 : Int32)), (.int (0 : Int32))]) (0 : Int32) ([(.int x0.toInt8.toInt32), (.int (0 : Int32)), (.int (0 : Int32)), (.int (0 : Int32)), (.int (0 : Int32)), (.int (0 : Int32)), (.int (0 : Int32)), (.int (0 : Int32)), (.int (0 : Int32)), (.int (0 : Int32)), (.int (0 : Int32)), (.int (0 : Int32)), (.int (0 : Int32)), (.int (0 : Int32)), (.int (0 : Int32)), (.int (0 : Int32))]) h842 n0 f849 g831 g866 f857 f858 f861 f862 f865 f836 f837 f838 f839 f840 n868 n864 n860 n870 (Ne.symm n871) O2 O4 P5 rG3 hcd780 hp779 (Nat.le_of_ble_eq_true rfl) (by decide) (by decide) (by decide) (by decide) (Nat.le_of_ble_eq_true rfl) rfl) C 0 (own_wd hw 147 rfl) (own_wd hw 122 rfl) (by decide) (by decide)) (fun _ _ _ q => q.2) f836 [(.ref x)] [] rfl own_pd24 rfl rfl rfl (Nat.le_of_ble_eq_true rfl) (by decide) (by decide) (by decide +kernel) ?_
  rintro T878 h879 v880 L881 S882 ⟨⟨rfl, K872, f873, f874, f875, f876, f877⟩, -⟩
  replace S882 : own_S p l e ({ frames := 6, cells := 8, slots := 144, locals := 91 } : Room) (s.setVm vm815) m #[(.ref n), (.ref y)] below meth c n0 T878 h879 6 76 := S882
  have f883 : Fld Z h879 a821 "java/lang/AbstractStringBuilder" "count" "I" (.int (1 : Int32)) := f876
  show own_Go p e below _ T878 (mkF m 28 #[.val (.ref n), .val (.ref y)] [(.ref a821)])
  refine own_seg C S882 [(28, .bipush 58, 2)] (by decide +kernel) 30 #[.val (.ref n), .val (.ref y)] [(.int (58 : Int32)), (.ref a821)] rfl ?_
  have f884 : Old Z n0 h879 := (f857.keep K872 (allS g831 (allS g866 all0)))
  have f885 : n0 ≤ h879.size := (Nat.le_trans f849 K872.1)
  refine own_callV C S882 (own_wd hw 181 rfl) (own_wd hw 182 rfl) (own_wd hw 184 rfl) (y' := ⟨"java/lang/StringBuilder", "append", "(C)Ljava/lang/StringBuilder;"⟩) rfl (own_wd hw 184 rfl) (own_wd hw 183 rfl) (by decide) (own_Met.pay (own_sbC l Z a0 hw G1 G3 a821 a832 k833 (16 : Int32) ([(.int x0.toInt8.toInt32), (.int (0 : Int32)), (.int (0 : Int32)), (.int (0 : Int32)), (.int (0 : Int32)), (.int (0 : Int32)), (.int (0 : Int32)), (.int (0 : Int32)), (.int (0 : Int32)), (.int (0 : Int32)), (.int (0 : Int32)), (.int (0 : Int32)), (.int (0 : Int32)), (.int (0 : Int32)), (.int (0 : Int32)), (.int (0 : Int32))]) (1 : Int32) (58 : Int32) ([(.int x0.toInt8.toInt32), (.int (58 : Int32)), (.int (0 : Int32)), (.int (0 : Int32)), (.int (0 : Int32)), (.int (0 : Int32)), (.int (0 : Int32)), (.int (0 : Int32)), (.int (0 : Int32)), (.int (0 : Int32)), (.int (0 : Int32)), (.int (0 : Int32)), (.int (0 : Int32)), (.int (0 : Int32)), (.int (0 : Int32)), (.int (0 : Int32))]) h879 n0 f885 g831 g866 f884 f873 f874 f875 f883 f877 (Ne.symm n871) O2 O4 P5 rG3 (by decide) (by decide) (by decide) (Nat.le_of_ble_eq_true rfl) rfl) C 0 (own_wd hw 185 rfl) (own_wd hw 122 rfl) (by decide) (by decide)) (fun _ _ _ q => q.2) f873 [(.int (58 : Int32))] [] rfl own_pd25 rfl rfl rfl (Nat.le_of_ble_eq_true rfl) (by decide) (by decide) (by decide +kernel) ?_
  rintro T892 h893 v894 L895 S896 ⟨⟨rfl, K886, f887, f888, f889, f890, f891⟩, -⟩
  replace S896 : own_S p l e ({ frames := 6, cells := 8, slots := 144, locals := 91 } : Room) (s.setVm vm815) m #[(.ref n), (.ref y)] below meth c n0 T892 h893 6 76 := S896
  have f897 : Fld Z h893 a821 "java/lang/AbstractStringBuilder" "count" "I" (.int (2 : Int32)) := f890
  show own_Go p e below _ T892 (mkF m 33 #[.val (.ref n), .val (.ref y)] [(.ref a821)])
  refine own_seg C S896 [(33, .aload_n 1, 1)] (by decide +kernel) 34 #[.val (.ref n), .val (.ref y)] [(.ref y), (.ref a821)] rfl ?_
  have f898 : Old Z n0 h893 := (f884.keep K886 (allS g831 (allS g866 all0)))
  have f899 : Exa Z h893 y "java/lang/String" := ((((Exa.ext E823 (Exa.ext E807 (Exa.ext E791 yE))).keep K835).keep K872).keep K886)
  have f900 : y < h804.size := (Nat.lt_of_lt_of_le (Nat.lt_of_lt_of_le yE.lt E791.1) E807.1)
  have n901 : y ≠ a821 := by rw [g822]; exact Nat.ne_of_lt f900
  have f902 : y < h820.size := (Nat.lt_of_lt_of_le f900 E823.1)
  have n903 : y ≠ a832 := Nat.ne_of_lt (Nat.lt_of_lt_of_le f902 g834)
  have f904 : Fld Z h893 y "java/lang/String" "value" "[B" (.ref yt) := ((((Fld.ext E823 (Fld.ext E807 (Fld.ext E791 yV))).keep K835 (ninS n901 nin0)).keep K872 (ninS n901 (ninS n903 nin0))).keep K886 (ninS n901 (ninS n903 nin0)))
  have f905 : Fld Z h893 y "java/lang/String" "coder" "B" (.int 0) := ((((Fld.ext E823 (Fld.ext E807 (Fld.ext E791 yC))).keep K835 (ninS n901 nin0)).keep K872 (ninS n901 (ninS n903 nin0))).keep K886 (ninS n901 (ninS n903 nin0)))
  have f906 : yt < h804.size := (Nat.lt_of_lt_of_le (Nat.lt_of_lt_of_le yK.lt E791.1) E807.1)
  have n907 : yt ≠ a821 := by rw [g822]; exact Nat.ne_of_lt f906
  have f908 : yt < h820.size := (Nat.lt_of_lt_of_le f906 E823.1)
  have n909 : yt ≠ a832 := Nat.ne_of_lt (Nat.lt_of_lt_of_le f908 g834)
  have f910 : Arv Z h893 yt yk .byte (1 : Int32) ([(.int y0.toInt8.toInt32)]) (.int 0) := ((((((yK.ext E791).ext E807).ext E823).keep K835 (ninS n907 nin0)).keep K872 (ninS n907 (ninS n909 nin0))).keep K886 (ninS n907 (ninS n909 nin0)))
  have f911 : n0 ≤ h893.size := (Nat.le_trans f885 K886.1)
  refine own_callV C S896 (own_wd hw 143 rfl) (own_wd hw 144 rfl) (own_wd hw 146 rfl) (y' := ⟨"java/lang/StringBuilder", "append", "(Ljava/lang/String;)Ljava/lang/StringBuilder;"⟩) rfl (own_wd hw 146 rfl) (own_wd hw 145 rfl) (by decide) (own_Met.pay (own_sbA l Z a0 hw G1 G3 y yt yk (1 : Int32) ([(.int y0.toInt8.toInt32)]) ([y0] : List Int32) a821 a832 k833 (16 : Int32) ([(.int x0.toInt8.toInt32), (.int (58 : Int32)), (.int (0 : Int32)), (.int (0 : Int32)), (.int (0 : Int32)), (.int (0 : Int32)), (.int (0 : Int32)), (.int (0 : Int32)), (.int (0 : Int32)), (.int (0 : Int32)), (.int (0 : Int32)), (.int (0 : Int32)), (.int (0 : Int32)), (.int (0 : Int32)), (.int (0 : Int32)), (.int (0 : Int32))]) (2 : Int32) ([(.int x0.toInt8.toInt32), (.int (58 : Int32)), (.int y0.toInt8.toInt32), (.int (0 : Int32)), (.int (0 : Int32)), (.int (0 : Int32)), (.int (0 : Int32)), (.int (0 : Int32)), (.int (0 : Int32)), (.int (0 : Int32)), (.int (0 : Int32)), (.int (0 : Int32)), (.int (0 : Int32)), (.int (0 : Int32)), (.int (0 : Int32)), (.int (0 : Int32))]) h893 n0 f911 g831 g866 f898 f899 f904 f905 f910 f887 f888 f889 f897 f891 n909 n907 n901 n903 (Ne.symm n871) O2 O4 P5 rG3 hcd782 hp781 (Nat.le_of_ble_eq_true rfl) (by decide) (by decide) (by decide) (by decide) (Nat.le_of_ble_eq_true rfl) rfl) C 0 (own_wd hw 147 rfl) (own_wd hw 122 rfl) (by decide) (by decide)) (fun _ _ _ q => q.2) f887 [(.ref y)] [] rfl own_pd24 rfl rfl rfl (Nat.le_of_ble_eq_true rfl) (by decide) (by decide) (by decide +kernel) ?_
  rintro T918 h919 v920 L921 S922 ⟨⟨rfl, K912, f913, f914, f915, f916, f917⟩, -⟩
  replace S922 : own_S p l e ({ frames := 6, cells := 8, slots := 144, locals := 91 } : Room) (s.setVm vm815) m #[(.ref n), (.ref y)] below meth c n0 T918 h919 6 76 := S922
  have f923 : Fld Z h919 a821 "java/lang/AbstractStringBuilder" "count" "I" (.int (3 : Int32)) := f916
  show own_Go p e below _ T918 (mkF m 37 #[.val (.ref n), .val (.ref y)] [(.ref a821)])
  have f924 : Old Z n0 h919 := (f898.keep K912 (allS g831 (allS g866 all0)))
  have f925 : n0 ≤ h919.size := (Nat.le_trans f911 K912.1)
  refine own_callV C S922 (own_wd hw 198 rfl) (own_wd hw 199 rfl) (own_wd hw 201 rfl) (y' := ⟨"java/lang/StringBuilder", "toString", "()Ljava/lang/String;"⟩) rfl (own_wd hw 201 rfl) (own_wd hw 200 rfl) (by decide) (own_Met.pay (own_ts l Z a0 hw G1 G3 a821 a832 k833 (16 : Int32) ([(.int x0.toInt8.toInt32), (.int (58 : Int32)), (.int y0.toInt8.toInt32), (.int (0 : Int32)), (.int (0 : Int32)), (.int (0 : Int32)), (.int (0 : Int32)), (.int (0 : Int32)), (.int (0 : Int32)), (.int (0 : Int32)), (.int (0 : Int32)), (.int (0 : Int32)), (.int (0 : Int32)), (.int (0 : Int32)), (.int (0 : Int32)), (.int (0 : Int32))]) (3 : Int32) ([(.int x0.toInt8.toInt32), (.int (58 : Int32)), (.int y0.toInt8.toInt32)]) h919 n0 f925 f924 f913 f914 f915 f923 f917 O2 O4 P5 rG3 (by decide) (by decide) (by decide) (by decide) rfl) C 0 (own_wd hw 202 rfl) (own_wd hw 122 rfl) (by decide) (by decide)) (fun _ _ _ q => q.2) f913 [] [] rfl own_pd23 rfl rfl rfl (Nat.le_of_ble_eq_true rfl) (by decide) (by decide) (by decide +kernel) ?_
  rintro T936 h937 v938 L939 S940 ⟨⟨a926, a927, k928, rfl, g929, g930, K931, f932, f933, f934, f935⟩, -⟩
  replace S940 : own_S p l e ({ frames := 6, cells := 8, slots := 144, locals := 91 } : Room) (s.setVm vm815) m #[(.ref n), (.ref y)] below meth c n0 T936 h937 8 144 := S940
  show own_Go p e below _ T936 (mkF m 40 #[.val (.ref n), .val (.ref y)] [(.ref a926)])
  have f941 : a832 < h937.size := (Nat.lt_of_lt_of_le (Nat.lt_of_lt_of_le (Nat.lt_of_lt_of_le (Nat.lt_of_lt_of_le f840.lt K872.1) K886.1) K912.1) K931.1)
  have f942 : a821 < h937.size := (Nat.lt_of_lt_of_le (Nat.lt_of_lt_of_le (Nat.lt_of_lt_of_le (Nat.lt_of_lt_of_le (Nat.lt_of_lt_of_le f826.lt K835.1) K872.1) K886.1) K912.1) K931.1)
  have SW943 : own_SW p l e ({ frames := 6, cells := 8, slots := 144, locals := 91 } : Room) s m #[(.ref n), (.ref y)] below meth c n0 Z own_EL "com/example/nearfar_cache/nearfarcache/redis/RedisKeys" T936 h937 [a821, a832, a926, a927] 8 144 := rb817 _ _ _ _ [] [a821, a832, a926, a927] S940 (((((((Keep.refl _ _).ext E823).trans K835 (allS (Or.inr (by rw [g822]; exact (Nat.le_refl _))) all0)).trans K872 (allS (Or.inr (by rw [g822]; exact (Nat.le_refl _))) (allS (Or.inr (Nat.le_trans (Nat.le_trans (Nat.le_refl _) E823.1) g834)) all0))).trans K886 (allS (Or.inr (by rw [g822]; exact (Nat.le_refl _))) (allS (Or.inr (Nat.le_trans (Nat.le_trans (Nat.le_refl _) E823.1) g834)) all0))).trans K912 (allS (Or.inr (by rw [g822]; exact (Nat.le_refl _))) (allS (Or.inr (Nat.le_trans (Nat.le_trans (Nat.le_refl _) E823.1) g834)) all0))).trans K931 all0) all0 (allS ⟨(by rw [g822]; exact (Nat.le_refl _)), f942⟩ (allS ⟨(Nat.le_trans (Nat.le_trans (Nat.le_refl _) E823.1) g834), f941⟩ (allS ⟨(Nat.le_trans (Nat.le_trans (Nat.le_trans (Nat.le_trans (Nat.le_trans (Nat.le_trans (Nat.le_refl _) E823.1) K835.1) K872.1) K886.1) K912.1) g929), f932.lt⟩ (allS ⟨(Nat.le_trans (Nat.le_trans (Nat.le_trans (Nat.le_trans (Nat.le_trans (Nat.le_trans (Nat.le_refl _) E823.1) K835.1) K872.1) K886.1) K912.1) g930), f935.lt⟩ all0))))
  refine own_retAW CW SW943 rfl rfl (by decide +kernel) (by decide) (by decide) ?_
  exact ⟨a926, a927, k928, rfl, (Nat.le_trans (Nat.le_trans (Nat.le_trans (Nat.le_trans (Nat.le_trans (Nat.le_trans (Nat.le_trans (Nat.le_trans (Nat.le_refl _) E791.1) E807.1) E823.1) K835.1) K872.1) K886.1) K912.1) g929), (Nat.le_trans (Nat.le_trans (Nat.le_trans (Nat.le_trans (Nat.le_trans (Nat.le_trans (Nat.le_trans (Nat.le_trans (Nat.le_refl _) E791.1) E807.1) E823.1) K835.1) K872.1) K886.1) K912.1) g930), (((((((((Keep.refl _ _).ext E791).ext E807).ext E823).trans K835 (allS (Or.inr (by rw [g822]; exact (Nat.le_trans (Nat.le_trans (Nat.le_refl _) E791.1) E807.1))) all0)).trans K872 (allS (Or.inr (by rw [g822]; exact (Nat.le_trans (Nat.le_trans (Nat.le_refl _) E791.1) E807.1))) (allS (Or.inr (Nat.le_trans (Nat.le_trans (Nat.le_trans (Nat.le_trans (Nat.le_refl _) E791.1) E807.1) E823.1) g834)) all0))).trans K886 (allS (Or.inr (by rw [g822]; exact (Nat.le_trans (Nat.le_trans (Nat.le_refl _) E791.1) E807.1))) (allS (Or.inr (Nat.le_trans (Nat.le_trans (Nat.le_trans (Nat.le_trans (Nat.le_refl _) E791.1) E807.1) E823.1) g834)) all0))).trans K912 (allS (Or.inr (by rw [g822]; exact (Nat.le_trans (Nat.le_trans (Nat.le_refl _) E791.1) E807.1))) (allS (Or.inr (Nat.le_trans (Nat.le_trans (Nat.le_trans (Nat.le_trans (Nat.le_refl _) E791.1) E807.1) E823.1) g834)) all0))).trans K931 all0), f932, f933, f934, f935⟩
set_option maxRecDepth 65536 in
set_option maxHeartbeats 40000000 in
theorem own_of12 (l : Launch) (Z : State) (a0 : Array Value) (hw : ∀ d ∈ tables_1, d.before a0 Z = true) (hEL : EW Z a0 own_EL) (wS : ∀ a ∈ Bundle.stringAtoms, a.before a0 Z = true) (G1 : Int32) (G3 : Value) (n : Addr) (x : Addr) (xt : Addr) (xk : ClassId) (x0 : Int32) (y : Addr) (yt : Addr) (yk : ClassId) (y0 : Int32) (y1 : Int32) (h0 : Heap) (n0 : Nat) (z0 : n0 ≤ h0.size) (X00 : Old Z n0 h0) (nE : Exa Z h0 n "com/example/nearfar_cache/nearfarcache/Namespace") (nN : Fld Z h0 n "com/example/nearfar_cache/nearfarcache/Namespace" "name" "Ljava/lang/String;" (.ref x)) (xE : Exa Z h0 x "java/lang/String") (xV : Fld Z h0 x "java/lang/String" "value" "[B" (.ref xt)) (xC : Fld Z h0 x "java/lang/String" "coder" "B" (.int 0)) (xK : Arv Z h0 xt xk .byte (1 : Int32) ([(.int x0.toInt8.toInt32)]) (.int 0)) (yE : Exa Z h0 y "java/lang/String") (yV : Fld Z h0 y "java/lang/String" "value" "[B" (.ref yt)) (yC : Fld Z h0 y "java/lang/String" "coder" "B" (.int 0)) (yK : Arv Z h0 yt yk .byte (2 : Int32) ([(.int y0.toInt8.toInt32), (.int y1.toInt8.toInt32)]) (.int 0)) (O2 : Sta Z Z.heap "java/lang/String" "COMPACT_STRINGS" "Z" (.int G1)) (O4 : Sta Z Z.heap "jdk/internal/util/Preconditions" "SIOOBE_FORMATTER" "Ljava/util/function/BiFunction;" G3) (P5 : ¬ G1 = (0 : Int32)) (rG3 : G3.isRef = true) (xh0 : ¬ x0 < 0 ∧ ¬ (255 : Int32) < x0) (yh0 : ¬ y0 < 0 ∧ ¬ (255 : Int32) < y0) (yh1 : ¬ y1 < 0 ∧ ¬ (255 : Int32) < y1) :
    own_MetW l Z own_EL (⟨"com/example/nearfar_cache/nearfarcache/redis/RedisKeys", "of", "(Lcom/example/nearfar_cache/nearfarcache/Namespace;Ljava/lang/String;)Ljava/lang/String;"⟩ : MethodName) prog_26_method_2_code 2 (some (.object "java/lang/String")) ({ frames := 6, cells := 8, slots := 144, locals := 91 } : Room) n0 #[(.ref n), (.ref y)] h0 [] (fun v h => ∃ r : Addr, ∃ rt : Addr, ∃ rk : ClassId, v = some (.ref r) ∧ h0.size ≤ r ∧ h0.size ≤ rt ∧ Keep h0 h [] ∧ Exa Z h r "java/lang/String" ∧ Fld Z h r "java/lang/String" "coder" "B" (.int 0) ∧ Fld Z h r "java/lang/String" "value" "[B" (.ref rt) ∧ Arv Z h rt rk .byte (4 : Int32) ([(.int x0.toInt8.toInt32), (.int (58 : Int32)), (.int y0.toInt8.toInt32), (.int y1.toInt8.toInt32)]) (.int 0)) := by
  refine own_metW hEL wS (by decide +kernel) #[.val (.ref n), .val (.ref y)] (fun m => by first | (simp [entryFrame, mkF, argsToLocals, Value.category]; done) | rfl) ?_
  intro p e s m below meth c T0 CW SW0
  have hp944 : ∀ c ∈ ([x0] : List Int32), ¬ c < 0 ∧ ¬ (255 : Int32) < c := by
    intro c hc; simp only [List.mem_cons, List.not_mem_nil, or_false] at hc
    rcases hc with rfl
    · exact xh0
  have hcd945 : StrChars.Road.CodA ([x0] : List Int32) 0 (1 : Int32) [(.int x0.toInt8.toInt32)] := StrChars.Road.codOf (cs := ([x0] : List Int32)) (n := 1) rfl (fun c hc => (hp944 c hc).2)
  have hp946 : ∀ c ∈ ([y0, y1] : List Int32), ¬ c < 0 ∧ ¬ (255 : Int32) < c := by
    intro c hc; simp only [List.mem_cons, List.not_mem_nil, or_false] at hc
    rcases hc with rfl | rfl
    · exact yh0
    · exact yh1
  have hcd947 : StrChars.Road.CodA ([y0, y1] : List Int32) 0 (2 : Int32) [(.int y0.toInt8.toInt32), (.int y1.toInt8.toInt32)] := StrChars.Road.codOf (cs := ([y0, y1] : List Int32)) (n := 2) rfl (fun c hc => (hp946 c hc).2)
  refine own_lift CW SW0 ?_
  intro vm948 C S949 rb950
  refine own_seg C S949 [(0, .aload_n 0, 1)] (by decide +kernel) 1 #[.val (.ref n), .val (.ref y)] [(.ref n)] rfl ?_
  have SW951 : own_SW p l e ({ frames := 6, cells := 8, slots := 144, locals := 91 } : Room) s m #[(.ref n), (.ref y)] below meth c n0 Z own_EL "com/example/nearfar_cache/nearfarcache/redis/RedisKeys" T0 h0 [] 0 0 := rb950 _ _ _ _ [] [] S949 (Keep.refl _ _) all0 all0
  refine own_ldcO CW SW951 (own_wd hw 117 rfl) (by decide +kernel) 36 (by decide) (by decide) (by decide) (by decide) ?_
  intro T952 h953 a954 SW955 E956
  have f957 : n0 ≤ h953.size := (Nat.le_trans z0 E956.1)
  refine own_lift CW SW955 ?_
  intro vm964 C S965 rb966
  refine own_callS C S965 (own_wd hw 118 rfl) (own_wd hw 51 rfl) (own_wd hw 52 rfl) (own_wd hw 53 rfl) (by decide) (own_Met.pay (own_rnn2 l Z a0 hw n a954 h953 n0 f957) C 0 (own_wd hw 53 rfl) (own_wd hw 52 rfl) (by decide) (by decide)) (fun _ _ _ q => q.2) [(.ref n), (.ref a954)] [] rfl own_pd20 rfl rfl rfl (Nat.le_of_ble_eq_true rfl) (by decide) (by decide) (by decide +kernel) ?_
  rintro T959 h960 v961 L962 S963 ⟨⟨rfl, e958⟩, -⟩
  replace S963 : own_S p l e ({ frames := 6, cells := 8, slots := 144, locals := 91 } : Room) (s.setVm vm964) m #[(.ref n), (.ref y)] below meth c n0 T959 h960 2 40 := S963
  rw [e958] at S963; clear e958
  show own_Go p e below _ T959 (mkF m 6 #[.val (.ref n), .val (.ref y)] [(.ref n)])
  refine own_seg C S963 [(6, .pop, 1), (7, .aload_n 1, 1)] (by decide +kernel) 8 #[.val (.ref n), .val (.ref y)] [(.ref y)] rfl ?_
  have SW967 : own_SW p l e ({ frames := 6, cells := 8, slots := 144, locals := 91 } : Room) s m #[(.ref n), (.ref y)] below meth c n0 Z own_EL "com/example/nearfar_cache/nearfarcache/redis/RedisKeys" T959 h953 [] 2 40 := rb966 _ _ _ _ [] [] S963 (Keep.refl _ _) all0 all0
  refine own_ldcO CW SW967 (own_wd hw 119 rfl) (by decide +kernel) 12 (by decide) (by decide) (by decide) (by decide) ?_
  intro T968 h969 a970 SW971 E972
  have f973 : n0 ≤ h969.size := (Nat.le_trans f957 E972.1)
  refine own_lift CW SW971 ?_
  intro vm980 C S981 rb982
  refine own_callS C S981 (own_wd hw 118 rfl) (own_wd hw 51 rfl) (own_wd hw 52 rfl) (own_wd hw 53 rfl) (by decide) (own_Met.pay (own_rnn2 l Z a0 hw y a970 h969 n0 f973) C 0 (own_wd hw 53 rfl) (own_wd hw 52 rfl) (by decide) (by decide)) (fun _ _ _ q => q.2) [(.ref y), (.ref a970)] [] rfl own_pd20 rfl rfl rfl (Nat.le_of_ble_eq_true rfl) (by decide) (by decide) (by decide +kernel) ?_
  rintro T975 h976 v977 L978 S979 ⟨⟨rfl, e974⟩, -⟩
  replace S979 : own_S p l e ({ frames := 6, cells := 8, slots := 144, locals := 91 } : Room) (s.setVm vm980) m #[(.ref n), (.ref y)] below meth c n0 T975 h976 4 56 := S979
  rw [e974] at S979; clear e974
  show own_Go p e below _ T975 (mkF m 13 #[.val (.ref n), .val (.ref y)] [(.ref y)])
  refine own_seg C S979 [(13, .pop, 1)] (by decide +kernel) 14 #[.val (.ref n), .val (.ref y)] [] rfl ?_
  refine own_new C S979 (own_wd hw 120 rfl) (own_wd hw 121 rfl) (own_wd hw 122 rfl) (by decide +kernel) (by decide) (by decide) ?_
  intro T983 h985 a986 S984 g987 E988 x989 D990
  have f991 : Fld Z h985 a986 "java/lang/AbstractStringBuilder" "value" "[B" .null := D990 (ty := (.array .byte)) (Or.inl (own_wd hw 135 rfl)) own_fd0
  have f992 : Fld Z h985 a986 "java/lang/AbstractStringBuilder" "coder" "B" (.int (0 : Int32)) := D990 (ty := .byte) (Or.inl (own_wd hw 137 rfl)) own_fd1
  have f993 : Fld Z h985 a986 "java/lang/AbstractStringBuilder" "count" "I" (.int (0 : Int32)) := D990 (ty := .int) (Or.inl (own_wd hw 155 rfl)) own_fd2
  refine own_seg C S984 [(17, .dup, 1)] (by decide +kernel) 18 #[.val (.ref n), .val (.ref y)] [(.ref a986), (.ref a986)] rfl ?_
  have f994 : Old Z n0 h985 := (((X00.ext E956).ext E972).ext E988)
  have f995 : n0 ≤ h985.size := (Nat.le_trans f973 E988.1)
  have g996 : n0 ≤ a986 := by rw [g987]; exact f973
  refine own_callI C S984 rfl (own_wd hw 123 rfl) (own_wd hw 124 rfl) (own_wd hw 125 rfl) (by decide) (own_Met.pay (own_sbI l Z a0 hw G1 G3 a986 h985 n0 f995 g996 f994 x989 f991 f992 f993 O2 O4 P5 rG3) C 1 (own_wd hw 125 rfl) (own_wd hw 122 rfl) (by decide) (by decide)) (fun _ _ _ q => q.2) [] [(.ref a986)] rfl own_pd19 rfl rfl rfl (Nat.le_of_ble_eq_true rfl) (by decide) (by decide) (by decide +kernel) ?_
  rintro T1006 h1007 v1008 L1009 S1010 ⟨⟨a997, k998, rfl, g999, K1000, f1001, f1002, f1003, f1004, f1005⟩, -⟩
  replace S1010 : own_S p l e ({ frames := 6, cells := 8, slots := 144, locals := 91 } : Room) (s.setVm vm980) m #[(.ref n), (.ref y)] below meth c n0 T1006 h1007 6 76 := S1010
  show own_Go p e below _ T1006 (mkF m 21 #[.val (.ref n), .val (.ref y)] [(.ref a986)])
  refine own_seg C S1010 [(21, .aload_n 0, 1)] (by decide +kernel) 22 #[.val (.ref n), .val (.ref y)] [(.ref n), (.ref a986)] rfl ?_
  have f1011 : n < h969.size := (Nat.lt_of_lt_of_le (Nat.lt_of_lt_of_le nE.lt E956.1) E972.1)
  have n1012 : n ≠ a986 := by rw [g987]; exact Nat.ne_of_lt f1011
  have f1013 : Fld Z h1007 n "com/example/nearfar_cache/nearfarcache/Namespace" "name" "Ljava/lang/String;" (.ref x) := ((Fld.ext E988 (Fld.ext E972 (Fld.ext E956 nN))).keep K1000 (ninS n1012 nin0))
  have f1014 : n0 ≤ h1007.size := (Nat.le_trans f995 K1000.1)
  have f1021 : Exa Z h1007 n "com/example/nearfar_cache/nearfarcache/Namespace" := ((Exa.ext E988 (Exa.ext E972 (Exa.ext E956 nE))).keep K1000)
  refine own_callV C S1010 (own_wd hw 138 rfl) (own_wd hw 139 rfl) (own_wd hw 141 rfl) (y' := ⟨"com/example/nearfar_cache/nearfarcache/Namespace", "name", "()Ljava/lang/String;"⟩) rfl (own_wd hw 141 rfl) (own_wd hw 140 rfl) (by decide) (own_Met.pay (own_nsn l Z a0 hw n x h1007 n0 f1014 f1013) C 1 (own_wd hw 142 rfl) (own_wd hw 39 rfl) (by decide) (by decide)) (fun _ _ _ q => q.2) f1021 [] [(.ref a986)] rfl own_pd23 rfl rfl rfl (Nat.le_of_ble_eq_true rfl) (by decide) (by decide) (by decide +kernel) ?_
  rintro T1016 h1017 v1018 L1019 S1020 ⟨⟨rfl, e1015⟩, -⟩
  replace S1020 : own_S p l e ({ frames := 6, cells := 8, slots := 144, locals := 91 } : Room) (s.setVm vm980) m #[(.ref n), (.ref y)] below meth c n0 T1016 h1017 6 76 := S1020
  rw [e1015] at S1020; clear e1015
  show own_Go p e below _ T1016 (mkF m 25 #[.val (.ref n), .val (.ref y)] [(.ref x), (.ref a986)])
  have f1022 : Old Z n0 h1007 := (f994.keep K1000 (allS g996 all0))
  have f1023 : Exa Z h1007 x "java/lang/String" := ((Exa.ext E988 (Exa.ext E972 (Exa.ext E956 xE))).keep K1000)
  have f1024 : x < h969.size := (Nat.lt_of_lt_of_le (Nat.lt_of_lt_of_le xE.lt E956.1) E972.1)
  have n1025 : x ≠ a986 := by rw [g987]; exact Nat.ne_of_lt f1024
  have f1026 : Fld Z h1007 x "java/lang/String" "value" "[B" (.ref xt) := ((Fld.ext E988 (Fld.ext E972 (Fld.ext E956 xV))).keep K1000 (ninS n1025 nin0))
  have f1027 : Fld Z h1007 x "java/lang/String" "coder" "B" (.int 0) := ((Fld.ext E988 (Fld.ext E972 (Fld.ext E956 xC))).keep K1000 (ninS n1025 nin0))
  have f1028 : xt < h969.size := (Nat.lt_of_lt_of_le (Nat.lt_of_lt_of_le xK.lt E956.1) E972.1)
  have n1029 : xt ≠ a986 := by rw [g987]; exact Nat.ne_of_lt f1028
  have f1030 : Arv Z h1007 xt xk .byte (1 : Int32) ([(.int x0.toInt8.toInt32)]) (.int 0) := ((((xK.ext E956).ext E972).ext E988).keep K1000 (ninS n1029 nin0))
  have g1031 : n0 ≤ a997 := Nat.le_trans f995 g999
  have f1032 : xt < h985.size := (Nat.lt_of_lt_of_le f1028 E988.1)
  have n1033 : xt ≠ a997 := Nat.ne_of_lt (Nat.lt_of_lt_of_le f1032 g999)
  have f1034 : x < h985.size := (Nat.lt_of_lt_of_le f1024 E988.1)
  have n1035 : x ≠ a997 := Nat.ne_of_lt (Nat.lt_of_lt_of_le f1034 g999)
  have n1036 : a986 ≠ a997 := Nat.ne_of_lt (Nat.lt_of_lt_of_le f991.lt g999)
  refine own_callV C S1020 (own_wd hw 143 rfl) (own_wd hw 144 rfl) (own_wd hw 146 rfl) (y' := ⟨"java/lang/StringBuilder", "append", "(Ljava/lang/String;)Ljava/lang/StringBuilder;"⟩) rfl (own_wd hw 146 rfl) (own_wd hw 145 rfl) (by decide) (own_Met.pay (own_sbA l Z a0 hw G1 G3 x xt xk (1 : Int32) ([(.int x0.toInt8.toInt32)]) ([x0] : List Int32) a986 a997 k998 (16 : Int32) ([(.int (0 : Int32)), (.int (0 : Int32)), (.int (0 : Int32)), (.int (0 : Int32)), (.int (0 : Int32)), (.int (0 : Int32)), (.int (0 : Int32)), (.int (0 : Int32)), (.int (0 : Int32)), (.int (0 : Int32)), (.int (0 : Int32)), (.int (0 : Int32)), (.int (0 : Int32)), (.int (0 : Int32)), (.int (0 : Int32)), (.int (0 : Int32))]) (0 : Int32) ([(.int x0.toInt8.toInt32), (.int (0 : Int32)), (.int (0 : Int32)), (.int (0 : Int32)), (.int (0 : Int32)), (.int (0 : Int32)), (.int (0 : Int32)), (.int (0 : Int32)), (.int (0 : Int32)), (.int (0 : Int32)), (.int (0 : Int32)), (.int (0 : Int32)), (.int (0 : Int32)), (.int (0 : Int32)), (.int (0 : Int32)), (.int (0 : Int32))]) h1007 n0 f1014 g996 g1031 f1022 f1023 f1026 f1027 f1030 f1001 f1002 f1003 f1004 f1005 n1033 n1029 n1025 n1035 (Ne.symm n1036) O2 O4 P5 rG3 hcd945 hp944 (Nat.le_of_ble_eq_true rfl) (by decide) (by decide) (by decide) (by decide) (Nat.le_of_ble_eq_true rfl) rfl) C 0 (own_wd hw 147 rfl) (own_wd hw 122 rfl) (by decide) (by decide)) (fun _ _ _ q => q.2) f1001 [(.ref x)] [] rfl own_pd24 rfl rfl rfl (Nat.le_of_ble_eq_true rfl) (by decide) (by decide) (by decide +kernel) ?_
  rintro T1043 h1044 v1045 L1046 S1047 ⟨⟨rfl, K1037, f1038, f1039, f1040, f1041, f1042⟩, -⟩
  replace S1047 : own_S p l e ({ frames := 6, cells := 8, slots := 144, locals := 91 } : Room) (s.setVm vm980) m #[(.ref n), (.ref y)] below meth c n0 T1043 h1044 6 76 := S1047
  have f1048 : Fld Z h1044 a986 "java/lang/AbstractStringBuilder" "count" "I" (.int (1 : Int32)) := f1041
  show own_Go p e below _ T1043 (mkF m 28 #[.val (.ref n), .val (.ref y)] [(.ref a986)])
  refine own_seg C S1047 [(28, .bipush 58, 2)] (by decide +kernel) 30 #[.val (.ref n), .val (.ref y)] [(.int (58 : Int32)), (.ref a986)] rfl ?_
  have f1049 : Old Z n0 h1044 := (f1022.keep K1037 (allS g996 (allS g1031 all0)))
  have f1050 : n0 ≤ h1044.size := (Nat.le_trans f1014 K1037.1)
  refine own_callV C S1047 (own_wd hw 181 rfl) (own_wd hw 182 rfl) (own_wd hw 184 rfl) (y' := ⟨"java/lang/StringBuilder", "append", "(C)Ljava/lang/StringBuilder;"⟩) rfl (own_wd hw 184 rfl) (own_wd hw 183 rfl) (by decide) (own_Met.pay (own_sbC l Z a0 hw G1 G3 a986 a997 k998 (16 : Int32) ([(.int x0.toInt8.toInt32), (.int (0 : Int32)), (.int (0 : Int32)), (.int (0 : Int32)), (.int (0 : Int32)), (.int (0 : Int32)), (.int (0 : Int32)), (.int (0 : Int32)), (.int (0 : Int32)), (.int (0 : Int32)), (.int (0 : Int32)), (.int (0 : Int32)), (.int (0 : Int32)), (.int (0 : Int32)), (.int (0 : Int32)), (.int (0 : Int32))]) (1 : Int32) (58 : Int32) ([(.int x0.toInt8.toInt32), (.int (58 : Int32)), (.int (0 : Int32)), (.int (0 : Int32)), (.int (0 : Int32)), (.int (0 : Int32)), (.int (0 : Int32)), (.int (0 : Int32)), (.int (0 : Int32)), (.int (0 : Int32)), (.int (0 : Int32)), (.int (0 : Int32)), (.int (0 : Int32)), (.int (0 : Int32)), (.int (0 : Int32)), (.int (0 : Int32))]) h1044 n0 f1050 g996 g1031 f1049 f1038 f1039 f1040 f1048 f1042 (Ne.symm n1036) O2 O4 P5 rG3 (by decide) (by decide) (by decide) (Nat.le_of_ble_eq_true rfl) rfl) C 0 (own_wd hw 185 rfl) (own_wd hw 122 rfl) (by decide) (by decide)) (fun _ _ _ q => q.2) f1038 [(.int (58 : Int32))] [] rfl own_pd25 rfl rfl rfl (Nat.le_of_ble_eq_true rfl) (by decide) (by decide) (by decide +kernel) ?_
  rintro T1057 h1058 v1059 L1060 S1061 ⟨⟨rfl, K1051, f1052, f1053, f1054, f1055, f1056⟩, -⟩
  replace S1061 : own_S p l e ({ frames := 6, cells := 8, slots := 144, locals := 91 } : Room) (s.setVm vm980) m #[(.ref n), (.ref y)] below meth c n0 T1057 h1058 6 76 := S1061
  have f1062 : Fld Z h1058 a986 "java/lang/AbstractStringBuilder" "count" "I" (.int (2 : Int32)) := f1055
  show own_Go p e below _ T1057 (mkF m 33 #[.val (.ref n), .val (.ref y)] [(.ref a986)])
  refine own_seg C S1061 [(33, .aload_n 1, 1)] (by decide +kernel) 34 #[.val (.ref n), .val (.ref y)] [(.ref y), (.ref a986)] rfl ?_
  have f1063 : Old Z n0 h1058 := (f1049.keep K1051 (allS g996 (allS g1031 all0)))
  have f1064 : Exa Z h1058 y "java/lang/String" := ((((Exa.ext E988 (Exa.ext E972 (Exa.ext E956 yE))).keep K1000).keep K1037).keep K1051)
  have f1065 : y < h969.size := (Nat.lt_of_lt_of_le (Nat.lt_of_lt_of_le yE.lt E956.1) E972.1)
  have n1066 : y ≠ a986 := by rw [g987]; exact Nat.ne_of_lt f1065
  have f1067 : y < h985.size := (Nat.lt_of_lt_of_le f1065 E988.1)
  have n1068 : y ≠ a997 := Nat.ne_of_lt (Nat.lt_of_lt_of_le f1067 g999)
  have f1069 : Fld Z h1058 y "java/lang/String" "value" "[B" (.ref yt) := ((((Fld.ext E988 (Fld.ext E972 (Fld.ext E956 yV))).keep K1000 (ninS n1066 nin0)).keep K1037 (ninS n1066 (ninS n1068 nin0))).keep K1051 (ninS n1066 (ninS n1068 nin0)))
  have f1070 : Fld Z h1058 y "java/lang/String" "coder" "B" (.int 0) := ((((Fld.ext E988 (Fld.ext E972 (Fld.ext E956 yC))).keep K1000 (ninS n1066 nin0)).keep K1037 (ninS n1066 (ninS n1068 nin0))).keep K1051 (ninS n1066 (ninS n1068 nin0)))
  have f1071 : yt < h969.size := (Nat.lt_of_lt_of_le (Nat.lt_of_lt_of_le yK.lt E956.1) E972.1)
  have n1072 : yt ≠ a986 := by rw [g987]; exact Nat.ne_of_lt f1071
  have f1073 : yt < h985.size := (Nat.lt_of_lt_of_le f1071 E988.1)
  have n1074 : yt ≠ a997 := Nat.ne_of_lt (Nat.lt_of_lt_of_le f1073 g999)
  have f1075 : Arv Z h1058 yt yk .byte (2 : Int32) ([(.int y0.toInt8.toInt32), (.int y1.toInt8.toInt32)]) (.int 0) := ((((((yK.ext E956).ext E972).ext E988).keep K1000 (ninS n1072 nin0)).keep K1037 (ninS n1072 (ninS n1074 nin0))).keep K1051 (ninS n1072 (ninS n1074 nin0)))
  have f1076 : n0 ≤ h1058.size := (Nat.le_trans f1050 K1051.1)
  refine own_callV C S1061 (own_wd hw 143 rfl) (own_wd hw 144 rfl) (own_wd hw 146 rfl) (y' := ⟨"java/lang/StringBuilder", "append", "(Ljava/lang/String;)Ljava/lang/StringBuilder;"⟩) rfl (own_wd hw 146 rfl) (own_wd hw 145 rfl) (by decide) (own_Met.pay (own_sbA l Z a0 hw G1 G3 y yt yk (2 : Int32) ([(.int y0.toInt8.toInt32), (.int y1.toInt8.toInt32)]) ([y0, y1] : List Int32) a986 a997 k998 (16 : Int32) ([(.int x0.toInt8.toInt32), (.int (58 : Int32)), (.int (0 : Int32)), (.int (0 : Int32)), (.int (0 : Int32)), (.int (0 : Int32)), (.int (0 : Int32)), (.int (0 : Int32)), (.int (0 : Int32)), (.int (0 : Int32)), (.int (0 : Int32)), (.int (0 : Int32)), (.int (0 : Int32)), (.int (0 : Int32)), (.int (0 : Int32)), (.int (0 : Int32))]) (2 : Int32) ([(.int x0.toInt8.toInt32), (.int (58 : Int32)), (.int y0.toInt8.toInt32), (.int y1.toInt8.toInt32), (.int (0 : Int32)), (.int (0 : Int32)), (.int (0 : Int32)), (.int (0 : Int32)), (.int (0 : Int32)), (.int (0 : Int32)), (.int (0 : Int32)), (.int (0 : Int32)), (.int (0 : Int32)), (.int (0 : Int32)), (.int (0 : Int32)), (.int (0 : Int32))]) h1058 n0 f1076 g996 g1031 f1063 f1064 f1069 f1070 f1075 f1052 f1053 f1054 f1062 f1056 n1074 n1072 n1066 n1068 (Ne.symm n1036) O2 O4 P5 rG3 hcd947 hp946 (Nat.le_of_ble_eq_true rfl) (by decide) (by decide) (by decide) (by decide) (Nat.le_of_ble_eq_true rfl) rfl) C 0 (own_wd hw 147 rfl) (own_wd hw 122 rfl) (by decide) (by decide)) (fun _ _ _ q => q.2) f1052 [(.ref y)] [] rfl own_pd24 rfl rfl rfl (Nat.le_of_ble_eq_true rfl) (by decide) (by decide) (by decide +kernel) ?_
  rintro T1083 h1084 v1085 L1086 S1087 ⟨⟨rfl, K1077, f1078, f1079, f1080, f1081, f1082⟩, -⟩
  replace S1087 : own_S p l e ({ frames := 6, cells := 8, slots := 144, locals := 91 } : Room) (s.setVm vm980) m #[(.ref n), (.ref y)] below meth c n0 T1083 h1084 6 76 := S1087
  have f1088 : Fld Z h1084 a986 "java/lang/AbstractStringBuilder" "count" "I" (.int (4 : Int32)) := f1081
  show own_Go p e below _ T1083 (mkF m 37 #[.val (.ref n), .val (.ref y)] [(.ref a986)])
  have f1089 : Old Z n0 h1084 := (f1063.keep K1077 (allS g996 (allS g1031 all0)))
  have f1090 : n0 ≤ h1084.size := (Nat.le_trans f1076 K1077.1)
  refine own_callV C S1087 (own_wd hw 198 rfl) (own_wd hw 199 rfl) (own_wd hw 201 rfl) (y' := ⟨"java/lang/StringBuilder", "toString", "()Ljava/lang/String;"⟩) rfl (own_wd hw 201 rfl) (own_wd hw 200 rfl) (by decide) (own_Met.pay (own_ts l Z a0 hw G1 G3 a986 a997 k998 (16 : Int32) ([(.int x0.toInt8.toInt32), (.int (58 : Int32)), (.int y0.toInt8.toInt32), (.int y1.toInt8.toInt32), (.int (0 : Int32)), (.int (0 : Int32)), (.int (0 : Int32)), (.int (0 : Int32)), (.int (0 : Int32)), (.int (0 : Int32)), (.int (0 : Int32)), (.int (0 : Int32)), (.int (0 : Int32)), (.int (0 : Int32)), (.int (0 : Int32)), (.int (0 : Int32))]) (4 : Int32) ([(.int x0.toInt8.toInt32), (.int (58 : Int32)), (.int y0.toInt8.toInt32), (.int y1.toInt8.toInt32)]) h1084 n0 f1090 f1089 f1078 f1079 f1080 f1088 f1082 O2 O4 P5 rG3 (by decide) (by decide) (by decide) (by decide) rfl) C 0 (own_wd hw 202 rfl) (own_wd hw 122 rfl) (by decide) (by decide)) (fun _ _ _ q => q.2) f1078 [] [] rfl own_pd23 rfl rfl rfl (Nat.le_of_ble_eq_true rfl) (by decide) (by decide) (by decide +kernel) ?_
  rintro T1101 h1102 v1103 L1104 S1105 ⟨⟨a1091, a1092, k1093, rfl, g1094, g1095, K1096, f1097, f1098, f1099, f1100⟩, -⟩
  replace S1105 : own_S p l e ({ frames := 6, cells := 8, slots := 144, locals := 91 } : Room) (s.setVm vm980) m #[(.ref n), (.ref y)] below meth c n0 T1101 h1102 8 144 := S1105
  show own_Go p e below _ T1101 (mkF m 40 #[.val (.ref n), .val (.ref y)] [(.ref a1091)])
  have f1106 : a997 < h1102.size := (Nat.lt_of_lt_of_le (Nat.lt_of_lt_of_le (Nat.lt_of_lt_of_le (Nat.lt_of_lt_of_le f1005.lt K1037.1) K1051.1) K1077.1) K1096.1)
  have f1107 : a986 < h1102.size := (Nat.lt_of_lt_of_le (Nat.lt_of_lt_of_le (Nat.lt_of_lt_of_le (Nat.lt_of_lt_of_le (Nat.lt_of_lt_of_le f991.lt K1000.1) K1037.1) K1051.1) K1077.1) K1096.1)
  have SW1108 : own_SW p l e ({ frames := 6, cells := 8, slots := 144, locals := 91 } : Room) s m #[(.ref n), (.ref y)] below meth c n0 Z own_EL "com/example/nearfar_cache/nearfarcache/redis/RedisKeys" T1101 h1102 [a986, a997, a1091, a1092] 8 144 := rb982 _ _ _ _ [] [a986, a997, a1091, a1092] S1105 (((((((Keep.refl _ _).ext E988).trans K1000 (allS (Or.inr (by rw [g987]; exact (Nat.le_refl _))) all0)).trans K1037 (allS (Or.inr (by rw [g987]; exact (Nat.le_refl _))) (allS (Or.inr (Nat.le_trans (Nat.le_trans (Nat.le_refl _) E988.1) g999)) all0))).trans K1051 (allS (Or.inr (by rw [g987]; exact (Nat.le_refl _))) (allS (Or.inr (Nat.le_trans (Nat.le_trans (Nat.le_refl _) E988.1) g999)) all0))).trans K1077 (allS (Or.inr (by rw [g987]; exact (Nat.le_refl _))) (allS (Or.inr (Nat.le_trans (Nat.le_trans (Nat.le_refl _) E988.1) g999)) all0))).trans K1096 all0) all0 (allS ⟨(by rw [g987]; exact (Nat.le_refl _)), f1107⟩ (allS ⟨(Nat.le_trans (Nat.le_trans (Nat.le_refl _) E988.1) g999), f1106⟩ (allS ⟨(Nat.le_trans (Nat.le_trans (Nat.le_trans (Nat.le_trans (Nat.le_trans (Nat.le_trans (Nat.le_refl _) E988.1) K1000.1) K1037.1) K1051.1) K1077.1) g1094), f1097.lt⟩ (allS ⟨(Nat.le_trans (Nat.le_trans (Nat.le_trans (Nat.le_trans (Nat.le_trans (Nat.le_trans (Nat.le_refl _) E988.1) K1000.1) K1037.1) K1051.1) K1077.1) g1095), f1100.lt⟩ all0))))
  refine own_retAW CW SW1108 rfl rfl (by decide +kernel) (by decide) (by decide) ?_
  exact ⟨a1091, a1092, k1093, rfl, (Nat.le_trans (Nat.le_trans (Nat.le_trans (Nat.le_trans (Nat.le_trans (Nat.le_trans (Nat.le_trans (Nat.le_trans (Nat.le_refl _) E956.1) E972.1) E988.1) K1000.1) K1037.1) K1051.1) K1077.1) g1094), (Nat.le_trans (Nat.le_trans (Nat.le_trans (Nat.le_trans (Nat.le_trans (Nat.le_trans (Nat.le_trans (Nat.le_trans (Nat.le_refl _) E956.1) E972.1) E988.1) K1000.1) K1037.1) K1051.1) K1077.1) g1095), (((((((((Keep.refl _ _).ext E956).ext E972).ext E988).trans K1000 (allS (Or.inr (by rw [g987]; exact (Nat.le_trans (Nat.le_trans (Nat.le_refl _) E956.1) E972.1))) all0)).trans K1037 (allS (Or.inr (by rw [g987]; exact (Nat.le_trans (Nat.le_trans (Nat.le_refl _) E956.1) E972.1))) (allS (Or.inr (Nat.le_trans (Nat.le_trans (Nat.le_trans (Nat.le_trans (Nat.le_refl _) E956.1) E972.1) E988.1) g999)) all0))).trans K1051 (allS (Or.inr (by rw [g987]; exact (Nat.le_trans (Nat.le_trans (Nat.le_refl _) E956.1) E972.1))) (allS (Or.inr (Nat.le_trans (Nat.le_trans (Nat.le_trans (Nat.le_trans (Nat.le_refl _) E956.1) E972.1) E988.1) g999)) all0))).trans K1077 (allS (Or.inr (by rw [g987]; exact (Nat.le_trans (Nat.le_trans (Nat.le_refl _) E956.1) E972.1))) (allS (Or.inr (Nat.le_trans (Nat.le_trans (Nat.le_trans (Nat.le_trans (Nat.le_refl _) E956.1) E972.1) E988.1) g999)) all0))).trans K1096 all0), f1097, f1098, f1099, f1100⟩
set_option maxRecDepth 65536 in
set_option maxHeartbeats 40000000 in
theorem own_of20 (l : Launch) (Z : State) (a0 : Array Value) (hw : ∀ d ∈ tables_1, d.before a0 Z = true) (hEL : EW Z a0 own_EL) (wS : ∀ a ∈ Bundle.stringAtoms, a.before a0 Z = true) (G1 : Int32) (G3 : Value) (n : Addr) (x : Addr) (xt : Addr) (xk : ClassId) (x0 : Int32) (x1 : Int32) (y : Addr) (yt : Addr) (yk : ClassId) (h0 : Heap) (n0 : Nat) (z0 : n0 ≤ h0.size) (X00 : Old Z n0 h0) (nE : Exa Z h0 n "com/example/nearfar_cache/nearfarcache/Namespace") (nN : Fld Z h0 n "com/example/nearfar_cache/nearfarcache/Namespace" "name" "Ljava/lang/String;" (.ref x)) (xE : Exa Z h0 x "java/lang/String") (xV : Fld Z h0 x "java/lang/String" "value" "[B" (.ref xt)) (xC : Fld Z h0 x "java/lang/String" "coder" "B" (.int 0)) (xK : Arv Z h0 xt xk .byte (2 : Int32) ([(.int x0.toInt8.toInt32), (.int x1.toInt8.toInt32)]) (.int 0)) (yE : Exa Z h0 y "java/lang/String") (yV : Fld Z h0 y "java/lang/String" "value" "[B" (.ref yt)) (yC : Fld Z h0 y "java/lang/String" "coder" "B" (.int 0)) (yK : Arv Z h0 yt yk .byte (0 : Int32) ([]) (.int 0)) (O2 : Sta Z Z.heap "java/lang/String" "COMPACT_STRINGS" "Z" (.int G1)) (O4 : Sta Z Z.heap "jdk/internal/util/Preconditions" "SIOOBE_FORMATTER" "Ljava/util/function/BiFunction;" G3) (P5 : ¬ G1 = (0 : Int32)) (rG3 : G3.isRef = true) (xh0 : ¬ x0 < 0 ∧ ¬ (255 : Int32) < x0) (xh1 : ¬ x1 < 0 ∧ ¬ (255 : Int32) < x1) :
    own_MetW l Z own_EL (⟨"com/example/nearfar_cache/nearfarcache/redis/RedisKeys", "of", "(Lcom/example/nearfar_cache/nearfarcache/Namespace;Ljava/lang/String;)Ljava/lang/String;"⟩ : MethodName) prog_26_method_2_code 2 (some (.object "java/lang/String")) ({ frames := 6, cells := 8, slots := 144, locals := 91 } : Room) n0 #[(.ref n), (.ref y)] h0 [] (fun v h => ∃ r : Addr, ∃ rt : Addr, ∃ rk : ClassId, v = some (.ref r) ∧ h0.size ≤ r ∧ h0.size ≤ rt ∧ Keep h0 h [] ∧ Exa Z h r "java/lang/String" ∧ Fld Z h r "java/lang/String" "coder" "B" (.int 0) ∧ Fld Z h r "java/lang/String" "value" "[B" (.ref rt) ∧ Arv Z h rt rk .byte (3 : Int32) ([(.int x0.toInt8.toInt32), (.int x1.toInt8.toInt32), (.int (58 : Int32))]) (.int 0)) := by
  refine own_metW hEL wS (by decide +kernel) #[.val (.ref n), .val (.ref y)] (fun m => by first | (simp [entryFrame, mkF, argsToLocals, Value.category]; done) | rfl) ?_
  intro p e s m below meth c T0 CW SW0
  have hp1109 : ∀ c ∈ ([x0, x1] : List Int32), ¬ c < 0 ∧ ¬ (255 : Int32) < c := by
    intro c hc; simp only [List.mem_cons, List.not_mem_nil, or_false] at hc
    rcases hc with rfl | rfl
    · exact xh0
    · exact xh1
  have hcd1110 : StrChars.Road.CodA ([x0, x1] : List Int32) 0 (2 : Int32) [(.int x0.toInt8.toInt32), (.int x1.toInt8.toInt32)] := StrChars.Road.codOf (cs := ([x0, x1] : List Int32)) (n := 2) rfl (fun c hc => (hp1109 c hc).2)
  have hp1111 : ∀ c ∈ ([] : List Int32), ¬ c < 0 ∧ ¬ (255 : Int32) < c := by
    intro c hc; cases hc
  have hcd1112 : StrChars.Road.CodA ([] : List Int32) 0 (0 : Int32) [] := StrChars.Road.codOf (cs := ([] : List Int32)) (n := 0) rfl (fun c hc => (hp1111 c hc).2)
  refine own_lift CW SW0 ?_
  intro vm1113 C S1114 rb1115
  refine own_seg C S1114 [(0, .aload_n 0, 1)] (by decide +kernel) 1 #[.val (.ref n), .val (.ref y)] [(.ref n)] rfl ?_
  have SW1116 : own_SW p l e ({ frames := 6, cells := 8, slots := 144, locals := 91 } : Room) s m #[(.ref n), (.ref y)] below meth c n0 Z own_EL "com/example/nearfar_cache/nearfarcache/redis/RedisKeys" T0 h0 [] 0 0 := rb1115 _ _ _ _ [] [] S1114 (Keep.refl _ _) all0 all0
  refine own_ldcO CW SW1116 (own_wd hw 117 rfl) (by decide +kernel) 36 (by decide) (by decide) (by decide) (by decide) ?_
  intro T1117 h1118 a1119 SW1120 E1121
  have f1122 : n0 ≤ h1118.size := (Nat.le_trans z0 E1121.1)
  refine own_lift CW SW1120 ?_
  intro vm1129 C S1130 rb1131
  refine own_callS C S1130 (own_wd hw 118 rfl) (own_wd hw 51 rfl) (own_wd hw 52 rfl) (own_wd hw 53 rfl) (by decide) (own_Met.pay (own_rnn2 l Z a0 hw n a1119 h1118 n0 f1122) C 0 (own_wd hw 53 rfl) (own_wd hw 52 rfl) (by decide) (by decide)) (fun _ _ _ q => q.2) [(.ref n), (.ref a1119)] [] rfl own_pd20 rfl rfl rfl (Nat.le_of_ble_eq_true rfl) (by decide) (by decide) (by decide +kernel) ?_
  rintro T1124 h1125 v1126 L1127 S1128 ⟨⟨rfl, e1123⟩, -⟩
  replace S1128 : own_S p l e ({ frames := 6, cells := 8, slots := 144, locals := 91 } : Room) (s.setVm vm1129) m #[(.ref n), (.ref y)] below meth c n0 T1124 h1125 2 40 := S1128
  rw [e1123] at S1128; clear e1123
  show own_Go p e below _ T1124 (mkF m 6 #[.val (.ref n), .val (.ref y)] [(.ref n)])
  refine own_seg C S1128 [(6, .pop, 1), (7, .aload_n 1, 1)] (by decide +kernel) 8 #[.val (.ref n), .val (.ref y)] [(.ref y)] rfl ?_
  have SW1132 : own_SW p l e ({ frames := 6, cells := 8, slots := 144, locals := 91 } : Room) s m #[(.ref n), (.ref y)] below meth c n0 Z own_EL "com/example/nearfar_cache/nearfarcache/redis/RedisKeys" T1124 h1118 [] 2 40 := rb1131 _ _ _ _ [] [] S1128 (Keep.refl _ _) all0 all0
  refine own_ldcO CW SW1132 (own_wd hw 119 rfl) (by decide +kernel) 12 (by decide) (by decide) (by decide) (by decide) ?_
  intro T1133 h1134 a1135 SW1136 E1137
  have f1138 : n0 ≤ h1134.size := (Nat.le_trans f1122 E1137.1)
  refine own_lift CW SW1136 ?_
  intro vm1145 C S1146 rb1147
  refine own_callS C S1146 (own_wd hw 118 rfl) (own_wd hw 51 rfl) (own_wd hw 52 rfl) (own_wd hw 53 rfl) (by decide) (own_Met.pay (own_rnn2 l Z a0 hw y a1135 h1134 n0 f1138) C 0 (own_wd hw 53 rfl) (own_wd hw 52 rfl) (by decide) (by decide)) (fun _ _ _ q => q.2) [(.ref y), (.ref a1135)] [] rfl own_pd20 rfl rfl rfl (Nat.le_of_ble_eq_true rfl) (by decide) (by decide) (by decide +kernel) ?_
  rintro T1140 h1141 v1142 L1143 S1144 ⟨⟨rfl, e1139⟩, -⟩
  replace S1144 : own_S p l e ({ frames := 6, cells := 8, slots := 144, locals := 91 } : Room) (s.setVm vm1145) m #[(.ref n), (.ref y)] below meth c n0 T1140 h1141 4 56 := S1144
  rw [e1139] at S1144; clear e1139
  show own_Go p e below _ T1140 (mkF m 13 #[.val (.ref n), .val (.ref y)] [(.ref y)])
  refine own_seg C S1144 [(13, .pop, 1)] (by decide +kernel) 14 #[.val (.ref n), .val (.ref y)] [] rfl ?_
  refine own_new C S1144 (own_wd hw 120 rfl) (own_wd hw 121 rfl) (own_wd hw 122 rfl) (by decide +kernel) (by decide) (by decide) ?_
  intro T1148 h1150 a1151 S1149 g1152 E1153 x1154 D1155
  have f1156 : Fld Z h1150 a1151 "java/lang/AbstractStringBuilder" "value" "[B" .null := D1155 (ty := (.array .byte)) (Or.inl (own_wd hw 135 rfl)) own_fd0
  have f1157 : Fld Z h1150 a1151 "java/lang/AbstractStringBuilder" "coder" "B" (.int (0 : Int32)) := D1155 (ty := .byte) (Or.inl (own_wd hw 137 rfl)) own_fd1
  have f1158 : Fld Z h1150 a1151 "java/lang/AbstractStringBuilder" "count" "I" (.int (0 : Int32)) := D1155 (ty := .int) (Or.inl (own_wd hw 155 rfl)) own_fd2
  refine own_seg C S1149 [(17, .dup, 1)] (by decide +kernel) 18 #[.val (.ref n), .val (.ref y)] [(.ref a1151), (.ref a1151)] rfl ?_
  have f1159 : Old Z n0 h1150 := (((X00.ext E1121).ext E1137).ext E1153)
  have f1160 : n0 ≤ h1150.size := (Nat.le_trans f1138 E1153.1)
  have g1161 : n0 ≤ a1151 := by rw [g1152]; exact f1138
  refine own_callI C S1149 rfl (own_wd hw 123 rfl) (own_wd hw 124 rfl) (own_wd hw 125 rfl) (by decide) (own_Met.pay (own_sbI l Z a0 hw G1 G3 a1151 h1150 n0 f1160 g1161 f1159 x1154 f1156 f1157 f1158 O2 O4 P5 rG3) C 1 (own_wd hw 125 rfl) (own_wd hw 122 rfl) (by decide) (by decide)) (fun _ _ _ q => q.2) [] [(.ref a1151)] rfl own_pd19 rfl rfl rfl (Nat.le_of_ble_eq_true rfl) (by decide) (by decide) (by decide +kernel) ?_
  rintro T1171 h1172 v1173 L1174 S1175 ⟨⟨a1162, k1163, rfl, g1164, K1165, f1166, f1167, f1168, f1169, f1170⟩, -⟩
  replace S1175 : own_S p l e ({ frames := 6, cells := 8, slots := 144, locals := 91 } : Room) (s.setVm vm1145) m #[(.ref n), (.ref y)] below meth c n0 T1171 h1172 6 76 := S1175
  show own_Go p e below _ T1171 (mkF m 21 #[.val (.ref n), .val (.ref y)] [(.ref a1151)])
  refine own_seg C S1175 [(21, .aload_n 0, 1)] (by decide +kernel) 22 #[.val (.ref n), .val (.ref y)] [(.ref n), (.ref a1151)] rfl ?_
  have f1176 : n < h1134.size := (Nat.lt_of_lt_of_le (Nat.lt_of_lt_of_le nE.lt E1121.1) E1137.1)
  have n1177 : n ≠ a1151 := by rw [g1152]; exact Nat.ne_of_lt f1176
  have f1178 : Fld Z h1172 n "com/example/nearfar_cache/nearfarcache/Namespace" "name" "Ljava/lang/String;" (.ref x) := ((Fld.ext E1153 (Fld.ext E1137 (Fld.ext E1121 nN))).keep K1165 (ninS n1177 nin0))
  have f1179 : n0 ≤ h1172.size := (Nat.le_trans f1160 K1165.1)
  have f1186 : Exa Z h1172 n "com/example/nearfar_cache/nearfarcache/Namespace" := ((Exa.ext E1153 (Exa.ext E1137 (Exa.ext E1121 nE))).keep K1165)
  refine own_callV C S1175 (own_wd hw 138 rfl) (own_wd hw 139 rfl) (own_wd hw 141 rfl) (y' := ⟨"com/example/nearfar_cache/nearfarcache/Namespace", "name", "()Ljava/lang/String;"⟩) rfl (own_wd hw 141 rfl) (own_wd hw 140 rfl) (by decide) (own_Met.pay (own_nsn l Z a0 hw n x h1172 n0 f1179 f1178) C 1 (own_wd hw 142 rfl) (own_wd hw 39 rfl) (by decide) (by decide)) (fun _ _ _ q => q.2) f1186 [] [(.ref a1151)] rfl own_pd23 rfl rfl rfl (Nat.le_of_ble_eq_true rfl) (by decide) (by decide) (by decide +kernel) ?_
  rintro T1181 h1182 v1183 L1184 S1185 ⟨⟨rfl, e1180⟩, -⟩
  replace S1185 : own_S p l e ({ frames := 6, cells := 8, slots := 144, locals := 91 } : Room) (s.setVm vm1145) m #[(.ref n), (.ref y)] below meth c n0 T1181 h1182 6 76 := S1185
  rw [e1180] at S1185; clear e1180
  show own_Go p e below _ T1181 (mkF m 25 #[.val (.ref n), .val (.ref y)] [(.ref x), (.ref a1151)])
  have f1187 : Old Z n0 h1172 := (f1159.keep K1165 (allS g1161 all0))
  have f1188 : Exa Z h1172 x "java/lang/String" := ((Exa.ext E1153 (Exa.ext E1137 (Exa.ext E1121 xE))).keep K1165)
  have f1189 : x < h1134.size := (Nat.lt_of_lt_of_le (Nat.lt_of_lt_of_le xE.lt E1121.1) E1137.1)
  have n1190 : x ≠ a1151 := by rw [g1152]; exact Nat.ne_of_lt f1189
  have f1191 : Fld Z h1172 x "java/lang/String" "value" "[B" (.ref xt) := ((Fld.ext E1153 (Fld.ext E1137 (Fld.ext E1121 xV))).keep K1165 (ninS n1190 nin0))
  have f1192 : Fld Z h1172 x "java/lang/String" "coder" "B" (.int 0) := ((Fld.ext E1153 (Fld.ext E1137 (Fld.ext E1121 xC))).keep K1165 (ninS n1190 nin0))
  have f1193 : xt < h1134.size := (Nat.lt_of_lt_of_le (Nat.lt_of_lt_of_le xK.lt E1121.1) E1137.1)
  have n1194 : xt ≠ a1151 := by rw [g1152]; exact Nat.ne_of_lt f1193
  have f1195 : Arv Z h1172 xt xk .byte (2 : Int32) ([(.int x0.toInt8.toInt32), (.int x1.toInt8.toInt32)]) (.int 0) := ((((xK.ext E1121).ext E1137).ext E1153).keep K1165 (ninS n1194 nin0))
  have g1196 : n0 ≤ a1162 := Nat.le_trans f1160 g1164
  have f1197 : xt < h1150.size := (Nat.lt_of_lt_of_le f1193 E1153.1)
  have n1198 : xt ≠ a1162 := Nat.ne_of_lt (Nat.lt_of_lt_of_le f1197 g1164)
  have f1199 : x < h1150.size := (Nat.lt_of_lt_of_le f1189 E1153.1)
  have n1200 : x ≠ a1162 := Nat.ne_of_lt (Nat.lt_of_lt_of_le f1199 g1164)
  have n1201 : a1151 ≠ a1162 := Nat.ne_of_lt (Nat.lt_of_lt_of_le f1156.lt g1164)
  refine own_callV C S1185 (own_wd hw 143 rfl) (own_wd hw 144 rfl) (own_wd hw 146 rfl) (y' := ⟨"java/lang/StringBuilder", "append", "(Ljava/lang/String;)Ljava/lang/StringBuilder;"⟩) rfl (own_wd hw 146 rfl) (own_wd hw 145 rfl) (by decide) (own_Met.pay (own_sbA l Z a0 hw G1 G3 x xt xk (2 : Int32) ([(.int x0.toInt8.toInt32), (.int x1.toInt8.toInt32)]) ([x0, x1] : List Int32) a1151 a1162 k1163 (16 : Int32) ([(.int (0 : Int32)), (.int (0 : Int32)), (.int (0 : Int32)), (.int (0 : Int32)), (.int (0 : Int32)), (.int (0 : Int32)), (.int (0 : Int32)), (.int (0 : Int32)), (.int (0 : Int32)), (.int (0 : Int32)), (.int (0 : Int32)), (.int (0 : Int32)), (.int (0 : Int32)), (.int (0 : Int32)), (.int (0 : Int32)), (.int (0 : Int32))]) (0 : Int32) ([(.int x0.toInt8.toInt32), (.int x1.toInt8.toInt32), (.int (0 : Int32)), (.int (0 : Int32)), (.int (0 : Int32)), (.int (0 : Int32)), (.int (0 : Int32)), (.int (0 : Int32)), (.int (0 : Int32)), (.int (0 : Int32)), (.int (0 : Int32)), (.int (0 : Int32)), (.int (0 : Int32)), (.int (0 : Int32)), (.int (0 : Int32)), (.int (0 : Int32))]) h1172 n0 f1179 g1161 g1196 f1187 f1188 f1191 f1192 f1195 f1166 f1167 f1168 f1169 f1170 n1198 n1194 n1190 n1200 (Ne.symm n1201) O2 O4 P5 rG3 hcd1110 hp1109 (Nat.le_of_ble_eq_true rfl) (by decide) (by decide) (by decide) (by decide) (Nat.le_of_ble_eq_true rfl) rfl) C 0 (own_wd hw 147 rfl) (own_wd hw 122 rfl) (by decide) (by decide)) (fun _ _ _ q => q.2) f1166 [(.ref x)] [] rfl own_pd24 rfl rfl rfl (Nat.le_of_ble_eq_true rfl) (by decide) (by decide) (by decide +kernel) ?_
  rintro T1208 h1209 v1210 L1211 S1212 ⟨⟨rfl, K1202, f1203, f1204, f1205, f1206, f1207⟩, -⟩
  replace S1212 : own_S p l e ({ frames := 6, cells := 8, slots := 144, locals := 91 } : Room) (s.setVm vm1145) m #[(.ref n), (.ref y)] below meth c n0 T1208 h1209 6 76 := S1212
  have f1213 : Fld Z h1209 a1151 "java/lang/AbstractStringBuilder" "count" "I" (.int (2 : Int32)) := f1206
  show own_Go p e below _ T1208 (mkF m 28 #[.val (.ref n), .val (.ref y)] [(.ref a1151)])
  refine own_seg C S1212 [(28, .bipush 58, 2)] (by decide +kernel) 30 #[.val (.ref n), .val (.ref y)] [(.int (58 : Int32)), (.ref a1151)] rfl ?_
  have f1214 : Old Z n0 h1209 := (f1187.keep K1202 (allS g1161 (allS g1196 all0)))
  have f1215 : n0 ≤ h1209.size := (Nat.le_trans f1179 K1202.1)
  refine own_callV C S1212 (own_wd hw 181 rfl) (own_wd hw 182 rfl) (own_wd hw 184 rfl) (y' := ⟨"java/lang/StringBuilder", "append", "(C)Ljava/lang/StringBuilder;"⟩) rfl (own_wd hw 184 rfl) (own_wd hw 183 rfl) (by decide) (own_Met.pay (own_sbC l Z a0 hw G1 G3 a1151 a1162 k1163 (16 : Int32) ([(.int x0.toInt8.toInt32), (.int x1.toInt8.toInt32), (.int (0 : Int32)), (.int (0 : Int32)), (.int (0 : Int32)), (.int (0 : Int32)), (.int (0 : Int32)), (.int (0 : Int32)), (.int (0 : Int32)), (.int (0 : Int32)), (.int (0 : Int32)), (.int (0 : Int32)), (.int (0 : Int32)), (.int (0 : Int32)), (.int (0 : Int32)), (.int (0 : Int32))]) (2 : Int32) (58 : Int32) ([(.int x0.toInt8.toInt32), (.int x1.toInt8.toInt32), (.int (58 : Int32)), (.int (0 : Int32)), (.int (0 : Int32)), (.int (0 : Int32)), (.int (0 : Int32)), (.int (0 : Int32)), (.int (0 : Int32)), (.int (0 : Int32)), (.int (0 : Int32)), (.int (0 : Int32)), (.int (0 : Int32)), (.int (0 : Int32)), (.int (0 : Int32)), (.int (0 : Int32))]) h1209 n0 f1215 g1161 g1196 f1214 f1203 f1204 f1205 f1213 f1207 (Ne.symm n1201) O2 O4 P5 rG3 (by decide) (by decide) (by decide) (Nat.le_of_ble_eq_true rfl) rfl) C 0 (own_wd hw 185 rfl) (own_wd hw 122 rfl) (by decide) (by decide)) (fun _ _ _ q => q.2) f1203 [(.int (58 : Int32))] [] rfl own_pd25 rfl rfl rfl (Nat.le_of_ble_eq_true rfl) (by decide) (by decide) (by decide +kernel) ?_
  rintro T1222 h1223 v1224 L1225 S1226 ⟨⟨rfl, K1216, f1217, f1218, f1219, f1220, f1221⟩, -⟩
  replace S1226 : own_S p l e ({ frames := 6, cells := 8, slots := 144, locals := 91 } : Room) (s.setVm vm1145) m #[(.ref n), (.ref y)] below meth c n0 T1222 h1223 6 76 := S1226
  have f1227 : Fld Z h1223 a1151 "java/lang/AbstractStringBuilder" "count" "I" (.int (3 : Int32)) := f1220
  show own_Go p e below _ T1222 (mkF m 33 #[.val (.ref n), .val (.ref y)] [(.ref a1151)])
  refine own_seg C S1226 [(33, .aload_n 1, 1)] (by decide +kernel) 34 #[.val (.ref n), .val (.ref y)] [(.ref y), (.ref a1151)] rfl ?_
  have f1228 : Old Z n0 h1223 := (f1214.keep K1216 (allS g1161 (allS g1196 all0)))
  have f1229 : Exa Z h1223 y "java/lang/String" := ((((Exa.ext E1153 (Exa.ext E1137 (Exa.ext E1121 yE))).keep K1165).keep K1202).keep K1216)
  have f1230 : y < h1134.size := (Nat.lt_of_lt_of_le (Nat.lt_of_lt_of_le yE.lt E1121.1) E1137.1)
  have n1231 : y ≠ a1151 := by rw [g1152]; exact Nat.ne_of_lt f1230
  have f1232 : y < h1150.size := (Nat.lt_of_lt_of_le f1230 E1153.1)
  have n1233 : y ≠ a1162 := Nat.ne_of_lt (Nat.lt_of_lt_of_le f1232 g1164)
  have f1234 : Fld Z h1223 y "java/lang/String" "value" "[B" (.ref yt) := ((((Fld.ext E1153 (Fld.ext E1137 (Fld.ext E1121 yV))).keep K1165 (ninS n1231 nin0)).keep K1202 (ninS n1231 (ninS n1233 nin0))).keep K1216 (ninS n1231 (ninS n1233 nin0)))
  have f1235 : Fld Z h1223 y "java/lang/String" "coder" "B" (.int 0) := ((((Fld.ext E1153 (Fld.ext E1137 (Fld.ext E1121 yC))).keep K1165 (ninS n1231 nin0)).keep K1202 (ninS n1231 (ninS n1233 nin0))).keep K1216 (ninS n1231 (ninS n1233 nin0)))
  have f1236 : yt < h1134.size := (Nat.lt_of_lt_of_le (Nat.lt_of_lt_of_le yK.lt E1121.1) E1137.1)
  have n1237 : yt ≠ a1151 := by rw [g1152]; exact Nat.ne_of_lt f1236
  have f1238 : yt < h1150.size := (Nat.lt_of_lt_of_le f1236 E1153.1)
  have n1239 : yt ≠ a1162 := Nat.ne_of_lt (Nat.lt_of_lt_of_le f1238 g1164)
  have f1240 : Arv Z h1223 yt yk .byte (0 : Int32) ([]) (.int 0) := ((((((yK.ext E1121).ext E1137).ext E1153).keep K1165 (ninS n1237 nin0)).keep K1202 (ninS n1237 (ninS n1239 nin0))).keep K1216 (ninS n1237 (ninS n1239 nin0)))
  have f1241 : n0 ≤ h1223.size := (Nat.le_trans f1215 K1216.1)
  refine own_callV C S1226 (own_wd hw 143 rfl) (own_wd hw 144 rfl) (own_wd hw 146 rfl) (y' := ⟨"java/lang/StringBuilder", "append", "(Ljava/lang/String;)Ljava/lang/StringBuilder;"⟩) rfl (own_wd hw 146 rfl) (own_wd hw 145 rfl) (by decide) (own_Met.pay (own_sbA l Z a0 hw G1 G3 y yt yk (0 : Int32) ([]) ([] : List Int32) a1151 a1162 k1163 (16 : Int32) ([(.int x0.toInt8.toInt32), (.int x1.toInt8.toInt32), (.int (58 : Int32)), (.int (0 : Int32)), (.int (0 : Int32)), (.int (0 : Int32)), (.int (0 : Int32)), (.int (0 : Int32)), (.int (0 : Int32)), (.int (0 : Int32)), (.int (0 : Int32)), (.int (0 : Int32)), (.int (0 : Int32)), (.int (0 : Int32)), (.int (0 : Int32)), (.int (0 : Int32))]) (3 : Int32) ([(.int x0.toInt8.toInt32), (.int x1.toInt8.toInt32), (.int (58 : Int32)), (.int (0 : Int32)), (.int (0 : Int32)), (.int (0 : Int32)), (.int (0 : Int32)), (.int (0 : Int32)), (.int (0 : Int32)), (.int (0 : Int32)), (.int (0 : Int32)), (.int (0 : Int32)), (.int (0 : Int32)), (.int (0 : Int32)), (.int (0 : Int32)), (.int (0 : Int32))]) h1223 n0 f1241 g1161 g1196 f1228 f1229 f1234 f1235 f1240 f1217 f1218 f1219 f1227 f1221 n1239 n1237 n1231 n1233 (Ne.symm n1201) O2 O4 P5 rG3 hcd1112 hp1111 (Nat.le_of_ble_eq_true rfl) (by decide) (by decide) (by decide) (by decide) (Nat.le_of_ble_eq_true rfl) rfl) C 0 (own_wd hw 147 rfl) (own_wd hw 122 rfl) (by decide) (by decide)) (fun _ _ _ q => q.2) f1217 [(.ref y)] [] rfl own_pd24 rfl rfl rfl (Nat.le_of_ble_eq_true rfl) (by decide) (by decide) (by decide +kernel) ?_
  rintro T1248 h1249 v1250 L1251 S1252 ⟨⟨rfl, K1242, f1243, f1244, f1245, f1246, f1247⟩, -⟩
  replace S1252 : own_S p l e ({ frames := 6, cells := 8, slots := 144, locals := 91 } : Room) (s.setVm vm1145) m #[(.ref n), (.ref y)] below meth c n0 T1248 h1249 6 76 := S1252
  have f1253 : Fld Z h1249 a1151 "java/lang/AbstractStringBuilder" "count" "I" (.int (3 : Int32)) := f1246
  show own_Go p e below _ T1248 (mkF m 37 #[.val (.ref n), .val (.ref y)] [(.ref a1151)])
  have f1254 : Old Z n0 h1249 := (f1228.keep K1242 (allS g1161 (allS g1196 all0)))
  have f1255 : n0 ≤ h1249.size := (Nat.le_trans f1241 K1242.1)
  refine own_callV C S1252 (own_wd hw 198 rfl) (own_wd hw 199 rfl) (own_wd hw 201 rfl) (y' := ⟨"java/lang/StringBuilder", "toString", "()Ljava/lang/String;"⟩) rfl (own_wd hw 201 rfl) (own_wd hw 200 rfl) (by decide) (own_Met.pay (own_ts l Z a0 hw G1 G3 a1151 a1162 k1163 (16 : Int32) ([(.int x0.toInt8.toInt32), (.int x1.toInt8.toInt32), (.int (58 : Int32)), (.int (0 : Int32)), (.int (0 : Int32)), (.int (0 : Int32)), (.int (0 : Int32)), (.int (0 : Int32)), (.int (0 : Int32)), (.int (0 : Int32)), (.int (0 : Int32)), (.int (0 : Int32)), (.int (0 : Int32)), (.int (0 : Int32)), (.int (0 : Int32)), (.int (0 : Int32))]) (3 : Int32) ([(.int x0.toInt8.toInt32), (.int x1.toInt8.toInt32), (.int (58 : Int32))]) h1249 n0 f1255 f1254 f1243 f1244 f1245 f1253 f1247 O2 O4 P5 rG3 (by decide) (by decide) (by decide) (by decide) rfl) C 0 (own_wd hw 202 rfl) (own_wd hw 122 rfl) (by decide) (by decide)) (fun _ _ _ q => q.2) f1243 [] [] rfl own_pd23 rfl rfl rfl (Nat.le_of_ble_eq_true rfl) (by decide) (by decide) (by decide +kernel) ?_
  rintro T1266 h1267 v1268 L1269 S1270 ⟨⟨a1256, a1257, k1258, rfl, g1259, g1260, K1261, f1262, f1263, f1264, f1265⟩, -⟩
  replace S1270 : own_S p l e ({ frames := 6, cells := 8, slots := 144, locals := 91 } : Room) (s.setVm vm1145) m #[(.ref n), (.ref y)] below meth c n0 T1266 h1267 8 144 := S1270
  show own_Go p e below _ T1266 (mkF m 40 #[.val (.ref n), .val (.ref y)] [(.ref a1256)])
  have f1271 : a1162 < h1267.size := (Nat.lt_of_lt_of_le (Nat.lt_of_lt_of_le (Nat.lt_of_lt_of_le (Nat.lt_of_lt_of_le f1170.lt K1202.1) K1216.1) K1242.1) K1261.1)
  have f1272 : a1151 < h1267.size := (Nat.lt_of_lt_of_le (Nat.lt_of_lt_of_le (Nat.lt_of_lt_of_le (Nat.lt_of_lt_of_le (Nat.lt_of_lt_of_le f1156.lt K1165.1) K1202.1) K1216.1) K1242.1) K1261.1)
  have SW1273 : own_SW p l e ({ frames := 6, cells := 8, slots := 144, locals := 91 } : Room) s m #[(.ref n), (.ref y)] below meth c n0 Z own_EL "com/example/nearfar_cache/nearfarcache/redis/RedisKeys" T1266 h1267 [a1151, a1162, a1256, a1257] 8 144 := rb1147 _ _ _ _ [] [a1151, a1162, a1256, a1257] S1270 (((((((Keep.refl _ _).ext E1153).trans K1165 (allS (Or.inr (by rw [g1152]; exact (Nat.le_refl _))) all0)).trans K1202 (allS (Or.inr (by rw [g1152]; exact (Nat.le_refl _))) (allS (Or.inr (Nat.le_trans (Nat.le_trans (Nat.le_refl _) E1153.1) g1164)) all0))).trans K1216 (allS (Or.inr (by rw [g1152]; exact (Nat.le_refl _))) (allS (Or.inr (Nat.le_trans (Nat.le_trans (Nat.le_refl _) E1153.1) g1164)) all0))).trans K1242 (allS (Or.inr (by rw [g1152]; exact (Nat.le_refl _))) (allS (Or.inr (Nat.le_trans (Nat.le_trans (Nat.le_refl _) E1153.1) g1164)) all0))).trans K1261 all0) all0 (allS ⟨(by rw [g1152]; exact (Nat.le_refl _)), f1272⟩ (allS ⟨(Nat.le_trans (Nat.le_trans (Nat.le_refl _) E1153.1) g1164), f1271⟩ (allS ⟨(Nat.le_trans (Nat.le_trans (Nat.le_trans (Nat.le_trans (Nat.le_trans (Nat.le_trans (Nat.le_refl _) E1153.1) K1165.1) K1202.1) K1216.1) K1242.1) g1259), f1262.lt⟩ (allS ⟨(Nat.le_trans (Nat.le_trans (Nat.le_trans (Nat.le_trans (Nat.le_trans (Nat.le_trans (Nat.le_refl _) E1153.1) K1165.1) K1202.1) K1216.1) K1242.1) g1260), f1265.lt⟩ all0))))
  refine own_retAW CW SW1273 rfl rfl (by decide +kernel) (by decide) (by decide) ?_
  exact ⟨a1256, a1257, k1258, rfl, (Nat.le_trans (Nat.le_trans (Nat.le_trans (Nat.le_trans (Nat.le_trans (Nat.le_trans (Nat.le_trans (Nat.le_trans (Nat.le_refl _) E1121.1) E1137.1) E1153.1) K1165.1) K1202.1) K1216.1) K1242.1) g1259), (Nat.le_trans (Nat.le_trans (Nat.le_trans (Nat.le_trans (Nat.le_trans (Nat.le_trans (Nat.le_trans (Nat.le_trans (Nat.le_refl _) E1121.1) E1137.1) E1153.1) K1165.1) K1202.1) K1216.1) K1242.1) g1260), (((((((((Keep.refl _ _).ext E1121).ext E1137).ext E1153).trans K1165 (allS (Or.inr (by rw [g1152]; exact (Nat.le_trans (Nat.le_trans (Nat.le_refl _) E1121.1) E1137.1))) all0)).trans K1202 (allS (Or.inr (by rw [g1152]; exact (Nat.le_trans (Nat.le_trans (Nat.le_refl _) E1121.1) E1137.1))) (allS (Or.inr (Nat.le_trans (Nat.le_trans (Nat.le_trans (Nat.le_trans (Nat.le_refl _) E1121.1) E1137.1) E1153.1) g1164)) all0))).trans K1216 (allS (Or.inr (by rw [g1152]; exact (Nat.le_trans (Nat.le_trans (Nat.le_refl _) E1121.1) E1137.1))) (allS (Or.inr (Nat.le_trans (Nat.le_trans (Nat.le_trans (Nat.le_trans (Nat.le_refl _) E1121.1) E1137.1) E1153.1) g1164)) all0))).trans K1242 (allS (Or.inr (by rw [g1152]; exact (Nat.le_trans (Nat.le_trans (Nat.le_refl _) E1121.1) E1137.1))) (allS (Or.inr (Nat.le_trans (Nat.le_trans (Nat.le_trans (Nat.le_trans (Nat.le_refl _) E1121.1) E1137.1) E1153.1) g1164)) all0))).trans K1261 all0), f1262, f1263, f1264, f1265⟩
set_option maxRecDepth 65536 in
set_option maxHeartbeats 40000000 in
theorem own_of21 (l : Launch) (Z : State) (a0 : Array Value) (hw : ∀ d ∈ tables_1, d.before a0 Z = true) (hEL : EW Z a0 own_EL) (wS : ∀ a ∈ Bundle.stringAtoms, a.before a0 Z = true) (G1 : Int32) (G3 : Value) (n : Addr) (x : Addr) (xt : Addr) (xk : ClassId) (x0 : Int32) (x1 : Int32) (y : Addr) (yt : Addr) (yk : ClassId) (y0 : Int32) (h0 : Heap) (n0 : Nat) (z0 : n0 ≤ h0.size) (X00 : Old Z n0 h0) (nE : Exa Z h0 n "com/example/nearfar_cache/nearfarcache/Namespace") (nN : Fld Z h0 n "com/example/nearfar_cache/nearfarcache/Namespace" "name" "Ljava/lang/String;" (.ref x)) (xE : Exa Z h0 x "java/lang/String") (xV : Fld Z h0 x "java/lang/String" "value" "[B" (.ref xt)) (xC : Fld Z h0 x "java/lang/String" "coder" "B" (.int 0)) (xK : Arv Z h0 xt xk .byte (2 : Int32) ([(.int x0.toInt8.toInt32), (.int x1.toInt8.toInt32)]) (.int 0)) (yE : Exa Z h0 y "java/lang/String") (yV : Fld Z h0 y "java/lang/String" "value" "[B" (.ref yt)) (yC : Fld Z h0 y "java/lang/String" "coder" "B" (.int 0)) (yK : Arv Z h0 yt yk .byte (1 : Int32) ([(.int y0.toInt8.toInt32)]) (.int 0)) (O2 : Sta Z Z.heap "java/lang/String" "COMPACT_STRINGS" "Z" (.int G1)) (O4 : Sta Z Z.heap "jdk/internal/util/Preconditions" "SIOOBE_FORMATTER" "Ljava/util/function/BiFunction;" G3) (P5 : ¬ G1 = (0 : Int32)) (rG3 : G3.isRef = true) (xh0 : ¬ x0 < 0 ∧ ¬ (255 : Int32) < x0) (xh1 : ¬ x1 < 0 ∧ ¬ (255 : Int32) < x1) (yh0 : ¬ y0 < 0 ∧ ¬ (255 : Int32) < y0) :
    own_MetW l Z own_EL (⟨"com/example/nearfar_cache/nearfarcache/redis/RedisKeys", "of", "(Lcom/example/nearfar_cache/nearfarcache/Namespace;Ljava/lang/String;)Ljava/lang/String;"⟩ : MethodName) prog_26_method_2_code 2 (some (.object "java/lang/String")) ({ frames := 6, cells := 8, slots := 144, locals := 91 } : Room) n0 #[(.ref n), (.ref y)] h0 [] (fun v h => ∃ r : Addr, ∃ rt : Addr, ∃ rk : ClassId, v = some (.ref r) ∧ h0.size ≤ r ∧ h0.size ≤ rt ∧ Keep h0 h [] ∧ Exa Z h r "java/lang/String" ∧ Fld Z h r "java/lang/String" "coder" "B" (.int 0) ∧ Fld Z h r "java/lang/String" "value" "[B" (.ref rt) ∧ Arv Z h rt rk .byte (4 : Int32) ([(.int x0.toInt8.toInt32), (.int x1.toInt8.toInt32), (.int (58 : Int32)), (.int y0.toInt8.toInt32)]) (.int 0)) := by
  refine own_metW hEL wS (by decide +kernel) #[.val (.ref n), .val (.ref y)] (fun m => by first | (simp [entryFrame, mkF, argsToLocals, Value.category]; done) | rfl) ?_
  intro p e s m below meth c T0 CW SW0
  have hp1274 : ∀ c ∈ ([x0, x1] : List Int32), ¬ c < 0 ∧ ¬ (255 : Int32) < c := by
    intro c hc; simp only [List.mem_cons, List.not_mem_nil, or_false] at hc
    rcases hc with rfl | rfl
    · exact xh0
    · exact xh1
  have hcd1275 : StrChars.Road.CodA ([x0, x1] : List Int32) 0 (2 : Int32) [(.int x0.toInt8.toInt32), (.int x1.toInt8.toInt32)] := StrChars.Road.codOf (cs := ([x0, x1] : List Int32)) (n := 2) rfl (fun c hc => (hp1274 c hc).2)
  have hp1276 : ∀ c ∈ ([y0] : List Int32), ¬ c < 0 ∧ ¬ (255 : Int32) < c := by
    intro c hc; simp only [List.mem_cons, List.not_mem_nil, or_false] at hc
    rcases hc with rfl
    · exact yh0
  have hcd1277 : StrChars.Road.CodA ([y0] : List Int32) 0 (1 : Int32) [(.int y0.toInt8.toInt32)] := StrChars.Road.codOf (cs := ([y0] : List Int32)) (n := 1) rfl (fun c hc => (hp1276 c hc).2)
  refine own_lift CW SW0 ?_
  intro vm1278 C S1279 rb1280
  refine own_seg C S1279 [(0, .aload_n 0, 1)] (by decide +kernel) 1 #[.val (.ref n), .val (.ref y)] [(.ref n)] rfl ?_
  have SW1281 : own_SW p l e ({ frames := 6, cells := 8, slots := 144, locals := 91 } : Room) s m #[(.ref n), (.ref y)] below meth c n0 Z own_EL "com/example/nearfar_cache/nearfarcache/redis/RedisKeys" T0 h0 [] 0 0 := rb1280 _ _ _ _ [] [] S1279 (Keep.refl _ _) all0 all0
  refine own_ldcO CW SW1281 (own_wd hw 117 rfl) (by decide +kernel) 36 (by decide) (by decide) (by decide) (by decide) ?_
  intro T1282 h1283 a1284 SW1285 E1286
  have f1287 : n0 ≤ h1283.size := (Nat.le_trans z0 E1286.1)
  refine own_lift CW SW1285 ?_
  intro vm1294 C S1295 rb1296
  refine own_callS C S1295 (own_wd hw 118 rfl) (own_wd hw 51 rfl) (own_wd hw 52 rfl) (own_wd hw 53 rfl) (by decide) (own_Met.pay (own_rnn2 l Z a0 hw n a1284 h1283 n0 f1287) C 0 (own_wd hw 53 rfl) (own_wd hw 52 rfl) (by decide) (by decide)) (fun _ _ _ q => q.2) [(.ref n), (.ref a1284)] [] rfl own_pd20 rfl rfl rfl (Nat.le_of_ble_eq_true rfl) (by decide) (by decide) (by decide +kernel) ?_
  rintro T1289 h1290 v1291 L1292 S1293 ⟨⟨rfl, e1288⟩, -⟩
  replace S1293 : own_S p l e ({ frames := 6, cells := 8, slots := 144, locals := 91 } : Room) (s.setVm vm1294) m #[(.ref n), (.ref y)] below meth c n0 T1289 h1290 2 40 := S1293
  rw [e1288] at S1293; clear e1288
  show own_Go p e below _ T1289 (mkF m 6 #[.val (.ref n), .val (.ref y)] [(.ref n)])
  refine own_seg C S1293 [(6, .pop, 1), (7, .aload_n 1, 1)] (by decide +kernel) 8 #[.val (.ref n), .val (.ref y)] [(.ref y)] rfl ?_
  have SW1297 : own_SW p l e ({ frames := 6, cells := 8, slots := 144, locals := 91 } : Room) s m #[(.ref n), (.ref y)] below meth c n0 Z own_EL "com/example/nearfar_cache/nearfarcache/redis/RedisKeys" T1289 h1283 [] 2 40 := rb1296 _ _ _ _ [] [] S1293 (Keep.refl _ _) all0 all0
  refine own_ldcO CW SW1297 (own_wd hw 119 rfl) (by decide +kernel) 12 (by decide) (by decide) (by decide) (by decide) ?_
  intro T1298 h1299 a1300 SW1301 E1302
  have f1303 : n0 ≤ h1299.size := (Nat.le_trans f1287 E1302.1)
  refine own_lift CW SW1301 ?_
  intro vm1310 C S1311 rb1312
  refine own_callS C S1311 (own_wd hw 118 rfl) (own_wd hw 51 rfl) (own_wd hw 52 rfl) (own_wd hw 53 rfl) (by decide) (own_Met.pay (own_rnn2 l Z a0 hw y a1300 h1299 n0 f1303) C 0 (own_wd hw 53 rfl) (own_wd hw 52 rfl) (by decide) (by decide)) (fun _ _ _ q => q.2) [(.ref y), (.ref a1300)] [] rfl own_pd20 rfl rfl rfl (Nat.le_of_ble_eq_true rfl) (by decide) (by decide) (by decide +kernel) ?_
  rintro T1305 h1306 v1307 L1308 S1309 ⟨⟨rfl, e1304⟩, -⟩
  replace S1309 : own_S p l e ({ frames := 6, cells := 8, slots := 144, locals := 91 } : Room) (s.setVm vm1310) m #[(.ref n), (.ref y)] below meth c n0 T1305 h1306 4 56 := S1309
  rw [e1304] at S1309; clear e1304
  show own_Go p e below _ T1305 (mkF m 13 #[.val (.ref n), .val (.ref y)] [(.ref y)])
  refine own_seg C S1309 [(13, .pop, 1)] (by decide +kernel) 14 #[.val (.ref n), .val (.ref y)] [] rfl ?_
  refine own_new C S1309 (own_wd hw 120 rfl) (own_wd hw 121 rfl) (own_wd hw 122 rfl) (by decide +kernel) (by decide) (by decide) ?_
  intro T1313 h1315 a1316 S1314 g1317 E1318 x1319 D1320
  have f1321 : Fld Z h1315 a1316 "java/lang/AbstractStringBuilder" "value" "[B" .null := D1320 (ty := (.array .byte)) (Or.inl (own_wd hw 135 rfl)) own_fd0
  have f1322 : Fld Z h1315 a1316 "java/lang/AbstractStringBuilder" "coder" "B" (.int (0 : Int32)) := D1320 (ty := .byte) (Or.inl (own_wd hw 137 rfl)) own_fd1
  have f1323 : Fld Z h1315 a1316 "java/lang/AbstractStringBuilder" "count" "I" (.int (0 : Int32)) := D1320 (ty := .int) (Or.inl (own_wd hw 155 rfl)) own_fd2
  refine own_seg C S1314 [(17, .dup, 1)] (by decide +kernel) 18 #[.val (.ref n), .val (.ref y)] [(.ref a1316), (.ref a1316)] rfl ?_
  have f1324 : Old Z n0 h1315 := (((X00.ext E1286).ext E1302).ext E1318)
  have f1325 : n0 ≤ h1315.size := (Nat.le_trans f1303 E1318.1)
  have g1326 : n0 ≤ a1316 := by rw [g1317]; exact f1303
  refine own_callI C S1314 rfl (own_wd hw 123 rfl) (own_wd hw 124 rfl) (own_wd hw 125 rfl) (by decide) (own_Met.pay (own_sbI l Z a0 hw G1 G3 a1316 h1315 n0 f1325 g1326 f1324 x1319 f1321 f1322 f1323 O2 O4 P5 rG3) C 1 (own_wd hw 125 rfl) (own_wd hw 122 rfl) (by decide) (by decide)) (fun _ _ _ q => q.2) [] [(.ref a1316)] rfl own_pd19 rfl rfl rfl (Nat.le_of_ble_eq_true rfl) (by decide) (by decide) (by decide +kernel) ?_
  rintro T1336 h1337 v1338 L1339 S1340 ⟨⟨a1327, k1328, rfl, g1329, K1330, f1331, f1332, f1333, f1334, f1335⟩, -⟩
  replace S1340 : own_S p l e ({ frames := 6, cells := 8, slots := 144, locals := 91 } : Room) (s.setVm vm1310) m #[(.ref n), (.ref y)] below meth c n0 T1336 h1337 6 76 := S1340
  show own_Go p e below _ T1336 (mkF m 21 #[.val (.ref n), .val (.ref y)] [(.ref a1316)])
  refine own_seg C S1340 [(21, .aload_n 0, 1)] (by decide +kernel) 22 #[.val (.ref n), .val (.ref y)] [(.ref n), (.ref a1316)] rfl ?_
  have f1341 : n < h1299.size := (Nat.lt_of_lt_of_le (Nat.lt_of_lt_of_le nE.lt E1286.1) E1302.1)
  have n1342 : n ≠ a1316 := by rw [g1317]; exact Nat.ne_of_lt f1341
  have f1343 : Fld Z h1337 n "com/example/nearfar_cache/nearfarcache/Namespace" "name" "Ljava/lang/String;" (.ref x) := ((Fld.ext E1318 (Fld.ext E1302 (Fld.ext E1286 nN))).keep K1330 (ninS n1342 nin0))
  have f1344 : n0 ≤ h1337.size := (Nat.le_trans f1325 K1330.1)
  have f1351 : Exa Z h1337 n "com/example/nearfar_cache/nearfarcache/Namespace" := ((Exa.ext E1318 (Exa.ext E1302 (Exa.ext E1286 nE))).keep K1330)
  refine own_callV C S1340 (own_wd hw 138 rfl) (own_wd hw 139 rfl) (own_wd hw 141 rfl) (y' := ⟨"com/example/nearfar_cache/nearfarcache/Namespace", "name", "()Ljava/lang/String;"⟩) rfl (own_wd hw 141 rfl) (own_wd hw 140 rfl) (by decide) (own_Met.pay (own_nsn l Z a0 hw n x h1337 n0 f1344 f1343) C 1 (own_wd hw 142 rfl) (own_wd hw 39 rfl) (by decide) (by decide)) (fun _ _ _ q => q.2) f1351 [] [(.ref a1316)] rfl own_pd23 rfl rfl rfl (Nat.le_of_ble_eq_true rfl) (by decide) (by decide) (by decide +kernel) ?_
  rintro T1346 h1347 v1348 L1349 S1350 ⟨⟨rfl, e1345⟩, -⟩
  replace S1350 : own_S p l e ({ frames := 6, cells := 8, slots := 144, locals := 91 } : Room) (s.setVm vm1310) m #[(.ref n), (.ref y)] below meth c n0 T1346 h1347 6 76 := S1350
  rw [e1345] at S1350; clear e1345
  show own_Go p e below _ T1346 (mkF m 25 #[.val (.ref n), .val (.ref y)] [(.ref x), (.ref a1316)])
  have f1352 : Old Z n0 h1337 := (f1324.keep K1330 (allS g1326 all0))
  have f1353 : Exa Z h1337 x "java/lang/String" := ((Exa.ext E1318 (Exa.ext E1302 (Exa.ext E1286 xE))).keep K1330)
  have f1354 : x < h1299.size := (Nat.lt_of_lt_of_le (Nat.lt_of_lt_of_le xE.lt E1286.1) E1302.1)
  have n1355 : x ≠ a1316 := by rw [g1317]; exact Nat.ne_of_lt f1354
  have f1356 : Fld Z h1337 x "java/lang/String" "value" "[B" (.ref xt) := ((Fld.ext E1318 (Fld.ext E1302 (Fld.ext E1286 xV))).keep K1330 (ninS n1355 nin0))
  have f1357 : Fld Z h1337 x "java/lang/String" "coder" "B" (.int 0) := ((Fld.ext E1318 (Fld.ext E1302 (Fld.ext E1286 xC))).keep K1330 (ninS n1355 nin0))
  have f1358 : xt < h1299.size := (Nat.lt_of_lt_of_le (Nat.lt_of_lt_of_le xK.lt E1286.1) E1302.1)
  have n1359 : xt ≠ a1316 := by rw [g1317]; exact Nat.ne_of_lt f1358
  have f1360 : Arv Z h1337 xt xk .byte (2 : Int32) ([(.int x0.toInt8.toInt32), (.int x1.toInt8.toInt32)]) (.int 0) := ((((xK.ext E1286).ext E1302).ext E1318).keep K1330 (ninS n1359 nin0))
  have g1361 : n0 ≤ a1327 := Nat.le_trans f1325 g1329
  have f1362 : xt < h1315.size := (Nat.lt_of_lt_of_le f1358 E1318.1)
  have n1363 : xt ≠ a1327 := Nat.ne_of_lt (Nat.lt_of_lt_of_le f1362 g1329)
  have f1364 : x < h1315.size := (Nat.lt_of_lt_of_le f1354 E1318.1)
  have n1365 : x ≠ a1327 := Nat.ne_of_lt (Nat.lt_of_lt_of_le f1364 g1329)
  have n1366 : a1316 ≠ a1327 := Nat.ne_of_lt (Nat.lt_of_lt_of_le f1321.lt g1329)
  refine own_callV C S1350 (own_wd hw 143 rfl) (own_wd hw 144 rfl) (own_wd hw 146 rfl) (y' := ⟨"java/lang/StringBuilder", "append", "(Ljava/lang/String;)Ljava/lang/StringBuilder;"⟩) rfl (own_wd hw 146 rfl) (own_wd hw 145 rfl) (by decide) (own_Met.pay (own_sbA l Z a0 hw G1 G3 x xt xk (2 : Int32) ([(.int x0.toInt8.toInt32), (.int x1.toInt8.toInt32)]) ([x0, x1] : List Int32) a1316 a1327 k1328 (16 : Int32) ([(.int (0 : Int32)), (.int (0 : Int32)), (.int (0 : Int32)), (.int (0 : Int32)), (.int (0 : Int32)), (.int (0 : Int32)), (.int (0 : Int32)), (.int (0 : Int32)), (.int (0 : Int32)), (.int (0 : Int32)), (.int (0 : Int32)), (.int (0 : Int32)), (.int (0 : Int32)), (.int (0 : Int32)), (.int (0 : Int32)), (.int (0 : Int32))]) (0 : Int32) ([(.int x0.toInt8.toInt32), (.int x1.toInt8.toInt32), (.int (0 : Int32)), (.int (0 : Int32)), (.int (0 : Int32)), (.int (0 : Int32)), (.int (0 : Int32)), (.int (0 : Int32)), (.int (0 : Int32)), (.int (0 : Int32)), (.int (0 : Int32)), (.int (0 : Int32)), (.int (0 : Int32)), (.int (0 : Int32)), (.int (0 : Int32)), (.int (0 : Int32))]) h1337 n0 f1344 g1326 g1361 f1352 f1353 f1356 f1357 f1360 f1331 f1332 f1333 f1334 f1335 n1363 n1359 n1355 n1365 (Ne.symm n1366) O2 O4 P5 rG3 hcd1275 hp1274 (Nat.le_of_ble_eq_true rfl) (by decide) (by decide) (by decide) (by decide) (Nat.le_of_ble_eq_true rfl) rfl) C 0 (own_wd hw 147 rfl) (own_wd hw 122 rfl) (by decide) (by decide)) (fun _ _ _ q => q.2) f1331 [(.ref x)] [] rfl own_pd24 rfl rfl rfl (Nat.le_of_ble_eq_true rfl) (by decide) (by decide) (by decide +kernel) ?_
  rintro T1373 h1374 v1375 L1376 S1377 ⟨⟨rfl, K1367, f1368, f1369, f1370, f1371, f1372⟩, -⟩
  replace S1377 : own_S p l e ({ frames := 6, cells := 8, slots := 144, locals := 91 } : Room) (s.setVm vm1310) m #[(.ref n), (.ref y)] below meth c n0 T1373 h1374 6 76 := S1377
  have f1378 : Fld Z h1374 a1316 "java/lang/AbstractStringBuilder" "count" "I" (.int (2 : Int32)) := f1371
  show own_Go p e below _ T1373 (mkF m 28 #[.val (.ref n), .val (.ref y)] [(.ref a1316)])
  refine own_seg C S1377 [(28, .bipush 58, 2)] (by decide +kernel) 30 #[.val (.ref n), .val (.ref y)] [(.int (58 : Int32)), (.ref a1316)] rfl ?_
  have f1379 : Old Z n0 h1374 := (f1352.keep K1367 (allS g1326 (allS g1361 all0)))
  have f1380 : n0 ≤ h1374.size := (Nat.le_trans f1344 K1367.1)
  refine own_callV C S1377 (own_wd hw 181 rfl) (own_wd hw 182 rfl) (own_wd hw 184 rfl) (y' := ⟨"java/lang/StringBuilder", "append", "(C)Ljava/lang/StringBuilder;"⟩) rfl (own_wd hw 184 rfl) (own_wd hw 183 rfl) (by decide) (own_Met.pay (own_sbC l Z a0 hw G1 G3 a1316 a1327 k1328 (16 : Int32) ([(.int x0.toInt8.toInt32), (.int x1.toInt8.toInt32), (.int (0 : Int32)), (.int (0 : Int32)), (.int (0 : Int32)), (.int (0 : Int32)), (.int (0 : Int32)), (.int (0 : Int32)), (.int (0 : Int32)), (.int (0 : Int32)), (.int (0 : Int32)), (.int (0 : Int32)), (.int (0 : Int32)), (.int (0 : Int32)), (.int (0 : Int32)), (.int (0 : Int32))]) (2 : Int32) (58 : Int32) ([(.int x0.toInt8.toInt32), (.int x1.toInt8.toInt32), (.int (58 : Int32)), (.int (0 : Int32)), (.int (0 : Int32)), (.int (0 : Int32)), (.int (0 : Int32)), (.int (0 : Int32)), (.int (0 : Int32)), (.int (0 : Int32)), (.int (0 : Int32)), (.int (0 : Int32)), (.int (0 : Int32)), (.int (0 : Int32)), (.int (0 : Int32)), (.int (0 : Int32))]) h1374 n0 f1380 g1326 g1361 f1379 f1368 f1369 f1370 f1378 f1372 (Ne.symm n1366) O2 O4 P5 rG3 (by decide) (by decide) (by decide) (Nat.le_of_ble_eq_true rfl) rfl) C 0 (own_wd hw 185 rfl) (own_wd hw 122 rfl) (by decide) (by decide)) (fun _ _ _ q => q.2) f1368 [(.int (58 : Int32))] [] rfl own_pd25 rfl rfl rfl (Nat.le_of_ble_eq_true rfl) (by decide) (by decide) (by decide +kernel) ?_
  rintro T1387 h1388 v1389 L1390 S1391 ⟨⟨rfl, K1381, f1382, f1383, f1384, f1385, f1386⟩, -⟩
  replace S1391 : own_S p l e ({ frames := 6, cells := 8, slots := 144, locals := 91 } : Room) (s.setVm vm1310) m #[(.ref n), (.ref y)] below meth c n0 T1387 h1388 6 76 := S1391
  have f1392 : Fld Z h1388 a1316 "java/lang/AbstractStringBuilder" "count" "I" (.int (3 : Int32)) := f1385
  show own_Go p e below _ T1387 (mkF m 33 #[.val (.ref n), .val (.ref y)] [(.ref a1316)])
  refine own_seg C S1391 [(33, .aload_n 1, 1)] (by decide +kernel) 34 #[.val (.ref n), .val (.ref y)] [(.ref y), (.ref a1316)] rfl ?_
  have f1393 : Old Z n0 h1388 := (f1379.keep K1381 (allS g1326 (allS g1361 all0)))
  have f1394 : Exa Z h1388 y "java/lang/String" := ((((Exa.ext E1318 (Exa.ext E1302 (Exa.ext E1286 yE))).keep K1330).keep K1367).keep K1381)
  have f1395 : y < h1299.size := (Nat.lt_of_lt_of_le (Nat.lt_of_lt_of_le yE.lt E1286.1) E1302.1)
  have n1396 : y ≠ a1316 := by rw [g1317]; exact Nat.ne_of_lt f1395
  have f1397 : y < h1315.size := (Nat.lt_of_lt_of_le f1395 E1318.1)
  have n1398 : y ≠ a1327 := Nat.ne_of_lt (Nat.lt_of_lt_of_le f1397 g1329)
  have f1399 : Fld Z h1388 y "java/lang/String" "value" "[B" (.ref yt) := ((((Fld.ext E1318 (Fld.ext E1302 (Fld.ext E1286 yV))).keep K1330 (ninS n1396 nin0)).keep K1367 (ninS n1396 (ninS n1398 nin0))).keep K1381 (ninS n1396 (ninS n1398 nin0)))
  have f1400 : Fld Z h1388 y "java/lang/String" "coder" "B" (.int 0) := ((((Fld.ext E1318 (Fld.ext E1302 (Fld.ext E1286 yC))).keep K1330 (ninS n1396 nin0)).keep K1367 (ninS n1396 (ninS n1398 nin0))).keep K1381 (ninS n1396 (ninS n1398 nin0)))
  have f1401 : yt < h1299.size := (Nat.lt_of_lt_of_le (Nat.lt_of_lt_of_le yK.lt E1286.1) E1302.1)
  have n1402 : yt ≠ a1316 := by rw [g1317]; exact Nat.ne_of_lt f1401
  have f1403 : yt < h1315.size := (Nat.lt_of_lt_of_le f1401 E1318.1)
  have n1404 : yt ≠ a1327 := Nat.ne_of_lt (Nat.lt_of_lt_of_le f1403 g1329)
  have f1405 : Arv Z h1388 yt yk .byte (1 : Int32) ([(.int y0.toInt8.toInt32)]) (.int 0) := ((((((yK.ext E1286).ext E1302).ext E1318).keep K1330 (ninS n1402 nin0)).keep K1367 (ninS n1402 (ninS n1404 nin0))).keep K1381 (ninS n1402 (ninS n1404 nin0)))
  have f1406 : n0 ≤ h1388.size := (Nat.le_trans f1380 K1381.1)
  refine own_callV C S1391 (own_wd hw 143 rfl) (own_wd hw 144 rfl) (own_wd hw 146 rfl) (y' := ⟨"java/lang/StringBuilder", "append", "(Ljava/lang/String;)Ljava/lang/StringBuilder;"⟩) rfl (own_wd hw 146 rfl) (own_wd hw 145 rfl) (by decide) (own_Met.pay (own_sbA l Z a0 hw G1 G3 y yt yk (1 : Int32) ([(.int y0.toInt8.toInt32)]) ([y0] : List Int32) a1316 a1327 k1328 (16 : Int32) ([(.int x0.toInt8.toInt32), (.int x1.toInt8.toInt32), (.int (58 : Int32)), (.int (0 : Int32)), (.int (0 : Int32)), (.int (0 : Int32)), (.int (0 : Int32)), (.int (0 : Int32)), (.int (0 : Int32)), (.int (0 : Int32)), (.int (0 : Int32)), (.int (0 : Int32)), (.int (0 : Int32)), (.int (0 : Int32)), (.int (0 : Int32)), (.int (0 : Int32))]) (3 : Int32) ([(.int x0.toInt8.toInt32), (.int x1.toInt8.toInt32), (.int (58 : Int32)), (.int y0.toInt8.toInt32), (.int (0 : Int32)), (.int (0 : Int32)), (.int (0 : Int32)), (.int (0 : Int32)), (.int (0 : Int32)), (.int (0 : Int32)), (.int (0 : Int32)), (.int (0 : Int32)), (.int (0 : Int32)), (.int (0 : Int32)), (.int (0 : Int32)), (.int (0 : Int32))]) h1388 n0 f1406 g1326 g1361 f1393 f1394 f1399 f1400 f1405 f1382 f1383 f1384 f1392 f1386 n1404 n1402 n1396 n1398 (Ne.symm n1366) O2 O4 P5 rG3 hcd1277 hp1276 (Nat.le_of_ble_eq_true rfl) (by decide) (by decide) (by decide) (by decide) (Nat.le_of_ble_eq_true rfl) rfl) C 0 (own_wd hw 147 rfl) (own_wd hw 122 rfl) (by decide) (by decide)) (fun _ _ _ q => q.2) f1382 [(.ref y)] [] rfl own_pd24 rfl rfl rfl (Nat.le_of_ble_eq_true rfl) (by decide) (by decide) (by decide +kernel) ?_
  rintro T1413 h1414 v1415 L1416 S1417 ⟨⟨rfl, K1407, f1408, f1409, f1410, f1411, f1412⟩, -⟩
  replace S1417 : own_S p l e ({ frames := 6, cells := 8, slots := 144, locals := 91 } : Room) (s.setVm vm1310) m #[(.ref n), (.ref y)] below meth c n0 T1413 h1414 6 76 := S1417
  have f1418 : Fld Z h1414 a1316 "java/lang/AbstractStringBuilder" "count" "I" (.int (4 : Int32)) := f1411
  show own_Go p e below _ T1413 (mkF m 37 #[.val (.ref n), .val (.ref y)] [(.ref a1316)])
  have f1419 : Old Z n0 h1414 := (f1393.keep K1407 (allS g1326 (allS g1361 all0)))
  have f1420 : n0 ≤ h1414.size := (Nat.le_trans f1406 K1407.1)
  refine own_callV C S1417 (own_wd hw 198 rfl) (own_wd hw 199 rfl) (own_wd hw 201 rfl) (y' := ⟨"java/lang/StringBuilder", "toString", "()Ljava/lang/String;"⟩) rfl (own_wd hw 201 rfl) (own_wd hw 200 rfl) (by decide) (own_Met.pay (own_ts l Z a0 hw G1 G3 a1316 a1327 k1328 (16 : Int32) ([(.int x0.toInt8.toInt32), (.int x1.toInt8.toInt32), (.int (58 : Int32)), (.int y0.toInt8.toInt32), (.int (0 : Int32)), (.int (0 : Int32)), (.int (0 : Int32)), (.int (0 : Int32)), (.int (0 : Int32)), (.int (0 : Int32)), (.int (0 : Int32)), (.int (0 : Int32)), (.int (0 : Int32)), (.int (0 : Int32)), (.int (0 : Int32)), (.int (0 : Int32))]) (4 : Int32) ([(.int x0.toInt8.toInt32), (.int x1.toInt8.toInt32), (.int (58 : Int32)), (.int y0.toInt8.toInt32)]) h1414 n0 f1420 f1419 f1408 f1409 f1410 f1418 f1412 O2 O4 P5 rG3 (by decide) (by decide) (by decide) (by decide) rfl) C 0 (own_wd hw 202 rfl) (own_wd hw 122 rfl) (by decide) (by decide)) (fun _ _ _ q => q.2) f1408 [] [] rfl own_pd23 rfl rfl rfl (Nat.le_of_ble_eq_true rfl) (by decide) (by decide) (by decide +kernel) ?_
  rintro T1431 h1432 v1433 L1434 S1435 ⟨⟨a1421, a1422, k1423, rfl, g1424, g1425, K1426, f1427, f1428, f1429, f1430⟩, -⟩
  replace S1435 : own_S p l e ({ frames := 6, cells := 8, slots := 144, locals := 91 } : Room) (s.setVm vm1310) m #[(.ref n), (.ref y)] below meth c n0 T1431 h1432 8 144 := S1435
  show own_Go p e below _ T1431 (mkF m 40 #[.val (.ref n), .val (.ref y)] [(.ref a1421)])
  have f1436 : a1327 < h1432.size := (Nat.lt_of_lt_of_le (Nat.lt_of_lt_of_le (Nat.lt_of_lt_of_le (Nat.lt_of_lt_of_le f1335.lt K1367.1) K1381.1) K1407.1) K1426.1)
  have f1437 : a1316 < h1432.size := (Nat.lt_of_lt_of_le (Nat.lt_of_lt_of_le (Nat.lt_of_lt_of_le (Nat.lt_of_lt_of_le (Nat.lt_of_lt_of_le f1321.lt K1330.1) K1367.1) K1381.1) K1407.1) K1426.1)
  have SW1438 : own_SW p l e ({ frames := 6, cells := 8, slots := 144, locals := 91 } : Room) s m #[(.ref n), (.ref y)] below meth c n0 Z own_EL "com/example/nearfar_cache/nearfarcache/redis/RedisKeys" T1431 h1432 [a1316, a1327, a1421, a1422] 8 144 := rb1312 _ _ _ _ [] [a1316, a1327, a1421, a1422] S1435 (((((((Keep.refl _ _).ext E1318).trans K1330 (allS (Or.inr (by rw [g1317]; exact (Nat.le_refl _))) all0)).trans K1367 (allS (Or.inr (by rw [g1317]; exact (Nat.le_refl _))) (allS (Or.inr (Nat.le_trans (Nat.le_trans (Nat.le_refl _) E1318.1) g1329)) all0))).trans K1381 (allS (Or.inr (by rw [g1317]; exact (Nat.le_refl _))) (allS (Or.inr (Nat.le_trans (Nat.le_trans (Nat.le_refl _) E1318.1) g1329)) all0))).trans K1407 (allS (Or.inr (by rw [g1317]; exact (Nat.le_refl _))) (allS (Or.inr (Nat.le_trans (Nat.le_trans (Nat.le_refl _) E1318.1) g1329)) all0))).trans K1426 all0) all0 (allS ⟨(by rw [g1317]; exact (Nat.le_refl _)), f1437⟩ (allS ⟨(Nat.le_trans (Nat.le_trans (Nat.le_refl _) E1318.1) g1329), f1436⟩ (allS ⟨(Nat.le_trans (Nat.le_trans (Nat.le_trans (Nat.le_trans (Nat.le_trans (Nat.le_trans (Nat.le_refl _) E1318.1) K1330.1) K1367.1) K1381.1) K1407.1) g1424), f1427.lt⟩ (allS ⟨(Nat.le_trans (Nat.le_trans (Nat.le_trans (Nat.le_trans (Nat.le_trans (Nat.le_trans (Nat.le_refl _) E1318.1) K1330.1) K1367.1) K1381.1) K1407.1) g1425), f1430.lt⟩ all0))))
  refine own_retAW CW SW1438 rfl rfl (by decide +kernel) (by decide) (by decide) ?_
  exact ⟨a1421, a1422, k1423, rfl, (Nat.le_trans (Nat.le_trans (Nat.le_trans (Nat.le_trans (Nat.le_trans (Nat.le_trans (Nat.le_trans (Nat.le_trans (Nat.le_refl _) E1286.1) E1302.1) E1318.1) K1330.1) K1367.1) K1381.1) K1407.1) g1424), (Nat.le_trans (Nat.le_trans (Nat.le_trans (Nat.le_trans (Nat.le_trans (Nat.le_trans (Nat.le_trans (Nat.le_trans (Nat.le_refl _) E1286.1) E1302.1) E1318.1) K1330.1) K1367.1) K1381.1) K1407.1) g1425), (((((((((Keep.refl _ _).ext E1286).ext E1302).ext E1318).trans K1330 (allS (Or.inr (by rw [g1317]; exact (Nat.le_trans (Nat.le_trans (Nat.le_refl _) E1286.1) E1302.1))) all0)).trans K1367 (allS (Or.inr (by rw [g1317]; exact (Nat.le_trans (Nat.le_trans (Nat.le_refl _) E1286.1) E1302.1))) (allS (Or.inr (Nat.le_trans (Nat.le_trans (Nat.le_trans (Nat.le_trans (Nat.le_refl _) E1286.1) E1302.1) E1318.1) g1329)) all0))).trans K1381 (allS (Or.inr (by rw [g1317]; exact (Nat.le_trans (Nat.le_trans (Nat.le_refl _) E1286.1) E1302.1))) (allS (Or.inr (Nat.le_trans (Nat.le_trans (Nat.le_trans (Nat.le_trans (Nat.le_refl _) E1286.1) E1302.1) E1318.1) g1329)) all0))).trans K1407 (allS (Or.inr (by rw [g1317]; exact (Nat.le_trans (Nat.le_trans (Nat.le_refl _) E1286.1) E1302.1))) (allS (Or.inr (Nat.le_trans (Nat.le_trans (Nat.le_trans (Nat.le_trans (Nat.le_refl _) E1286.1) E1302.1) E1318.1) g1329)) all0))).trans K1426 all0), f1427, f1428, f1429, f1430⟩
set_option maxRecDepth 65536 in
set_option maxHeartbeats 40000000 in
theorem own_of22 (l : Launch) (Z : State) (a0 : Array Value) (hw : ∀ d ∈ tables_1, d.before a0 Z = true) (hEL : EW Z a0 own_EL) (wS : ∀ a ∈ Bundle.stringAtoms, a.before a0 Z = true) (G1 : Int32) (G3 : Value) (n : Addr) (x : Addr) (xt : Addr) (xk : ClassId) (x0 : Int32) (x1 : Int32) (y : Addr) (yt : Addr) (yk : ClassId) (y0 : Int32) (y1 : Int32) (h0 : Heap) (n0 : Nat) (z0 : n0 ≤ h0.size) (X00 : Old Z n0 h0) (nE : Exa Z h0 n "com/example/nearfar_cache/nearfarcache/Namespace") (nN : Fld Z h0 n "com/example/nearfar_cache/nearfarcache/Namespace" "name" "Ljava/lang/String;" (.ref x)) (xE : Exa Z h0 x "java/lang/String") (xV : Fld Z h0 x "java/lang/String" "value" "[B" (.ref xt)) (xC : Fld Z h0 x "java/lang/String" "coder" "B" (.int 0)) (xK : Arv Z h0 xt xk .byte (2 : Int32) ([(.int x0.toInt8.toInt32), (.int x1.toInt8.toInt32)]) (.int 0)) (yE : Exa Z h0 y "java/lang/String") (yV : Fld Z h0 y "java/lang/String" "value" "[B" (.ref yt)) (yC : Fld Z h0 y "java/lang/String" "coder" "B" (.int 0)) (yK : Arv Z h0 yt yk .byte (2 : Int32) ([(.int y0.toInt8.toInt32), (.int y1.toInt8.toInt32)]) (.int 0)) (O2 : Sta Z Z.heap "java/lang/String" "COMPACT_STRINGS" "Z" (.int G1)) (O4 : Sta Z Z.heap "jdk/internal/util/Preconditions" "SIOOBE_FORMATTER" "Ljava/util/function/BiFunction;" G3) (P5 : ¬ G1 = (0 : Int32)) (rG3 : G3.isRef = true) (xh0 : ¬ x0 < 0 ∧ ¬ (255 : Int32) < x0) (xh1 : ¬ x1 < 0 ∧ ¬ (255 : Int32) < x1) (yh0 : ¬ y0 < 0 ∧ ¬ (255 : Int32) < y0) (yh1 : ¬ y1 < 0 ∧ ¬ (255 : Int32) < y1) :
    own_MetW l Z own_EL (⟨"com/example/nearfar_cache/nearfarcache/redis/RedisKeys", "of", "(Lcom/example/nearfar_cache/nearfarcache/Namespace;Ljava/lang/String;)Ljava/lang/String;"⟩ : MethodName) prog_26_method_2_code 2 (some (.object "java/lang/String")) ({ frames := 6, cells := 8, slots := 144, locals := 91 } : Room) n0 #[(.ref n), (.ref y)] h0 [] (fun v h => ∃ r : Addr, ∃ rt : Addr, ∃ rk : ClassId, v = some (.ref r) ∧ h0.size ≤ r ∧ h0.size ≤ rt ∧ Keep h0 h [] ∧ Exa Z h r "java/lang/String" ∧ Fld Z h r "java/lang/String" "coder" "B" (.int 0) ∧ Fld Z h r "java/lang/String" "value" "[B" (.ref rt) ∧ Arv Z h rt rk .byte (5 : Int32) ([(.int x0.toInt8.toInt32), (.int x1.toInt8.toInt32), (.int (58 : Int32)), (.int y0.toInt8.toInt32), (.int y1.toInt8.toInt32)]) (.int 0)) := by
  refine own_metW hEL wS (by decide +kernel) #[.val (.ref n), .val (.ref y)] (fun m => by first | (simp [entryFrame, mkF, argsToLocals, Value.category]; done) | rfl) ?_
  intro p e s m below meth c T0 CW SW0
  have hp1439 : ∀ c ∈ ([x0, x1] : List Int32), ¬ c < 0 ∧ ¬ (255 : Int32) < c := by
    intro c hc; simp only [List.mem_cons, List.not_mem_nil, or_false] at hc
    rcases hc with rfl | rfl
    · exact xh0
    · exact xh1
  have hcd1440 : StrChars.Road.CodA ([x0, x1] : List Int32) 0 (2 : Int32) [(.int x0.toInt8.toInt32), (.int x1.toInt8.toInt32)] := StrChars.Road.codOf (cs := ([x0, x1] : List Int32)) (n := 2) rfl (fun c hc => (hp1439 c hc).2)
  have hp1441 : ∀ c ∈ ([y0, y1] : List Int32), ¬ c < 0 ∧ ¬ (255 : Int32) < c := by
    intro c hc; simp only [List.mem_cons, List.not_mem_nil, or_false] at hc
    rcases hc with rfl | rfl
    · exact yh0
    · exact yh1
  have hcd1442 : StrChars.Road.CodA ([y0, y1] : List Int32) 0 (2 : Int32) [(.int y0.toInt8.toInt32), (.int y1.toInt8.toInt32)] := StrChars.Road.codOf (cs := ([y0, y1] : List Int32)) (n := 2) rfl (fun c hc => (hp1441 c hc).2)
  refine own_lift CW SW0 ?_
  intro vm1443 C S1444 rb1445
  refine own_seg C S1444 [(0, .aload_n 0, 1)] (by decide +kernel) 1 #[.val (.ref n), .val (.ref y)] [(.ref n)] rfl ?_
  have SW1446 : own_SW p l e ({ frames := 6, cells := 8, slots := 144, locals := 91 } : Room) s m #[(.ref n), (.ref y)] below meth c n0 Z own_EL "com/example/nearfar_cache/nearfarcache/redis/RedisKeys" T0 h0 [] 0 0 := rb1445 _ _ _ _ [] [] S1444 (Keep.refl _ _) all0 all0
  refine own_ldcO CW SW1446 (own_wd hw 117 rfl) (by decide +kernel) 36 (by decide) (by decide) (by decide) (by decide) ?_
  intro T1447 h1448 a1449 SW1450 E1451
  have f1452 : n0 ≤ h1448.size := (Nat.le_trans z0 E1451.1)
  refine own_lift CW SW1450 ?_
  intro vm1459 C S1460 rb1461
  refine own_callS C S1460 (own_wd hw 118 rfl) (own_wd hw 51 rfl) (own_wd hw 52 rfl) (own_wd hw 53 rfl) (by decide) (own_Met.pay (own_rnn2 l Z a0 hw n a1449 h1448 n0 f1452) C 0 (own_wd hw 53 rfl) (own_wd hw 52 rfl) (by decide) (by decide)) (fun _ _ _ q => q.2) [(.ref n), (.ref a1449)] [] rfl own_pd20 rfl rfl rfl (Nat.le_of_ble_eq_true rfl) (by decide) (by decide) (by decide +kernel) ?_
  rintro T1454 h1455 v1456 L1457 S1458 ⟨⟨rfl, e1453⟩, -⟩
  replace S1458 : own_S p l e ({ frames := 6, cells := 8, slots := 144, locals := 91 } : Room) (s.setVm vm1459) m #[(.ref n), (.ref y)] below meth c n0 T1454 h1455 2 40 := S1458
  rw [e1453] at S1458; clear e1453
  show own_Go p e below _ T1454 (mkF m 6 #[.val (.ref n), .val (.ref y)] [(.ref n)])
  refine own_seg C S1458 [(6, .pop, 1), (7, .aload_n 1, 1)] (by decide +kernel) 8 #[.val (.ref n), .val (.ref y)] [(.ref y)] rfl ?_
  have SW1462 : own_SW p l e ({ frames := 6, cells := 8, slots := 144, locals := 91 } : Room) s m #[(.ref n), (.ref y)] below meth c n0 Z own_EL "com/example/nearfar_cache/nearfarcache/redis/RedisKeys" T1454 h1448 [] 2 40 := rb1461 _ _ _ _ [] [] S1458 (Keep.refl _ _) all0 all0
  refine own_ldcO CW SW1462 (own_wd hw 119 rfl) (by decide +kernel) 12 (by decide) (by decide) (by decide) (by decide) ?_
  intro T1463 h1464 a1465 SW1466 E1467
  have f1468 : n0 ≤ h1464.size := (Nat.le_trans f1452 E1467.1)
  refine own_lift CW SW1466 ?_
  intro vm1475 C S1476 rb1477
  refine own_callS C S1476 (own_wd hw 118 rfl) (own_wd hw 51 rfl) (own_wd hw 52 rfl) (own_wd hw 53 rfl) (by decide) (own_Met.pay (own_rnn2 l Z a0 hw y a1465 h1464 n0 f1468) C 0 (own_wd hw 53 rfl) (own_wd hw 52 rfl) (by decide) (by decide)) (fun _ _ _ q => q.2) [(.ref y), (.ref a1465)] [] rfl own_pd20 rfl rfl rfl (Nat.le_of_ble_eq_true rfl) (by decide) (by decide) (by decide +kernel) ?_
  rintro T1470 h1471 v1472 L1473 S1474 ⟨⟨rfl, e1469⟩, -⟩
  replace S1474 : own_S p l e ({ frames := 6, cells := 8, slots := 144, locals := 91 } : Room) (s.setVm vm1475) m #[(.ref n), (.ref y)] below meth c n0 T1470 h1471 4 56 := S1474
  rw [e1469] at S1474; clear e1469
  show own_Go p e below _ T1470 (mkF m 13 #[.val (.ref n), .val (.ref y)] [(.ref y)])
  refine own_seg C S1474 [(13, .pop, 1)] (by decide +kernel) 14 #[.val (.ref n), .val (.ref y)] [] rfl ?_
  refine own_new C S1474 (own_wd hw 120 rfl) (own_wd hw 121 rfl) (own_wd hw 122 rfl) (by decide +kernel) (by decide) (by decide) ?_
  intro T1478 h1480 a1481 S1479 g1482 E1483 x1484 D1485
  have f1486 : Fld Z h1480 a1481 "java/lang/AbstractStringBuilder" "value" "[B" .null := D1485 (ty := (.array .byte)) (Or.inl (own_wd hw 135 rfl)) own_fd0
  have f1487 : Fld Z h1480 a1481 "java/lang/AbstractStringBuilder" "coder" "B" (.int (0 : Int32)) := D1485 (ty := .byte) (Or.inl (own_wd hw 137 rfl)) own_fd1
  have f1488 : Fld Z h1480 a1481 "java/lang/AbstractStringBuilder" "count" "I" (.int (0 : Int32)) := D1485 (ty := .int) (Or.inl (own_wd hw 155 rfl)) own_fd2
  refine own_seg C S1479 [(17, .dup, 1)] (by decide +kernel) 18 #[.val (.ref n), .val (.ref y)] [(.ref a1481), (.ref a1481)] rfl ?_
  have f1489 : Old Z n0 h1480 := (((X00.ext E1451).ext E1467).ext E1483)
  have f1490 : n0 ≤ h1480.size := (Nat.le_trans f1468 E1483.1)
  have g1491 : n0 ≤ a1481 := by rw [g1482]; exact f1468
  refine own_callI C S1479 rfl (own_wd hw 123 rfl) (own_wd hw 124 rfl) (own_wd hw 125 rfl) (by decide) (own_Met.pay (own_sbI l Z a0 hw G1 G3 a1481 h1480 n0 f1490 g1491 f1489 x1484 f1486 f1487 f1488 O2 O4 P5 rG3) C 1 (own_wd hw 125 rfl) (own_wd hw 122 rfl) (by decide) (by decide)) (fun _ _ _ q => q.2) [] [(.ref a1481)] rfl own_pd19 rfl rfl rfl (Nat.le_of_ble_eq_true rfl) (by decide) (by decide) (by decide +kernel) ?_
  rintro T1501 h1502 v1503 L1504 S1505 ⟨⟨a1492, k1493, rfl, g1494, K1495, f1496, f1497, f1498, f1499, f1500⟩, -⟩
  replace S1505 : own_S p l e ({ frames := 6, cells := 8, slots := 144, locals := 91 } : Room) (s.setVm vm1475) m #[(.ref n), (.ref y)] below meth c n0 T1501 h1502 6 76 := S1505
  show own_Go p e below _ T1501 (mkF m 21 #[.val (.ref n), .val (.ref y)] [(.ref a1481)])
  refine own_seg C S1505 [(21, .aload_n 0, 1)] (by decide +kernel) 22 #[.val (.ref n), .val (.ref y)] [(.ref n), (.ref a1481)] rfl ?_
  have f1506 : n < h1464.size := (Nat.lt_of_lt_of_le (Nat.lt_of_lt_of_le nE.lt E1451.1) E1467.1)
  have n1507 : n ≠ a1481 := by rw [g1482]; exact Nat.ne_of_lt f1506
  have f1508 : Fld Z h1502 n "com/example/nearfar_cache/nearfarcache/Namespace" "name" "Ljava/lang/String;" (.ref x) := ((Fld.ext E1483 (Fld.ext E1467 (Fld.ext E1451 nN))).keep K1495 (ninS n1507 nin0))
  have f1509 : n0 ≤ h1502.size := (Nat.le_trans f1490 K1495.1)
  have f1516 : Exa Z h1502 n "com/example/nearfar_cache/nearfarcache/Namespace" := ((Exa.ext E1483 (Exa.ext E1467 (Exa.ext E1451 nE))).keep K1495)
  refine own_callV C S1505 (own_wd hw 138 rfl) (own_wd hw 139 rfl) (own_wd hw 141 rfl) (y' := ⟨"com/example/nearfar_cache/nearfarcache/Namespace", "name", "()Ljava/lang/String;"⟩) rfl (own_wd hw 141 rfl) (own_wd hw 140 rfl) (by decide) (own_Met.pay (own_nsn l Z a0 hw n x h1502 n0 f1509 f1508) C 1 (own_wd hw 142 rfl) (own_wd hw 39 rfl) (by decide) (by decide)) (fun _ _ _ q => q.2) f1516 [] [(.ref a1481)] rfl own_pd23 rfl rfl rfl (Nat.le_of_ble_eq_true rfl) (by decide) (by decide) (by decide +kernel) ?_
  rintro T1511 h1512 v1513 L1514 S1515 ⟨⟨rfl, e1510⟩, -⟩
  replace S1515 : own_S p l e ({ frames := 6, cells := 8, slots := 144, locals := 91 } : Room) (s.setVm vm1475) m #[(.ref n), (.ref y)] below meth c n0 T1511 h1512 6 76 := S1515
  rw [e1510] at S1515; clear e1510
  show own_Go p e below _ T1511 (mkF m 25 #[.val (.ref n), .val (.ref y)] [(.ref x), (.ref a1481)])
  have f1517 : Old Z n0 h1502 := (f1489.keep K1495 (allS g1491 all0))
  have f1518 : Exa Z h1502 x "java/lang/String" := ((Exa.ext E1483 (Exa.ext E1467 (Exa.ext E1451 xE))).keep K1495)
  have f1519 : x < h1464.size := (Nat.lt_of_lt_of_le (Nat.lt_of_lt_of_le xE.lt E1451.1) E1467.1)
  have n1520 : x ≠ a1481 := by rw [g1482]; exact Nat.ne_of_lt f1519
  have f1521 : Fld Z h1502 x "java/lang/String" "value" "[B" (.ref xt) := ((Fld.ext E1483 (Fld.ext E1467 (Fld.ext E1451 xV))).keep K1495 (ninS n1520 nin0))
  have f1522 : Fld Z h1502 x "java/lang/String" "coder" "B" (.int 0) := ((Fld.ext E1483 (Fld.ext E1467 (Fld.ext E1451 xC))).keep K1495 (ninS n1520 nin0))
  have f1523 : xt < h1464.size := (Nat.lt_of_lt_of_le (Nat.lt_of_lt_of_le xK.lt E1451.1) E1467.1)
  have n1524 : xt ≠ a1481 := by rw [g1482]; exact Nat.ne_of_lt f1523
  have f1525 : Arv Z h1502 xt xk .byte (2 : Int32) ([(.int x0.toInt8.toInt32), (.int x1.toInt8.toInt32)]) (.int 0) := ((((xK.ext E1451).ext E1467).ext E1483).keep K1495 (ninS n1524 nin0))
  have g1526 : n0 ≤ a1492 := Nat.le_trans f1490 g1494
  have f1527 : xt < h1480.size := (Nat.lt_of_lt_of_le f1523 E1483.1)
  have n1528 : xt ≠ a1492 := Nat.ne_of_lt (Nat.lt_of_lt_of_le f1527 g1494)
  have f1529 : x < h1480.size := (Nat.lt_of_lt_of_le f1519 E1483.1)
  have n1530 : x ≠ a1492 := Nat.ne_of_lt (Nat.lt_of_lt_of_le f1529 g1494)
  have n1531 : a1481 ≠ a1492 := Nat.ne_of_lt (Nat.lt_of_lt_of_le f1486.lt g1494)
  refine own_callV C S1515 (own_wd hw 143 rfl) (own_wd hw 144 rfl) (own_wd hw 146 rfl) (y' := ⟨"java/lang/StringBuilder", "append", "(Ljava/lang/String;)Ljava/lang/StringBuilder;"⟩) rfl (own_wd hw 146 rfl) (own_wd hw 145 rfl) (by decide) (own_Met.pay (own_sbA l Z a0 hw G1 G3 x xt xk (2 : Int32) ([(.int x0.toInt8.toInt32), (.int x1.toInt8.toInt32)]) ([x0, x1] : List Int32) a1481 a1492 k1493 (16 : Int32) ([(.int (0 : Int32)), (.int (0 : Int32)), (.int (0 : Int32)), (.int (0 : Int32)), (.int (0 : Int32)), (.int (0 : Int32)), (.int (0 : Int32)), (.int (0 : Int32)), (.int (0 : Int32)), (.int (0 : Int32)), (.int (0 : Int32)), (.int (0 : Int32)), (.int (0 : Int32)), (.int (0 : Int32)), (.int (0 : Int32)), (.int (0 : Int32))]) (0 : Int32) ([(.int x0.toInt8.toInt32), (.int x1.toInt8.toInt32), (.int (0 : Int32)), (.int (0 : Int32)), (.int (0 : Int32)), (.int (0 : Int32)), (.int (0 : Int32)), (.int (0 : Int32)), (.int (0 : Int32)), (.int (0 : Int32)), (.int (0 : Int32)), (.int (0 : Int32)), (.int (0 : Int32)), (.int (0 : Int32)), (.int (0 : Int32)), (.int (0 : Int32))]) h1502 n0 f1509 g1491 g1526 f1517 f1518 f1521 f1522 f1525 f1496 f1497 f1498 f1499 f1500 n1528 n1524 n1520 n1530 (Ne.symm n1531) O2 O4 P5 rG3 hcd1440 hp1439 (Nat.le_of_ble_eq_true rfl) (by decide) (by decide) (by decide) (by decide) (Nat.le_of_ble_eq_true rfl) rfl) C 0 (own_wd hw 147 rfl) (own_wd hw 122 rfl) (by decide) (by decide)) (fun _ _ _ q => q.2) f1496 [(.ref x)] [] rfl own_pd24 rfl rfl rfl (Nat.le_of_ble_eq_true rfl) (by decide) (by decide) (by decide +kernel) ?_
  rintro T1538 h1539 v1540 L1541 S1542 ⟨⟨rfl, K1532, f1533, f1534, f1535, f1536, f1537⟩, -⟩
  replace S1542 : own_S p l e ({ frames := 6, cells := 8, slots := 144, locals := 91 } : Room) (s.setVm vm1475) m #[(.ref n), (.ref y)] below meth c n0 T1538 h1539 6 76 := S1542
  have f1543 : Fld Z h1539 a1481 "java/lang/AbstractStringBuilder" "count" "I" (.int (2 : Int32)) := f1536
  show own_Go p e below _ T1538 (mkF m 28 #[.val (.ref n), .val (.ref y)] [(.ref a1481)])
  refine own_seg C S1542 [(28, .bipush 58, 2)] (by decide +kernel) 30 #[.val (.ref n), .val (.ref y)] [(.int (58 : Int32)), (.ref a1481)] rfl ?_
  have f1544 : Old Z n0 h1539 := (f1517.keep K1532 (allS g1491 (allS g1526 all0)))
  have f1545 : n0 ≤ h1539.size := (Nat.le_trans f1509 K1532.1)
  refine own_callV C S1542 (own_wd hw 181 rfl) (own_wd hw 182 rfl) (own_wd hw 184 rfl) (y' := ⟨"java/lang/StringBuilder", "append", "(C)Ljava/lang/StringBuilder;"⟩) rfl (own_wd hw 184 rfl) (own_wd hw 183 rfl) (by decide) (own_Met.pay (own_sbC l Z a0 hw G1 G3 a1481 a1492 k1493 (16 : Int32) ([(.int x0.toInt8.toInt32), (.int x1.toInt8.toInt32), (.int (0 : Int32)), (.int (0 : Int32)), (.int (0 : Int32)), (.int (0 : Int32)), (.int (0 : Int32)), (.int (0 : Int32)), (.int (0 : Int32)), (.int (0 : Int32)), (.int (0 : Int32)), (.int (0 : Int32)), (.int (0 : Int32)), (.int (0 : Int32)), (.int (0 : Int32)), (.int (0 : Int32))]) (2 : Int32) (58 : Int32) ([(.int x0.toInt8.toInt32), (.int x1.toInt8.toInt32), (.int (58 : Int32)), (.int (0 : Int32)), (.int (0 : Int32)), (.int (0 : Int32)), (.int (0 : Int32)), (.int (0 : Int32)), (.int (0 : Int32)), (.int (0 : Int32)), (.int (0 : Int32)), (.int (0 : Int32)), (.int (0 : Int32)), (.int (0 : Int32)), (.int (0 : Int32)), (.int (0 : Int32))]) h1539 n0 f1545 g1491 g1526 f1544 f1533 f1534 f1535 f1543 f1537 (Ne.symm n1531) O2 O4 P5 rG3 (by decide) (by decide) (by decide) (Nat.le_of_ble_eq_true rfl) rfl) C 0 (own_wd hw 185 rfl) (own_wd hw 122 rfl) (by decide) (by decide)) (fun _ _ _ q => q.2) f1533 [(.int (58 : Int32))] [] rfl own_pd25 rfl rfl rfl (Nat.le_of_ble_eq_true rfl) (by decide) (by decide) (by decide +kernel) ?_
  rintro T1552 h1553 v1554 L1555 S1556 ⟨⟨rfl, K1546, f1547, f1548, f1549, f1550, f1551⟩, -⟩
  replace S1556 : own_S p l e ({ frames := 6, cells := 8, slots := 144, locals := 91 } : Room) (s.setVm vm1475) m #[(.ref n), (.ref y)] below meth c n0 T1552 h1553 6 76 := S1556
  have f1557 : Fld Z h1553 a1481 "java/lang/AbstractStringBuilder" "count" "I" (.int (3 : Int32)) := f1550
  show own_Go p e below _ T1552 (mkF m 33 #[.val (.ref n), .val (.ref y)] [(.ref a1481)])
  refine own_seg C S1556 [(33, .aload_n 1, 1)] (by decide +kernel) 34 #[.val (.ref n), .val (.ref y)] [(.ref y), (.ref a1481)] rfl ?_
  have f1558 : Old Z n0 h1553 := (f1544.keep K1546 (allS g1491 (allS g1526 all0)))
  have f1559 : Exa Z h1553 y "java/lang/String" := ((((Exa.ext E1483 (Exa.ext E1467 (Exa.ext E1451 yE))).keep K1495).keep K1532).keep K1546)
  have f1560 : y < h1464.size := (Nat.lt_of_lt_of_le (Nat.lt_of_lt_of_le yE.lt E1451.1) E1467.1)
  have n1561 : y ≠ a1481 := by rw [g1482]; exact Nat.ne_of_lt f1560
  have f1562 : y < h1480.size := (Nat.lt_of_lt_of_le f1560 E1483.1)
  have n1563 : y ≠ a1492 := Nat.ne_of_lt (Nat.lt_of_lt_of_le f1562 g1494)
  have f1564 : Fld Z h1553 y "java/lang/String" "value" "[B" (.ref yt) := ((((Fld.ext E1483 (Fld.ext E1467 (Fld.ext E1451 yV))).keep K1495 (ninS n1561 nin0)).keep K1532 (ninS n1561 (ninS n1563 nin0))).keep K1546 (ninS n1561 (ninS n1563 nin0)))
  have f1565 : Fld Z h1553 y "java/lang/String" "coder" "B" (.int 0) := ((((Fld.ext E1483 (Fld.ext E1467 (Fld.ext E1451 yC))).keep K1495 (ninS n1561 nin0)).keep K1532 (ninS n1561 (ninS n1563 nin0))).keep K1546 (ninS n1561 (ninS n1563 nin0)))
  have f1566 : yt < h1464.size := (Nat.lt_of_lt_of_le (Nat.lt_of_lt_of_le yK.lt E1451.1) E1467.1)
  have n1567 : yt ≠ a1481 := by rw [g1482]; exact Nat.ne_of_lt f1566
  have f1568 : yt < h1480.size := (Nat.lt_of_lt_of_le f1566 E1483.1)
  have n1569 : yt ≠ a1492 := Nat.ne_of_lt (Nat.lt_of_lt_of_le f1568 g1494)
  have f1570 : Arv Z h1553 yt yk .byte (2 : Int32) ([(.int y0.toInt8.toInt32), (.int y1.toInt8.toInt32)]) (.int 0) := ((((((yK.ext E1451).ext E1467).ext E1483).keep K1495 (ninS n1567 nin0)).keep K1532 (ninS n1567 (ninS n1569 nin0))).keep K1546 (ninS n1567 (ninS n1569 nin0)))
  have f1571 : n0 ≤ h1553.size := (Nat.le_trans f1545 K1546.1)
  refine own_callV C S1556 (own_wd hw 143 rfl) (own_wd hw 144 rfl) (own_wd hw 146 rfl) (y' := ⟨"java/lang/StringBuilder", "append", "(Ljava/lang/String;)Ljava/lang/StringBuilder;"⟩) rfl (own_wd hw 146 rfl) (own_wd hw 145 rfl) (by decide) (own_Met.pay (own_sbA l Z a0 hw G1 G3 y yt yk (2 : Int32) ([(.int y0.toInt8.toInt32), (.int y1.toInt8.toInt32)]) ([y0, y1] : List Int32) a1481 a1492 k1493 (16 : Int32) ([(.int x0.toInt8.toInt32), (.int x1.toInt8.toInt32), (.int (58 : Int32)), (.int (0 : Int32)), (.int (0 : Int32)), (.int (0 : Int32)), (.int (0 : Int32)), (.int (0 : Int32)), (.int (0 : Int32)), (.int (0 : Int32)), (.int (0 : Int32)), (.int (0 : Int32)), (.int (0 : Int32)), (.int (0 : Int32)), (.int (0 : Int32)), (.int (0 : Int32))]) (3 : Int32) ([(.int x0.toInt8.toInt32), (.int x1.toInt8.toInt32), (.int (58 : Int32)), (.int y0.toInt8.toInt32), (.int y1.toInt8.toInt32), (.int (0 : Int32)), (.int (0 : Int32)), (.int (0 : Int32)), (.int (0 : Int32)), (.int (0 : Int32)), (.int (0 : Int32)), (.int (0 : Int32)), (.int (0 : Int32)), (.int (0 : Int32)), (.int (0 : Int32)), (.int (0 : Int32))]) h1553 n0 f1571 g1491 g1526 f1558 f1559 f1564 f1565 f1570 f1547 f1548 f1549 f1557 f1551 n1569 n1567 n1561 n1563 (Ne.symm n1531) O2 O4 P5 rG3 hcd1442 hp1441 (Nat.le_of_ble_eq_true rfl) (by decide) (by decide) (by decide) (by decide) (Nat.le_of_ble_eq_true rfl) rfl) C 0 (own_wd hw 147 rfl) (own_wd hw 122 rfl) (by decide) (by decide)) (fun _ _ _ q => q.2) f1547 [(.ref y)] [] rfl own_pd24 rfl rfl rfl (Nat.le_of_ble_eq_true rfl) (by decide) (by decide) (by decide +kernel) ?_
  rintro T1578 h1579 v1580 L1581 S1582 ⟨⟨rfl, K1572, f1573, f1574, f1575, f1576, f1577⟩, -⟩
  replace S1582 : own_S p l e ({ frames := 6, cells := 8, slots := 144, locals := 91 } : Room) (s.setVm vm1475) m #[(.ref n), (.ref y)] below meth c n0 T1578 h1579 6 76 := S1582
  have f1583 : Fld Z h1579 a1481 "java/lang/AbstractStringBuilder" "count" "I" (.int (5 : Int32)) := f1576
  show own_Go p e below _ T1578 (mkF m 37 #[.val (.ref n), .val (.ref y)] [(.ref a1481)])
  have f1584 : Old Z n0 h1579 := (f1558.keep K1572 (allS g1491 (allS g1526 all0)))
  have f1585 : n0 ≤ h1579.size := (Nat.le_trans f1571 K1572.1)
  refine own_callV C S1582 (own_wd hw 198 rfl) (own_wd hw 199 rfl) (own_wd hw 201 rfl) (y' := ⟨"java/lang/StringBuilder", "toString", "()Ljava/lang/String;"⟩) rfl (own_wd hw 201 rfl) (own_wd hw 200 rfl) (by decide) (own_Met.pay (own_ts l Z a0 hw G1 G3 a1481 a1492 k1493 (16 : Int32) ([(.int x0.toInt8.toInt32), (.int x1.toInt8.toInt32), (.int (58 : Int32)), (.int y0.toInt8.toInt32), (.int y1.toInt8.toInt32), (.int (0 : Int32)), (.int (0 : Int32)), (.int (0 : Int32)), (.int (0 : Int32)), (.int (0 : Int32)), (.int (0 : Int32)), (.int (0 : Int32)), (.int (0 : Int32)), (.int (0 : Int32)), (.int (0 : Int32)), (.int (0 : Int32))]) (5 : Int32) ([(.int x0.toInt8.toInt32), (.int x1.toInt8.toInt32), (.int (58 : Int32)), (.int y0.toInt8.toInt32), (.int y1.toInt8.toInt32)]) h1579 n0 f1585 f1584 f1573 f1574 f1575 f1583 f1577 O2 O4 P5 rG3 (by decide) (by decide) (by decide) (by decide) rfl) C 0 (own_wd hw 202 rfl) (own_wd hw 122 rfl) (by decide) (by decide)) (fun _ _ _ q => q.2) f1573 [] [] rfl own_pd23 rfl rfl rfl (Nat.le_of_ble_eq_true rfl) (by decide) (by decide) (by decide +kernel) ?_
  rintro T1596 h1597 v1598 L1599 S1600 ⟨⟨a1586, a1587, k1588, rfl, g1589, g1590, K1591, f1592, f1593, f1594, f1595⟩, -⟩
  replace S1600 : own_S p l e ({ frames := 6, cells := 8, slots := 144, locals := 91 } : Room) (s.setVm vm1475) m #[(.ref n), (.ref y)] below meth c n0 T1596 h1597 8 144 := S1600
  show own_Go p e below _ T1596 (mkF m 40 #[.val (.ref n), .val (.ref y)] [(.ref a1586)])
  have f1601 : a1492 < h1597.size := (Nat.lt_of_lt_of_le (Nat.lt_of_lt_of_le (Nat.lt_of_lt_of_le (Nat.lt_of_lt_of_le f1500.lt K1532.1) K1546.1) K1572.1) K1591.1)
  have f1602 : a1481 < h1597.size := (Nat.lt_of_lt_of_le (Nat.lt_of_lt_of_le (Nat.lt_of_lt_of_le (Nat.lt_of_lt_of_le (Nat.lt_of_lt_of_le f1486.lt K1495.1) K1532.1) K1546.1) K1572.1) K1591.1)
  have SW1603 : own_SW p l e ({ frames := 6, cells := 8, slots := 144, locals := 91 } : Room) s m #[(.ref n), (.ref y)] below meth c n0 Z own_EL "com/example/nearfar_cache/nearfarcache/redis/RedisKeys" T1596 h1597 [a1481, a1492, a1586, a1587] 8 144 := rb1477 _ _ _ _ [] [a1481, a1492, a1586, a1587] S1600 (((((((Keep.refl _ _).ext E1483).trans K1495 (allS (Or.inr (by rw [g1482]; exact (Nat.le_refl _))) all0)).trans K1532 (allS (Or.inr (by rw [g1482]; exact (Nat.le_refl _))) (allS (Or.inr (Nat.le_trans (Nat.le_trans (Nat.le_refl _) E1483.1) g1494)) all0))).trans K1546 (allS (Or.inr (by rw [g1482]; exact (Nat.le_refl _))) (allS (Or.inr (Nat.le_trans (Nat.le_trans (Nat.le_refl _) E1483.1) g1494)) all0))).trans K1572 (allS (Or.inr (by rw [g1482]; exact (Nat.le_refl _))) (allS (Or.inr (Nat.le_trans (Nat.le_trans (Nat.le_refl _) E1483.1) g1494)) all0))).trans K1591 all0) all0 (allS ⟨(by rw [g1482]; exact (Nat.le_refl _)), f1602⟩ (allS ⟨(Nat.le_trans (Nat.le_trans (Nat.le_refl _) E1483.1) g1494), f1601⟩ (allS ⟨(Nat.le_trans (Nat.le_trans (Nat.le_trans (Nat.le_trans (Nat.le_trans (Nat.le_trans (Nat.le_refl _) E1483.1) K1495.1) K1532.1) K1546.1) K1572.1) g1589), f1592.lt⟩ (allS ⟨(Nat.le_trans (Nat.le_trans (Nat.le_trans (Nat.le_trans (Nat.le_trans (Nat.le_trans (Nat.le_refl _) E1483.1) K1495.1) K1532.1) K1546.1) K1572.1) g1590), f1595.lt⟩ all0))))
  refine own_retAW CW SW1603 rfl rfl (by decide +kernel) (by decide) (by decide) ?_
  exact ⟨a1586, a1587, k1588, rfl, (Nat.le_trans (Nat.le_trans (Nat.le_trans (Nat.le_trans (Nat.le_trans (Nat.le_trans (Nat.le_trans (Nat.le_trans (Nat.le_refl _) E1451.1) E1467.1) E1483.1) K1495.1) K1532.1) K1546.1) K1572.1) g1589), (Nat.le_trans (Nat.le_trans (Nat.le_trans (Nat.le_trans (Nat.le_trans (Nat.le_trans (Nat.le_trans (Nat.le_trans (Nat.le_refl _) E1451.1) E1467.1) E1483.1) K1495.1) K1532.1) K1546.1) K1572.1) g1590), (((((((((Keep.refl _ _).ext E1451).ext E1467).ext E1483).trans K1495 (allS (Or.inr (by rw [g1482]; exact (Nat.le_trans (Nat.le_trans (Nat.le_refl _) E1451.1) E1467.1))) all0)).trans K1532 (allS (Or.inr (by rw [g1482]; exact (Nat.le_trans (Nat.le_trans (Nat.le_refl _) E1451.1) E1467.1))) (allS (Or.inr (Nat.le_trans (Nat.le_trans (Nat.le_trans (Nat.le_trans (Nat.le_refl _) E1451.1) E1467.1) E1483.1) g1494)) all0))).trans K1546 (allS (Or.inr (by rw [g1482]; exact (Nat.le_trans (Nat.le_trans (Nat.le_refl _) E1451.1) E1467.1))) (allS (Or.inr (Nat.le_trans (Nat.le_trans (Nat.le_trans (Nat.le_trans (Nat.le_refl _) E1451.1) E1467.1) E1483.1) g1494)) all0))).trans K1572 (allS (Or.inr (by rw [g1482]; exact (Nat.le_trans (Nat.le_trans (Nat.le_refl _) E1451.1) E1467.1))) (allS (Or.inr (Nat.le_trans (Nat.le_trans (Nat.le_trans (Nat.le_trans (Nat.le_refl _) E1451.1) E1467.1) E1483.1) g1494)) all0))).trans K1591 all0), f1592, f1593, f1594, f1595⟩
theorem own_pd26 : parseMethodDescriptor "(I)C" = some ⟨[.int], (some .char)⟩ := by decide +kernel
theorem own_hws : ∀ d ∈ StrChars.Road.words, d ∈ tables_1 := by decide +kernel
theorem own_pd27 : parseMethodDescriptor "([C)V" = some ⟨[(.array .char)], none⟩ := by decide +kernel
theorem own_pd28 : parseMethodDescriptor "(Lcom/example/nearfar_cache/nearfarcache/Namespace;Ljava/lang/String;)Ljava/lang/String;" = some ⟨[(.object "com/example/nearfar_cache/nearfarcache/Namespace"), (.object "java/lang/String")], (some (.object "java/lang/String"))⟩ := by decide +kernel
theorem own_hch : ∀ d ∈ StrChars.Road.wordsChN, d ∈ tables_1 := by decide +kernel
set_option maxRecDepth 65536 in
set_option maxHeartbeats 40000000 in
theorem own_law (l : Launch) (Z : State) (a0 : Array Value) (hw : ∀ d ∈ tables_1, d.before a0 Z = true) (hEL : EW Z a0 own_EL) (wS : ∀ a ∈ Bundle.stringAtoms, a.before a0 Z = true) (G1 : Int32) (G3 : Value) (i0 : Int32) (i1 : Int32) (i2 : Int32) (i3 : Int32) (i4 : Int32) (h0 : Heap) (n0 : Nat) (z0 : n0 ≤ h0.size) (X00 : Old Z n0 h0) (O2 : Sta Z Z.heap "java/lang/String" "COMPACT_STRINGS" "Z" (.int G1)) (O4 : Sta Z Z.heap "jdk/internal/util/Preconditions" "SIOOBE_FORMATTER" "Ljava/util/function/BiFunction;" G3) (P5 : ¬ G1 = (0 : Int32)) (rG3 : G3.isRef = true) :
    own_MetW l Z own_EL x code maxLocals ret room_1 n0 #[(.int i0), (.int i1), (.int i2), (.int i3), (.int i4)] h0 [] (fun v h => v = some (.int 1)) := by
  refine own_metW hEL wS (by decide +kernel) #[.val (.int i0), .val (.int i1), .val (.int i2), .val (.int i3), .val (.int i4), .unset, .unset, .unset, .unset, .unset, .unset, .unset, .unset, .unset, .unset, .unset, .unset, .unset, .unset, .unset] (fun m => by first | (simp [entryFrame, mkF, argsToLocals, Value.category, maxLocals]; done) | rfl) ?_
  intro p e s m below meth c T0 CW SW0
  refine own_lift CW SW0 ?_
  intro vm1604 C S1605 rb1606
  refine own_seg C S1605 [(0, .iconst 1, 1), (1, .iload 4, 2), (3, .iconst 1, 1), (4, .iand, 1), (5, .iadd, 1), (6, .istore 5, 2), (8, .iload 4, 2), (10, .iconst 1, 1), (11, .iushr, 1), (12, .iconst 3, 1)] (by decide +kernel) 13 #[.val (.int i0), .val (.int i1), .val (.int i2), .val (.int i3), .val (.int i4), .val (.int ((1 : Int32) + (i4 &&& (1 : Int32)))), .unset, .unset, .unset, .unset, .unset, .unset, .unset, .unset, .unset, .unset, .unset, .unset, .unset, .unset] [(.int (3 : Int32)), (.int (Jvm.Free.XT.ushr i4 (1 : Int32)))] rfl ?_
  refine own_irem C S1605 (by decide +kernel) (by decide) ?_
  refine own_seg C S1605 [(14, .istore 6, 2), (16, .iload_n 0, 1)] (by decide +kernel) 17 #[.val (.int i0), .val (.int i1), .val (.int i2), .val (.int i3), .val (.int i4), .val (.int ((1 : Int32) + (i4 &&& (1 : Int32)))), .val (.int ((Jvm.Free.XT.ushr i4 (1 : Int32)) % (3 : Int32))), .unset, .unset, .unset, .unset, .unset, .unset, .unset, .unset, .unset, .unset, .unset, .unset, .unset] [(.int i0)] rfl ?_
  refine own_callS C S1605 (own_wd hw 0 rfl) (own_wd hw 1 rfl) (own_wd hw 2 rfl) (own_wd hw 3 rfl) (by decide) (own_Met.pay (own_ch l Z a0 hw i0 h0 n0 z0) C 0 (own_wd hw 3 rfl) (own_wd hw 2 rfl) (by decide) (by decide)) (fun _ _ _ q => q.2) [(.int i0)] [] rfl own_pd26 rfl rfl rfl (Nat.le_of_ble_eq_true rfl) (by decide) (by decide) (by decide +kernel) ?_
  rintro T1611 h1612 v1613 L1614 S1615 ⟨⟨y1607, rfl, e1608, p1609, p1610⟩, -⟩
  replace S1615 : own_S p l e room_1 (s.setVm vm1604) m #[(.int i0), (.int i1), (.int i2), (.int i3), (.int i4)] below meth c n0 T1611 h1612 0 0 := S1615
  rw [e1608] at S1615; clear e1608
  show own_Go p e below _ T1611 (mkF m 20 #[.val (.int i0), .val (.int i1), .val (.int i2), .val (.int i3), .val (.int i4), .val (.int ((1 : Int32) + (i4 &&& (1 : Int32)))), .val (.int ((Jvm.Free.XT.ushr i4 (1 : Int32)) % (3 : Int32))), .unset, .unset, .unset, .unset, .unset, .unset, .unset, .unset, .unset, .unset, .unset, .unset, .unset] [(.int y1607)])
  refine own_seg C S1615 [(20, .istore 7, 2), (22, .iload_n 1, 1)] (by decide +kernel) 23 #[.val (.int i0), .val (.int i1), .val (.int i2), .val (.int i3), .val (.int i4), .val (.int ((1 : Int32) + (i4 &&& (1 : Int32)))), .val (.int ((Jvm.Free.XT.ushr i4 (1 : Int32)) % (3 : Int32))), .val (.int y1607), .unset, .unset, .unset, .unset, .unset, .unset, .unset, .unset, .unset, .unset, .unset, .unset] [(.int i1)] rfl ?_
  refine own_callS C S1615 (own_wd hw 0 rfl) (own_wd hw 1 rfl) (own_wd hw 2 rfl) (own_wd hw 3 rfl) (by decide) (own_Met.pay (own_ch l Z a0 hw i1 h0 n0 z0) C 0 (own_wd hw 3 rfl) (own_wd hw 2 rfl) (by decide) (by decide)) (fun _ _ _ q => q.2) [(.int i1)] [] rfl own_pd26 rfl rfl rfl (Nat.le_of_ble_eq_true rfl) (by decide) (by decide) (by decide +kernel) ?_
  rintro T1620 h1621 v1622 L1623 S1624 ⟨⟨y1616, rfl, e1617, p1618, p1619⟩, -⟩
  replace S1624 : own_S p l e room_1 (s.setVm vm1604) m #[(.int i0), (.int i1), (.int i2), (.int i3), (.int i4)] below meth c n0 T1620 h1621 0 0 := S1624
  rw [e1617] at S1624; clear e1617
  show own_Go p e below _ T1620 (mkF m 26 #[.val (.int i0), .val (.int i1), .val (.int i2), .val (.int i3), .val (.int i4), .val (.int ((1 : Int32) + (i4 &&& (1 : Int32)))), .val (.int ((Jvm.Free.XT.ushr i4 (1 : Int32)) % (3 : Int32))), .val (.int y1607), .unset, .unset, .unset, .unset, .unset, .unset, .unset, .unset, .unset, .unset, .unset, .unset] [(.int y1616)])
  refine own_seg C S1624 [(26, .istore 8, 2), (28, .iload_n 2, 1), (29, .sipush 255, 3), (32, .iand, 1), (33, .i2c, 1), (34, .istore 9, 2), (36, .iload_n 3, 1), (37, .sipush 255, 3), (40, .iand, 1), (41, .i2c, 1), (42, .istore 10, 2)] (by decide +kernel) 44 #[.val (.int i0), .val (.int i1), .val (.int i2), .val (.int i3), .val (.int i4), .val (.int ((1 : Int32) + (i4 &&& (1 : Int32)))), .val (.int ((Jvm.Free.XT.ushr i4 (1 : Int32)) % (3 : Int32))), .val (.int y1607), .val (.int y1616), .val (.int ((i2 &&& (255 : Int32)).toUInt32.toUInt16.toUInt32.toInt32)), .val (.int ((i3 &&& (255 : Int32)).toUInt32.toUInt16.toUInt32.toInt32)), .unset, .unset, .unset, .unset, .unset, .unset, .unset, .unset, .unset] [] rfl ?_
  rw [show (i2 &&& (255 : Int32)).toUInt32.toUInt16.toUInt32.toInt32 = (i2 &&& (255 : Int32)) from i2c_mask i2]
  rw [show (i3 &&& (255 : Int32)).toUInt32.toUInt16.toUInt32.toInt32 = (i3 &&& (255 : Int32)) from i2c_mask i3]
  refine own_seg C S1624 [(44, .iconst 1, 1)] (by decide +kernel) 45 #[.val (.int i0), .val (.int i1), .val (.int i2), .val (.int i3), .val (.int i4), .val (.int ((1 : Int32) + (i4 &&& (1 : Int32)))), .val (.int ((Jvm.Free.XT.ushr i4 (1 : Int32)) % (3 : Int32))), .val (.int y1607), .val (.int y1616), .val (.int (i2 &&& (255 : Int32))), .val (.int (i3 &&& (255 : Int32))), .unset, .unset, .unset, .unset, .unset, .unset, .unset, .unset, .unset] [(.int (1 : Int32))] rfl ?_
  refine own_newP C S1624 (aty := .char) (own_wd hw 4 rfl) (by decide +kernel) (by decide) 1 (by decide) (by decide) (by decide) (by decide) ?_
  intro T1625 h1627 a1628 k1629 S1626 g1630 E1631 f1632
  have f1633 : Arv Z h1627 a1628 k1629 .char (1 : Int32) ([(.int (0 : Int32))]) (.int (0 : Int32)) := Arv.pad f1632 (pad_rep [] (.int (0 : Int32)) 1)
  refine own_seg C S1626 [(47, .dup, 1), (48, .iconst 0, 1), (49, .iload 7, 2)] (by decide +kernel) 51 #[.val (.int i0), .val (.int i1), .val (.int i2), .val (.int i3), .val (.int i4), .val (.int ((1 : Int32) + (i4 &&& (1 : Int32)))), .val (.int ((Jvm.Free.XT.ushr i4 (1 : Int32)) % (3 : Int32))), .val (.int y1607), .val (.int y1616), .val (.int (i2 &&& (255 : Int32))), .val (.int (i3 &&& (255 : Int32))), .unset, .unset, .unset, .unset, .unset, .unset, .unset, .unset, .unset] [(.int y1607), (.int (0 : Int32)), (.ref a1628), (.ref a1628)] rfl ?_
  have g1634 : n0 ≤ a1628 := by rw [g1630]; exact z0
  refine own_castore C S1626 f1633 ⟨(by decide), (by decide)⟩ 0 rfl (Nat.le_of_ble_eq_true rfl) y1607 p1609.2.1 g1634 (by decide +kernel) ?_
  intro T1635 h1637 S1636 W1638 f1639
  have f1640 : Arv Z h1637 a1628 k1629 .char (1 : Int32) ([(.int y1607)]) (.int (0 : Int32)) := f1639
  refine own_seg C S1636 [(52, .astore 11, 2), (54, .iconst 2, 1)] (by decide +kernel) 55 #[.val (.int i0), .val (.int i1), .val (.int i2), .val (.int i3), .val (.int i4), .val (.int ((1 : Int32) + (i4 &&& (1 : Int32)))), .val (.int ((Jvm.Free.XT.ushr i4 (1 : Int32)) % (3 : Int32))), .val (.int y1607), .val (.int y1616), .val (.int (i2 &&& (255 : Int32))), .val (.int (i3 &&& (255 : Int32))), .val (.ref a1628), .unset, .unset, .unset, .unset, .unset, .unset, .unset, .unset] [(.int (2 : Int32))] rfl ?_
  refine own_newP C S1636 (aty := .char) (own_wd hw 4 rfl) (by decide +kernel) (by decide) 2 (by decide) (by decide) (by decide) (by decide) ?_
  intro T1641 h1643 a1644 k1645 S1642 g1646 E1647 f1648
  have f1649 : Arv Z h1643 a1644 k1645 .char (2 : Int32) ([(.int (0 : Int32)), (.int (0 : Int32))]) (.int (0 : Int32)) := Arv.pad f1648 (pad_rep [] (.int (0 : Int32)) 2)
  refine own_seg C S1642 [(57, .dup, 1), (58, .iconst 0, 1), (59, .iload 7, 2)] (by decide +kernel) 61 #[.val (.int i0), .val (.int i1), .val (.int i2), .val (.int i3), .val (.int i4), .val (.int ((1 : Int32) + (i4 &&& (1 : Int32)))), .val (.int ((Jvm.Free.XT.ushr i4 (1 : Int32)) % (3 : Int32))), .val (.int y1607), .val (.int y1616), .val (.int (i2 &&& (255 : Int32))), .val (.int (i3 &&& (255 : Int32))), .val (.ref a1628), .unset, .unset, .unset, .unset, .unset, .unset, .unset, .unset] [(.int y1607), (.int (0 : Int32)), (.ref a1644), (.ref a1644)] rfl ?_
  have f1650 : n0 ≤ h1637.size := (by rw [W1638.size]; exact (Nat.le_trans z0 E1631.1))
  have g1651 : n0 ≤ a1644 := by rw [g1646]; exact f1650
  refine own_castore C S1642 f1649 ⟨(by decide), (by decide)⟩ 0 rfl (Nat.le_of_ble_eq_true rfl) y1607 p1609.2.1 g1651 (by decide +kernel) ?_
  intro T1652 h1654 S1653 W1655 f1656
  have f1657 : Arv Z h1654 a1644 k1645 .char (2 : Int32) ([(.int y1607), (.int (0 : Int32))]) (.int (0 : Int32)) := f1656
  refine own_seg C S1653 [(62, .dup, 1), (63, .iconst 1, 1), (64, .iload 8, 2)] (by decide +kernel) 66 #[.val (.int i0), .val (.int i1), .val (.int i2), .val (.int i3), .val (.int i4), .val (.int ((1 : Int32) + (i4 &&& (1 : Int32)))), .val (.int ((Jvm.Free.XT.ushr i4 (1 : Int32)) % (3 : Int32))), .val (.int y1607), .val (.int y1616), .val (.int (i2 &&& (255 : Int32))), .val (.int (i3 &&& (255 : Int32))), .val (.ref a1628), .unset, .unset, .unset, .unset, .unset, .unset, .unset, .unset] [(.int y1616), (.int (1 : Int32)), (.ref a1644), (.ref a1644)] rfl ?_
  refine own_castore C S1653 f1657 ⟨(by decide), (by decide)⟩ 1 rfl (Nat.le_of_ble_eq_true rfl) y1616 p1618.2.1 g1651 (by decide +kernel) ?_
  intro T1658 h1660 S1659 W1661 f1662
  have f1663 : Arv Z h1660 a1644 k1645 .char (2 : Int32) ([(.int y1607), (.int y1616)]) (.int (0 : Int32)) := f1662
  refine own_seg C S1659 [(67, .astore 12, 2), (69, .iconst 0, 1)] (by decide +kernel) 70 #[.val (.int i0), .val (.int i1), .val (.int i2), .val (.int i3), .val (.int i4), .val (.int ((1 : Int32) + (i4 &&& (1 : Int32)))), .val (.int ((Jvm.Free.XT.ushr i4 (1 : Int32)) % (3 : Int32))), .val (.int y1607), .val (.int y1616), .val (.int (i2 &&& (255 : Int32))), .val (.int (i3 &&& (255 : Int32))), .val (.ref a1628), .val (.ref a1644), .unset, .unset, .unset, .unset, .unset, .unset, .unset] [(.int (0 : Int32))] rfl ?_
  refine own_newP C S1659 (aty := .char) (own_wd hw 4 rfl) (by decide +kernel) (by decide) 0 (by decide) (by decide) (by decide) (by decide) ?_
  intro T1664 h1666 a1667 k1668 S1665 g1669 E1670 f1671
  have f1672 : Arv Z h1666 a1667 k1668 .char (0 : Int32) ([]) (.int (0 : Int32)) := Arv.pad f1671 (pad_rep [] (.int (0 : Int32)) 0)
  refine own_seg C S1665 [(72, .astore 13, 2), (74, .iconst 1, 1)] (by decide +kernel) 75 #[.val (.int i0), .val (.int i1), .val (.int i2), .val (.int i3), .val (.int i4), .val (.int ((1 : Int32) + (i4 &&& (1 : Int32)))), .val (.int ((Jvm.Free.XT.ushr i4 (1 : Int32)) % (3 : Int32))), .val (.int y1607), .val (.int y1616), .val (.int (i2 &&& (255 : Int32))), .val (.int (i3 &&& (255 : Int32))), .val (.ref a1628), .val (.ref a1644), .val (.ref a1667), .unset, .unset, .unset, .unset, .unset, .unset] [(.int (1 : Int32))] rfl ?_
  refine own_newP C S1665 (aty := .char) (own_wd hw 4 rfl) (by decide +kernel) (by decide) 1 (by decide) (by decide) (by decide) (by decide) ?_
  intro T1673 h1675 a1676 k1677 S1674 g1678 E1679 f1680
  have f1681 : Arv Z h1675 a1676 k1677 .char (1 : Int32) ([(.int (0 : Int32))]) (.int (0 : Int32)) := Arv.pad f1680 (pad_rep [] (.int (0 : Int32)) 1)
  refine own_seg C S1674 [(77, .dup, 1), (78, .iconst 0, 1), (79, .iload 9, 2)] (by decide +kernel) 81 #[.val (.int i0), .val (.int i1), .val (.int i2), .val (.int i3), .val (.int i4), .val (.int ((1 : Int32) + (i4 &&& (1 : Int32)))), .val (.int ((Jvm.Free.XT.ushr i4 (1 : Int32)) % (3 : Int32))), .val (.int y1607), .val (.int y1616), .val (.int (i2 &&& (255 : Int32))), .val (.int (i3 &&& (255 : Int32))), .val (.ref a1628), .val (.ref a1644), .val (.ref a1667), .unset, .unset, .unset, .unset, .unset, .unset] [(.int (i2 &&& (255 : Int32))), (.int (0 : Int32)), (.ref a1676), (.ref a1676)] rfl ?_
  have f1682 : n0 ≤ h1666.size := (Nat.le_trans (by rw [W1661.size]; exact (by rw [W1655.size]; exact (Nat.le_trans f1650 E1647.1))) E1670.1)
  have g1683 : n0 ≤ a1676 := by rw [g1678]; exact f1682
  refine own_castore C S1674 f1681 ⟨(by decide), (by decide)⟩ 0 rfl (Nat.le_of_ble_eq_true rfl) (i2 &&& (255 : Int32)) (own_Ch.of i2).2.1 g1683 (by decide +kernel) ?_
  intro T1684 h1686 S1685 W1687 f1688
  have f1689 : Arv Z h1686 a1676 k1677 .char (1 : Int32) ([(.int (i2 &&& (255 : Int32)))]) (.int (0 : Int32)) := f1688
  refine own_seg C S1685 [(82, .astore 14, 2), (84, .iconst 2, 1)] (by decide +kernel) 85 #[.val (.int i0), .val (.int i1), .val (.int i2), .val (.int i3), .val (.int i4), .val (.int ((1 : Int32) + (i4 &&& (1 : Int32)))), .val (.int ((Jvm.Free.XT.ushr i4 (1 : Int32)) % (3 : Int32))), .val (.int y1607), .val (.int y1616), .val (.int (i2 &&& (255 : Int32))), .val (.int (i3 &&& (255 : Int32))), .val (.ref a1628), .val (.ref a1644), .val (.ref a1667), .val (.ref a1676), .unset, .unset, .unset, .unset, .unset] [(.int (2 : Int32))] rfl ?_
  refine own_newP C S1685 (aty := .char) (own_wd hw 4 rfl) (by decide +kernel) (by decide) 2 (by decide) (by decide) (by decide) (by decide) ?_
  intro T1690 h1692 a1693 k1694 S1691 g1695 E1696 f1697
  have f1698 : Arv Z h1692 a1693 k1694 .char (2 : Int32) ([(.int (0 : Int32)), (.int (0 : Int32))]) (.int (0 : Int32)) := Arv.pad f1697 (pad_rep [] (.int (0 : Int32)) 2)
  refine own_seg C S1691 [(87, .dup, 1), (88, .iconst 0, 1), (89, .iload 9, 2)] (by decide +kernel) 91 #[.val (.int i0), .val (.int i1), .val (.int i2), .val (.int i3), .val (.int i4), .val (.int ((1 : Int32) + (i4 &&& (1 : Int32)))), .val (.int ((Jvm.Free.XT.ushr i4 (1 : Int32)) % (3 : Int32))), .val (.int y1607), .val (.int y1616), .val (.int (i2 &&& (255 : Int32))), .val (.int (i3 &&& (255 : Int32))), .val (.ref a1628), .val (.ref a1644), .val (.ref a1667), .val (.ref a1676), .unset, .unset, .unset, .unset, .unset] [(.int (i2 &&& (255 : Int32))), (.int (0 : Int32)), (.ref a1693), (.ref a1693)] rfl ?_
  have f1699 : n0 ≤ h1686.size := (by rw [W1687.size]; exact (Nat.le_trans f1682 E1679.1))
  have g1700 : n0 ≤ a1693 := by rw [g1695]; exact f1699
  refine own_castore C S1691 f1698 ⟨(by decide), (by decide)⟩ 0 rfl (Nat.le_of_ble_eq_true rfl) (i2 &&& (255 : Int32)) (own_Ch.of i2).2.1 g1700 (by decide +kernel) ?_
  intro T1701 h1703 S1702 W1704 f1705
  have f1706 : Arv Z h1703 a1693 k1694 .char (2 : Int32) ([(.int (i2 &&& (255 : Int32))), (.int (0 : Int32))]) (.int (0 : Int32)) := f1705
  refine own_seg C S1702 [(92, .dup, 1), (93, .iconst 1, 1), (94, .iload 10, 2)] (by decide +kernel) 96 #[.val (.int i0), .val (.int i1), .val (.int i2), .val (.int i3), .val (.int i4), .val (.int ((1 : Int32) + (i4 &&& (1 : Int32)))), .val (.int ((Jvm.Free.XT.ushr i4 (1 : Int32)) % (3 : Int32))), .val (.int y1607), .val (.int y1616), .val (.int (i2 &&& (255 : Int32))), .val (.int (i3 &&& (255 : Int32))), .val (.ref a1628), .val (.ref a1644), .val (.ref a1667), .val (.ref a1676), .unset, .unset, .unset, .unset, .unset] [(.int (i3 &&& (255 : Int32))), (.int (1 : Int32)), (.ref a1693), (.ref a1693)] rfl ?_
  refine own_castore C S1702 f1706 ⟨(by decide), (by decide)⟩ 1 rfl (Nat.le_of_ble_eq_true rfl) (i3 &&& (255 : Int32)) (own_Ch.of i3).2.1 g1700 (by decide +kernel) ?_
  intro T1707 h1709 S1708 W1710 f1711
  have f1712 : Arv Z h1709 a1693 k1694 .char (2 : Int32) ([(.int (i2 &&& (255 : Int32))), (.int (i3 &&& (255 : Int32)))]) (.int (0 : Int32)) := f1711
  refine own_seg C S1708 [(97, .astore 15, 2)] (by decide +kernel) 99 #[.val (.int i0), .val (.int i1), .val (.int i2), .val (.int i3), .val (.int i4), .val (.int ((1 : Int32) + (i4 &&& (1 : Int32)))), .val (.int ((Jvm.Free.XT.ushr i4 (1 : Int32)) % (3 : Int32))), .val (.int y1607), .val (.int y1616), .val (.int (i2 &&& (255 : Int32))), .val (.int (i3 &&& (255 : Int32))), .val (.ref a1628), .val (.ref a1644), .val (.ref a1667), .val (.ref a1676), .val (.ref a1693), .unset, .unset, .unset, .unset] [] rfl ?_
  rcases own_n2 i4 with qn | qn
  · rw [show ((1 : Int32) + (i4 &&& (1 : Int32))) = (1 : Int32) from qn]
    rcases own_k3 i4 with qk | qk | qk
    · rw [show ((Jvm.Free.XT.ushr i4 (1 : Int32)) % (3 : Int32)) = (0 : Int32) from qk]
      refine own_seg C S1708 [(99, .iload 5, 2), (101, .iconst 1, 1)] (by decide +kernel) 102 #[.val (.int i0), .val (.int i1), .val (.int i2), .val (.int i3), .val (.int i4), .val (.int (1 : Int32)), .val (.int (0 : Int32)), .val (.int y1607), .val (.int y1616), .val (.int (i2 &&& (255 : Int32))), .val (.int (i3 &&& (255 : Int32))), .val (.ref a1628), .val (.ref a1644), .val (.ref a1667), .val (.ref a1676), .val (.ref a1693), .unset, .unset, .unset, .unset] [(.int (1 : Int32)), (.int (1 : Int32))] rfl ?_
      refine own_icmp C S1708 (q := .ne) (o := 17) (by decide +kernel) 119 (by decide) (by decide) (fun (hq : ¬ (1 : Int32) = (1 : Int32)) => False.elim (by revert hq; decide)) (fun (q1713 : (1 : Int32) = (1 : Int32)) => ?_)
      refine own_new C S1708 (own_wd hw 5 rfl) (own_wd hw 6 rfl) (own_wd hw 7 rfl) (by decide +kernel) (by decide) (by decide) ?_
      intro T1714 h1716 a1717 S1715 g1718 E1719 x1720 D1721
      have f1722 : Fld Z h1716 a1717 "java/lang/String" "coder" "B" (.int (0 : Int32)) := D1721 (ty := .byte) (Or.inr (own_wd hw 31 rfl)) own_fd1
      have f1723 : Fld Z h1716 a1717 "java/lang/String" "value" "[B" .null := D1721 (ty := (.array .byte)) (Or.inr (own_wd hw 33 rfl)) own_fd0
      refine own_seg C S1715 [(108, .dup, 1), (109, .aload 11, 2)] (by decide +kernel) 111 #[.val (.int i0), .val (.int i1), .val (.int i2), .val (.int i3), .val (.int i4), .val (.int (1 : Int32)), .val (.int (0 : Int32)), .val (.int y1607), .val (.int y1616), .val (.int (i2 &&& (255 : Int32))), .val (.int (i3 &&& (255 : Int32))), .val (.ref a1628), .val (.ref a1644), .val (.ref a1667), .val (.ref a1676), .val (.ref a1693), .unset, .unset, .unset, .unset] [(.ref a1628), (.ref a1717), (.ref a1717)] rfl ?_
      have hp1724 : ∀ c ∈ ([y1607] : List Int32), ¬ c < 0 ∧ ¬ (255 : Int32) < c := by
        intro c hc; simp only [List.mem_cons, List.not_mem_nil, or_false] at hc
        rcases hc with rfl
        · exact p1609.1
      have f1725 : n0 ≤ h1716.size := (Nat.le_trans (by rw [W1710.size]; exact (by rw [W1704.size]; exact (Nat.le_trans f1699 E1696.1))) E1719.1)
      have f1726 : n0 ≤ h1709.size := (by rw [W1710.size]; exact (by rw [W1704.size]; exact (Nat.le_trans f1699 E1696.1)))
      have g1727 : n0 ≤ a1717 := by rw [g1718]; exact f1726
      have f1728 : a1628 < h1637.size := (by rw [W1638.size]; exact f1633.lt)
      have n1729 : a1628 ≠ a1644 := by rw [g1646]; exact Nat.ne_of_lt f1728
      have f1730 : a1628 < h1666.size := (Nat.lt_of_lt_of_le (by rw [W1661.size]; exact (by rw [W1655.size]; exact (Nat.lt_of_lt_of_le f1728 E1647.1))) E1670.1)
      have n1731 : a1628 ≠ a1676 := by rw [g1678]; exact Nat.ne_of_lt f1730
      have f1732 : a1628 < h1686.size := (by rw [W1687.size]; exact (Nat.lt_of_lt_of_le f1730 E1679.1))
      have n1733 : a1628 ≠ a1693 := by rw [g1695]; exact Nat.ne_of_lt f1732
      have f1734 : Arv Z h1716 a1628 k1629 .char (1 : Int32) ([(.int y1607)]) (.int (0 : Int32)) := ((((((((((f1640.ext E1647).other W1655 n1729).other W1661 n1729).ext E1670).ext E1679).other W1687 n1731).ext E1696).other W1704 n1733).other W1710 n1733).ext E1719)
      have f1735 : Old Z n0 h1716 := ((((((((((((X00.ext E1631).wr W1638 g1634).ext E1647).wr W1655 g1651).wr W1661 g1651).ext E1670).ext E1679).wr W1687 g1683).ext E1696).wr W1704 g1700).wr W1710 g1700).ext E1719)
      refine own_callI C S1715 rfl (own_wd hw 8 rfl) (own_wd hw 9 rfl) (own_wd hw 10 rfl) (by decide) (StrChars.Road.backV (W := 1) C.2.2.2.2.2.2.2 (fun d hd => hw d (own_hws d hd)) (kI := 4) (own_wd hw 6 rfl) (cs := ([y1607] : List Int32)) (bs := (([y1607] : List Int32)).map (fun c => c.toInt8.toInt32)) (n := 1) g1727 f1725 x1720 f1723 f1722 f1734 (O2.ext f1735.2) P5 rfl rfl (by decide) (by decide) hp1724 rfl (by decide) (by decide)) (fun _ _ _ q => q.2.1) [(.ref a1628)] [(.ref a1717)] rfl own_pd27 rfl rfl rfl (Nat.le_of_ble_eq_true rfl) (by decide) (by decide) (by decide +kernel) ?_
      rintro T1746 h1747 v1748 L1749 S1750 ⟨rfl, -, K1736, x1737, f1738, t1739, k1740, g1741, g1742, g1743, f1744, f1745⟩
      replace S1750 : own_S p l e room_1 (s.setVm vm1604) m #[(.int i0), (.int i1), (.int i2), (.int i3), (.int i4)] below meth c n0 T1746 h1747 7 11 := S1750
      have f1751 : Arv Z h1747 t1739 k1740 .byte (1 : Int32) ([(.int y1607.toInt8.toInt32)]) (.int 0) := f1745
      have hcd1752 : StrChars.Road.CodA ([y1607] : List Int32) 0 (1 : Int32) [(.int y1607.toInt8.toInt32)] := StrChars.Road.codOf (cs := ([y1607] : List Int32)) (n := 1) rfl (fun c hc => (hp1724 c hc).2)
      show own_Go p e below _ T1746 (mkF m 114 #[.val (.int i0), .val (.int i1), .val (.int i2), .val (.int i3), .val (.int i4), .val (.int (1 : Int32)), .val (.int (0 : Int32)), .val (.int y1607), .val (.int y1616), .val (.int (i2 &&& (255 : Int32))), .val (.int (i3 &&& (255 : Int32))), .val (.ref a1628), .val (.ref a1644), .val (.ref a1667), .val (.ref a1676), .val (.ref a1693), .unset, .unset, .unset, .unset] [(.ref a1717)])
      refine own_seg C S1750 [(114, .astore 16, 2), (116, .goto 14, 3), (130, .iload 6, 2)] (by decide +kernel) 132 #[.val (.int i0), .val (.int i1), .val (.int i2), .val (.int i3), .val (.int i4), .val (.int (1 : Int32)), .val (.int (0 : Int32)), .val (.int y1607), .val (.int y1616), .val (.int (i2 &&& (255 : Int32))), .val (.int (i3 &&& (255 : Int32))), .val (.ref a1628), .val (.ref a1644), .val (.ref a1667), .val (.ref a1676), .val (.ref a1693), .val (.ref a1717), .unset, .unset, .unset] [(.int (0 : Int32))] rfl ?_
      refine own_if C S1750 (q := .ne) (o := 17) (by decide +kernel) 149 (by decide) (by decide) (fun (hq : ¬ (0 : Int32) = (0 : Int32)) => False.elim (by revert hq; decide)) (fun (q1753 : (0 : Int32) = (0 : Int32)) => ?_)
      have hne1754 : ∀ c ∈ ([y1607] : List Int32), ¬ c = (58 : Int32) := by
        intro c hc; simp only [List.mem_cons, List.not_mem_nil, or_false] at hc
        rcases hc with rfl
        · exact p1610
      refine own_new C S1750 (own_wd hw 5 rfl) (own_wd hw 6 rfl) (own_wd hw 7 rfl) (by decide +kernel) (by decide) (by decide) ?_
      intro T1755 h1757 a1758 S1756 g1759 E1760 x1761 D1762
      have f1763 : Fld Z h1757 a1758 "java/lang/String" "coder" "B" (.int (0 : Int32)) := D1762 (ty := .byte) (Or.inr (own_wd hw 31 rfl)) own_fd1
      have f1764 : Fld Z h1757 a1758 "java/lang/String" "value" "[B" .null := D1762 (ty := (.array .byte)) (Or.inr (own_wd hw 33 rfl)) own_fd0
      refine own_seg C S1756 [(138, .dup, 1), (139, .aload 13, 2)] (by decide +kernel) 141 #[.val (.int i0), .val (.int i1), .val (.int i2), .val (.int i3), .val (.int i4), .val (.int (1 : Int32)), .val (.int (0 : Int32)), .val (.int y1607), .val (.int y1616), .val (.int (i2 &&& (255 : Int32))), .val (.int (i3 &&& (255 : Int32))), .val (.ref a1628), .val (.ref a1644), .val (.ref a1667), .val (.ref a1676), .val (.ref a1693), .val (.ref a1717), .unset, .unset, .unset] [(.ref a1667), (.ref a1758), (.ref a1758)] rfl ?_
      have f1765 : t1739 < h1757.size := (Nat.lt_of_lt_of_le f1751.lt E1760.1)
      have f1766 : a1717 < h1757.size := (Nat.lt_of_lt_of_le (Nat.lt_of_lt_of_le f1723.lt K1736.1) E1760.1)
      have f1767 : a1693 < h1757.size := (Nat.lt_of_lt_of_le (Nat.lt_of_lt_of_le (Nat.lt_of_lt_of_le (by rw [W1710.size]; exact (by rw [W1704.size]; exact f1698.lt)) E1719.1) K1736.1) E1760.1)
      have f1768 : a1676 < h1757.size := (Nat.lt_of_lt_of_le (Nat.lt_of_lt_of_le (Nat.lt_of_lt_of_le (by rw [W1710.size]; exact (by rw [W1704.size]; exact (Nat.lt_of_lt_of_le (by rw [W1687.size]; exact f1681.lt) E1696.1))) E1719.1) K1736.1) E1760.1)
      have f1769 : a1667 < h1757.size := (Nat.lt_of_lt_of_le (Nat.lt_of_lt_of_le (Nat.lt_of_lt_of_le (by rw [W1710.size]; exact (by rw [W1704.size]; exact (Nat.lt_of_lt_of_le (by rw [W1687.size]; exact (Nat.lt_of_lt_of_le f1672.lt E1679.1)) E1696.1))) E1719.1) K1736.1) E1760.1)
      have f1770 : a1644 < h1757.size := (Nat.lt_of_lt_of_le (Nat.lt_of_lt_of_le (Nat.lt_of_lt_of_le (by rw [W1710.size]; exact (by rw [W1704.size]; exact (Nat.lt_of_lt_of_le (by rw [W1687.size]; exact (Nat.lt_of_lt_of_le (Nat.lt_of_lt_of_le (by rw [W1661.size]; exact (by rw [W1655.size]; exact f1649.lt)) E1670.1) E1679.1)) E1696.1))) E1719.1) K1736.1) E1760.1)
      have f1771 : a1628 < h1757.size := (Nat.lt_of_lt_of_le (Nat.lt_of_lt_of_le (Nat.lt_of_lt_of_le (by rw [W1710.size]; exact (by rw [W1704.size]; exact (Nat.lt_of_lt_of_le f1732 E1696.1))) E1719.1) K1736.1) E1760.1)
      have SW1772 : own_SW p l e room_1 s m #[(.int i0), (.int i1), (.int i2), (.int i3), (.int i4)] below meth c n0 Z own_EL "com/example/nearfar_cache/nearfarcache/redis/RedisKeysOfPinLaw" T1755 h1757 [a1628, a1644, a1667, a1676, a1693, a1717, t1739, a1758] 8 15 := rb1606 _ _ _ _ [] [a1628, a1644, a1667, a1676, a1693, a1717, t1739, a1758] S1756 (((((((((((((((Keep.refl _ _).ext E1631).wr W1638 (Or.inr (by rw [g1630]; exact (Nat.le_refl _)))).ext E1647).wr W1655 (Or.inr (by rw [g1646]; exact (by rw [W1638.size]; exact (Nat.le_trans (Nat.le_refl _) E1631.1))))).wr W1661 (Or.inr (by rw [g1646]; exact (by rw [W1638.size]; exact (Nat.le_trans (Nat.le_refl _) E1631.1))))).ext E1670).ext E1679).wr W1687 (Or.inr (by rw [g1678]; exact (Nat.le_trans (by rw [W1661.size]; exact (by rw [W1655.size]; exact (Nat.le_trans (by rw [W1638.size]; exact (Nat.le_trans (Nat.le_refl _) E1631.1)) E1647.1))) E1670.1)))).ext E1696).wr W1704 (Or.inr (by rw [g1695]; exact (by rw [W1687.size]; exact (Nat.le_trans (Nat.le_trans (by rw [W1661.size]; exact (by rw [W1655.size]; exact (Nat.le_trans (by rw [W1638.size]; exact (Nat.le_trans (Nat.le_refl _) E1631.1)) E1647.1))) E1670.1) E1679.1))))).wr W1710 (Or.inr (by rw [g1695]; exact (by rw [W1687.size]; exact (Nat.le_trans (Nat.le_trans (by rw [W1661.size]; exact (by rw [W1655.size]; exact (Nat.le_trans (by rw [W1638.size]; exact (Nat.le_trans (Nat.le_refl _) E1631.1)) E1647.1))) E1670.1) E1679.1))))).ext E1719).trans K1736 (allS (Or.inr (by rw [g1718]; exact (by rw [W1710.size]; exact (by rw [W1704.size]; exact (Nat.le_trans (by rw [W1687.size]; exact (Nat.le_trans (Nat.le_trans (by rw [W1661.size]; exact (by rw [W1655.size]; exact (Nat.le_trans (by rw [W1638.size]; exact (Nat.le_trans (Nat.le_refl _) E1631.1)) E1647.1))) E1670.1) E1679.1)) E1696.1))))) all0)).ext E1760) all0 (allS ⟨(by rw [g1630]; exact (Nat.le_refl _)), f1771⟩ (allS ⟨(by rw [g1646]; exact (by rw [W1638.size]; exact (Nat.le_trans (Nat.le_refl _) E1631.1))), f1770⟩ (allS ⟨(by rw [g1669]; exact (by rw [W1661.size]; exact (by rw [W1655.size]; exact (Nat.le_trans (by rw [W1638.size]; exact (Nat.le_trans (Nat.le_refl _) E1631.1)) E1647.1)))), f1769⟩ (allS ⟨(by rw [g1678]; exact (Nat.le_trans (by rw [W1661.size]; exact (by rw [W1655.size]; exact (Nat.le_trans (by rw [W1638.size]; exact (Nat.le_trans (Nat.le_refl _) E1631.1)) E1647.1))) E1670.1)), f1768⟩ (allS ⟨(by rw [g1695]; exact (by rw [W1687.size]; exact (Nat.le_trans (Nat.le_trans (by rw [W1661.size]; exact (by rw [W1655.size]; exact (Nat.le_trans (by rw [W1638.size]; exact (Nat.le_trans (Nat.le_refl _) E1631.1)) E1647.1))) E1670.1) E1679.1))), f1767⟩ (allS ⟨(by rw [g1718]; exact (by rw [W1710.size]; exact (by rw [W1704.size]; exact (Nat.le_trans (by rw [W1687.size]; exact (Nat.le_trans (Nat.le_trans (by rw [W1661.size]; exact (by rw [W1655.size]; exact (Nat.le_trans (by rw [W1638.size]; exact (Nat.le_trans (Nat.le_refl _) E1631.1)) E1647.1))) E1670.1) E1679.1)) E1696.1)))), f1766⟩ (allS ⟨(Nat.le_trans (Nat.le_trans (by rw [W1710.size]; exact (by rw [W1704.size]; exact (Nat.le_trans (by rw [W1687.size]; exact (Nat.le_trans (Nat.le_trans (by rw [W1661.size]; exact (by rw [W1655.size]; exact (Nat.le_trans (by rw [W1638.size]; exact (Nat.le_trans (Nat.le_refl _) E1631.1)) E1647.1))) E1670.1) E1679.1)) E1696.1))) E1719.1) g1742), f1765⟩ (allS ⟨(by rw [g1759]; exact (Nat.le_trans (Nat.le_trans (by rw [W1710.size]; exact (by rw [W1704.size]; exact (Nat.le_trans (by rw [W1687.size]; exact (Nat.le_trans (Nat.le_trans (by rw [W1661.size]; exact (by rw [W1655.size]; exact (Nat.le_trans (by rw [W1638.size]; exact (Nat.le_trans (Nat.le_refl _) E1631.1)) E1647.1))) E1670.1) E1679.1)) E1696.1))) E1719.1) K1736.1)), x1761.lt⟩ all0))))))))
      have n1773 : a1667 ≠ a1676 := by rw [g1678]; exact Nat.ne_of_lt f1672.lt
      have f1774 : a1667 < h1686.size := (by rw [W1687.size]; exact (Nat.lt_of_lt_of_le f1672.lt E1679.1))
      have n1775 : a1667 ≠ a1693 := by rw [g1695]; exact Nat.ne_of_lt f1774
      have f1776 : a1667 < h1709.size := (by rw [W1710.size]; exact (by rw [W1704.size]; exact (Nat.lt_of_lt_of_le f1774 E1696.1)))
      have n1777 : a1667 ≠ a1717 := by rw [g1718]; exact Nat.ne_of_lt f1776
      have f1778 : Arv Z h1757 a1667 k1668 .char (0 : Int32) ([]) (.int (0 : Int32)) := ((((((((f1672.ext E1679).other W1687 n1773).ext E1696).other W1704 n1775).other W1710 n1775).ext E1719).keep K1736 (ninS n1777 nin0)).ext E1760)
      have f1779 : n0 ≤ h1757.size := (Nat.le_trans (Nat.le_trans f1725 K1736.1) E1760.1)
      have f1780 : n0 ≤ h1747.size := (Nat.le_trans f1725 K1736.1)
      have g1781 : n0 ≤ a1758 := by rw [g1759]; exact f1780
      refine own_callIW CW SW1772 rfl (own_wd hw 8 rfl) (own_wd hw 9 rfl) (own_wd hw 7 rfl) (own_wd hw 10 rfl) (by decide) (own_se1 l Z a0 hw hEL wS a1758 a1667 k1668 ([]) (.int (0 : Int32)) h1757 n0 f1779 g1781 x1761 f1764 f1763 f1778) (allS (List.mem_of_getElem? (i := 7) rfl) all0) 1 (by decide) (by decide) [(.ref a1667)] [(.ref a1758)] rfl own_pd27 rfl rfl rfl (Nat.le_of_ble_eq_true rfl) (by decide) (by decide) (by decide +kernel) ?_
      rintro T1794 h1795 v1796 SW1797 hg1798 ⟨a1782, k1783, rfl, K1784, f1785, f1786, f1787, f1788⟩
      replace SW1797 : own_SW p l e room_1 s m #[(.int i0), (.int i1), (.int i2), (.int i3), (.int i4)] below meth c n0 Z own_EL "com/example/nearfar_cache/nearfarcache/redis/RedisKeysOfPinLaw" T1794 h1795 [a1628, a1644, a1667, a1676, a1693, a1717, t1739, a1758] 12 23 := SW1797
      show own_Go p e below _ T1794 (mkF m 144 #[.val (.int i0), .val (.int i1), .val (.int i2), .val (.int i3), .val (.int i4), .val (.int (1 : Int32)), .val (.int (0 : Int32)), .val (.int y1607), .val (.int y1616), .val (.int (i2 &&& (255 : Int32))), .val (.int (i3 &&& (255 : Int32))), .val (.ref a1628), .val (.ref a1644), .val (.ref a1667), .val (.ref a1676), .val (.ref a1693), .val (.ref a1717), .unset, .unset, .unset] [(.ref a1758)])
      have hp1799 : ∀ c ∈ ([] : List Int32), ¬ c < 0 ∧ ¬ (255 : Int32) < c := by
        intro c hc; cases hc
      have hcd1800 : StrChars.Road.CodA ([] : List Int32) 0 (0 : Int32) [] := StrChars.Road.codOf (cs := ([] : List Int32)) (n := 0) rfl (fun c hc => (hp1799 c hc).2)
      refine own_lift CW SW1797 ?_
      intro vm1801 C S1802 rb1803
      refine own_seg C S1802 [(144, .astore 17, 2), (146, .goto 34, 3)] (by decide +kernel) 180 #[.val (.int i0), .val (.int i1), .val (.int i2), .val (.int i3), .val (.int i4), .val (.int (1 : Int32)), .val (.int (0 : Int32)), .val (.int y1607), .val (.int y1616), .val (.int (i2 &&& (255 : Int32))), .val (.int (i3 &&& (255 : Int32))), .val (.ref a1628), .val (.ref a1644), .val (.ref a1667), .val (.ref a1676), .val (.ref a1693), .val (.ref a1717), .val (.ref a1758), .unset, .unset] [] rfl ?_
      refine own_new C S1802 (own_wd hw 37 rfl) (own_wd hw 38 rfl) (own_wd hw 39 rfl) (by decide +kernel) (by decide) (by decide) ?_
      intro T1804 h1806 a1807 S1805 g1808 E1809 x1810 D1811
      have f1812 : Fld Z h1806 a1807 "com/example/nearfar_cache/nearfarcache/Namespace" "name" "Ljava/lang/String;" .null := D1811 (ty := (.object "java/lang/String")) (Or.inr (own_wd hw 112 rfl)) own_fd3
      refine own_seg C S1805 [(183, .dup, 1), (184, .aload 16, 2)] (by decide +kernel) 186 #[.val (.int i0), .val (.int i1), .val (.int i2), .val (.int i3), .val (.int i4), .val (.int (1 : Int32)), .val (.int (0 : Int32)), .val (.int y1607), .val (.int y1616), .val (.int (i2 &&& (255 : Int32))), .val (.int (i3 &&& (255 : Int32))), .val (.ref a1628), .val (.ref a1644), .val (.ref a1667), .val (.ref a1676), .val (.ref a1693), .val (.ref a1717), .val (.ref a1758), .unset, .unset] [(.ref a1717), (.ref a1807), (.ref a1807)] rfl ?_
      have f1813 : Old Z n0 h1806 := ((((f1735.keep K1736 (allS g1727 all0)).ext E1760).keep K1784 (allS g1781 all0)).ext E1809)
      have f1814 : Exa Z h1806 a1717 "java/lang/String" := (Exa.ext E1809 ((Exa.ext E1760 x1737).keep K1784))
      have f1815 : a1717 < h1747.size := (Nat.lt_of_lt_of_le f1723.lt K1736.1)
      have n1816 : a1717 ≠ a1758 := by rw [g1759]; exact Nat.ne_of_lt f1815
      have f1817 : Fld Z h1806 a1717 "java/lang/String" "value" "[B" (.ref t1739) := (Fld.ext E1809 ((Fld.ext E1760 f1744).keep K1784 (ninS n1816 nin0)))
      have f1818 : Fld Z h1806 a1717 "java/lang/String" "coder" "B" (.int 0) := (Fld.ext E1809 ((Fld.ext E1760 f1738).keep K1784 (ninS n1816 nin0)))
      have n1819 : t1739 ≠ a1758 := by rw [g1759]; exact Nat.ne_of_lt f1751.lt
      have f1820 : Arv Z h1806 t1739 k1740 .byte (1 : Int32) ([(.int y1607.toInt8.toInt32)]) (.int 0) := (((f1751.ext E1760).keep K1784 (ninS n1819 nin0)).ext E1809)
      have f1821 : n0 ≤ h1806.size := (Nat.le_trans (Nat.le_trans f1779 K1784.1) E1809.1)
      have f1822 : n0 ≤ h1795.size := (Nat.le_trans f1779 K1784.1)
      have g1823 : n0 ≤ a1807 := by rw [g1808]; exact f1822
      have SW1832 : own_SW p l e room_1 s m #[(.int i0), (.int i1), (.int i2), (.int i3), (.int i4)] below meth c n0 Z own_EL "com/example/nearfar_cache/nearfarcache/redis/RedisKeysOfPinLaw" T1804 h1806 [a1807, a1628, a1644, a1667, a1676, a1693, a1717, t1739, a1758] 13 24 := rb1803 _ _ _ _ [] [a1807] S1805 ((Keep.refl _ _).ext E1809) all0 (allS ⟨(by rw [g1808]; exact (Nat.le_refl _)), x1810.lt⟩ all0)
      refine own_callIW CW SW1832 rfl (own_wd hw 40 rfl) (own_wd hw 41 rfl) (own_wd hw 39 rfl) (own_wd hw 42 rfl) (by decide) (own_ns l Z a0 hw hEL wS G1 G3 a1807 a1717 t1739 k1740 (1 : Int32) ([(.int y1607.toInt8.toInt32)]) ([y1607] : List Int32) h1806 n0 f1821 g1823 f1813 f1814 f1817 f1818 f1820 x1810 f1812 O2 O4 P5 rG3 hcd1752 hp1724 (Nat.le_of_ble_eq_true rfl) (by simp) hne1754 (by simp)) all0 1 (by decide) (by decide) [(.ref a1717)] [(.ref a1807)] rfl own_pd7 rfl rfl rfl (Nat.le_of_ble_eq_true rfl) (by decide) (by decide) (by decide +kernel) ?_
      rintro T1833 h1834 v1835 SW1836 hg1837 ⟨rfl, K1824, f1825, f1826⟩
      replace SW1836 : own_SW p l e room_1 s m #[(.int i0), (.int i1), (.int i2), (.int i3), (.int i4)] below meth c n0 Z own_EL "com/example/nearfar_cache/nearfarcache/redis/RedisKeysOfPinLaw" T1833 h1834 [a1807, a1628, a1644, a1667, a1676, a1693, a1717, t1739, a1758] 17 76 := SW1836
      show own_Go p e below _ T1833 (mkF m 189 #[.val (.int i0), .val (.int i1), .val (.int i2), .val (.int i3), .val (.int i4), .val (.int (1 : Int32)), .val (.int (0 : Int32)), .val (.int y1607), .val (.int y1616), .val (.int (i2 &&& (255 : Int32))), .val (.int (i3 &&& (255 : Int32))), .val (.ref a1628), .val (.ref a1644), .val (.ref a1667), .val (.ref a1676), .val (.ref a1693), .val (.ref a1717), .val (.ref a1758), .unset, .unset] [(.ref a1807)])
      refine own_lift CW SW1836 ?_
      intro vm1838 C S1839 rb1840
      refine own_seg C S1839 [(189, .astore 18, 2), (191, .aload 18, 2), (193, .aload 17, 2)] (by decide +kernel) 195 #[.val (.int i0), .val (.int i1), .val (.int i2), .val (.int i3), .val (.int i4), .val (.int (1 : Int32)), .val (.int (0 : Int32)), .val (.int y1607), .val (.int y1616), .val (.int (i2 &&& (255 : Int32))), .val (.int (i3 &&& (255 : Int32))), .val (.ref a1628), .val (.ref a1644), .val (.ref a1667), .val (.ref a1676), .val (.ref a1693), .val (.ref a1717), .val (.ref a1758), .val (.ref a1807), .unset] [(.ref a1758), (.ref a1807)] rfl ?_
      have f1841 : Old Z n0 h1834 := (f1813.keep K1824 (allS g1823 all0))
      have f1842 : Exa Z h1834 a1717 "java/lang/String" := (f1814.keep K1824)
      have f1843 : a1717 < h1795.size := (Nat.lt_of_lt_of_le f1766 K1784.1)
      have n1844 : a1717 ≠ a1807 := by rw [g1808]; exact Nat.ne_of_lt f1843
      have f1845 : Fld Z h1834 a1717 "java/lang/String" "value" "[B" (.ref t1739) := (f1817.keep K1824 (ninS n1844 nin0))
      have f1846 : Fld Z h1834 a1717 "java/lang/String" "coder" "B" (.int 0) := (f1818.keep K1824 (ninS n1844 nin0))
      have f1847 : t1739 < h1795.size := (Nat.lt_of_lt_of_le f1765 K1784.1)
      have n1848 : t1739 ≠ a1807 := by rw [g1808]; exact Nat.ne_of_lt f1847
      have f1849 : Arv Z h1834 t1739 k1740 .byte (1 : Int32) ([(.int y1607.toInt8.toInt32)]) (.int 0) := (f1820.keep K1824 (ninS n1848 nin0))
      have f1850 : Exa Z h1834 a1758 "java/lang/String" := ((Exa.ext E1809 f1785).keep K1824)
      have f1851 : a1758 < h1795.size := (Nat.lt_of_lt_of_le x1761.lt K1784.1)
      have n1852 : a1758 ≠ a1807 := by rw [g1808]; exact Nat.ne_of_lt f1851
      have f1853 : Fld Z h1834 a1758 "java/lang/String" "value" "[B" (.ref a1782) := ((Fld.ext E1809 f1787).keep K1824 (ninS n1852 nin0))
      have f1854 : Fld Z h1834 a1758 "java/lang/String" "coder" "B" (.int (0 : Int32)) := ((Fld.ext E1809 f1786).keep K1824 (ninS n1852 nin0))
      have n1855 : a1782 ≠ a1807 := by rw [g1808]; exact Nat.ne_of_lt f1788.lt
      have f1856 : Arv Z h1834 a1782 k1783 .byte (0 : Int32) ([]) (.int 0) := ((f1788.ext E1809).keep K1824 (ninS n1855 nin0))
      have f1857 : n0 ≤ h1834.size := (Nat.le_trans f1821 K1824.1)
      have SW1873 : own_SW p l e room_1 s m #[(.int i0), (.int i1), (.int i2), (.int i3), (.int i4)] below meth c n0 Z own_EL "com/example/nearfar_cache/nearfarcache/redis/RedisKeysOfPinLaw" T1833 h1834 [a1807, a1628, a1644, a1667, a1676, a1693, a1717, t1739, a1758] 17 76 := rb1840 _ _ _ _ [] [] S1839 (Keep.refl _ _) all0 all0
      refine own_callSW CW SW1873 (own_wd hw 113 rfl) (own_wd hw 114 rfl) (own_wd hw 115 rfl) (own_wd hw 116 rfl) (by decide) (own_of10 l Z a0 hw hEL wS G1 G3 a1807 a1717 t1739 k1740 y1607 a1758 a1782 k1783 h1834 n0 f1857 f1841 f1825 f1826 f1842 f1845 f1846 f1849 f1850 f1853 f1854 f1856 O2 O4 P5 rG3 p1609.1) all0 0 (by decide) (by decide) [(.ref a1807), (.ref a1758)] [] rfl own_pd28 rfl rfl rfl (Nat.le_of_ble_eq_true rfl) (by decide) (by decide) (by decide +kernel) ?_
      rintro T1874 h1875 v1876 SW1877 hg1878 ⟨a1858, a1859, k1860, rfl, g1861, g1862, K1863, f1864, f1865, f1866, f1867⟩
      replace SW1877 : own_SW p l e room_1 s m #[(.int i0), (.int i1), (.int i2), (.int i3), (.int i4)] below meth c n0 Z own_EL "com/example/nearfar_cache/nearfarcache/redis/RedisKeysOfPinLaw" T1874 h1875 [a1807, a1628, a1644, a1667, a1676, a1693, a1717, t1739, a1758] 25 220 := SW1877
      show own_Go p e below _ T1874 (mkF m 198 #[.val (.int i0), .val (.int i1), .val (.int i2), .val (.int i3), .val (.int i4), .val (.int (1 : Int32)), .val (.int (0 : Int32)), .val (.int y1607), .val (.int y1616), .val (.int (i2 &&& (255 : Int32))), .val (.int (i3 &&& (255 : Int32))), .val (.ref a1628), .val (.ref a1644), .val (.ref a1667), .val (.ref a1676), .val (.ref a1693), .val (.ref a1717), .val (.ref a1758), .val (.ref a1807), .unset] [(.ref a1858)])
      have hp1879 : ∀ c ∈ ([y1607, (58 : Int32)] : List Int32), ¬ c < 0 ∧ ¬ (255 : Int32) < c := by
        intro c hc; simp only [List.mem_cons, List.not_mem_nil, or_false] at hc
        rcases hc with rfl | rfl
        · exact p1609.1
        · exact (by decide)
      have hcd1880 : StrChars.Road.CodA ([y1607, (58 : Int32)] : List Int32) 0 (2 : Int32) [(.int y1607.toInt8.toInt32), (.int (58 : Int32))] := StrChars.Road.codOf (cs := ([y1607, (58 : Int32)] : List Int32)) (n := 2) rfl (fun c hc => (hp1879 c hc).2)
      refine own_lift CW SW1877 ?_
      intro vm1881 C S1882 rb1883
      refine own_seg C S1882 [(198, .astore 19, 2), (200, .aload 19, 2)] (by decide +kernel) 202 #[.val (.int i0), .val (.int i1), .val (.int i2), .val (.int i3), .val (.int i4), .val (.int (1 : Int32)), .val (.int (0 : Int32)), .val (.int y1607), .val (.int y1616), .val (.int (i2 &&& (255 : Int32))), .val (.int (i3 &&& (255 : Int32))), .val (.ref a1628), .val (.ref a1644), .val (.ref a1667), .val (.ref a1676), .val (.ref a1693), .val (.ref a1717), .val (.ref a1758), .val (.ref a1807), .val (.ref a1858)] [(.ref a1858)] rfl ?_
      have f1884 : Old Z n0 h1875 := (f1841.keep K1863 all0)
      refine own_callV C S1882 (own_wd hw 236 rfl) (own_wd hw 75 rfl) (own_wd hw 77 rfl) (y' := ⟨"java/lang/String", "length", "()I"⟩) rfl (own_wd hw 77 rfl) (own_wd hw 76 rfl) (by decide) (Q := (fun v h' L => v = some (.int (Int32.ofNat (([y1607, (58 : Int32)] : List Int32)).length)) ∧ L = [] ∧ h' = h1875)) (StrChars.Road.lenW (W := 0) C.2.2.2.2.2.2.2 (fun d hd => hw d (own_hln d hd)) (kI := 4) (own_wd hw 6 rfl) f1864 f1866 f1865 f1867 hcd1880 (own_up _ hp1879) (O2.ext f1884.2) P5 (Nat.le_of_ble_eq_true rfl) (by decide) (by decide)) (fun _ _ L q => by rw [q.2.1]; exact Fr.nil _) f1864 [] [] rfl own_pd4 rfl rfl rfl (Nat.le_of_ble_eq_true rfl) (by decide) (by decide) (by decide +kernel) ?_
      rintro T1886 h1887 v1888 L1889 S1890 ⟨rfl, -, e1885⟩
      replace S1890 : own_S p l e room_1 (s.setVm vm1881) m #[(.int i0), (.int i1), (.int i2), (.int i3), (.int i4)] below meth c n0 T1886 h1887 25 220 := S1890
      rw [e1885] at S1890; clear e1885
      show own_Go p e below _ T1886 (mkF m 205 #[.val (.int i0), .val (.int i1), .val (.int i2), .val (.int i3), .val (.int i4), .val (.int (1 : Int32)), .val (.int (0 : Int32)), .val (.int y1607), .val (.int y1616), .val (.int (i2 &&& (255 : Int32))), .val (.int (i3 &&& (255 : Int32))), .val (.ref a1628), .val (.ref a1644), .val (.ref a1667), .val (.ref a1676), .val (.ref a1693), .val (.ref a1717), .val (.ref a1758), .val (.ref a1807), .val (.ref a1858)] [(.int (2 : Int32))])
      refine own_seg C S1890 [(205, .iload 5, 2), (207, .iconst 1, 1), (208, .iadd, 1), (209, .iload 6, 2), (211, .iadd, 1)] (by decide +kernel) 212 #[.val (.int i0), .val (.int i1), .val (.int i2), .val (.int i3), .val (.int i4), .val (.int (1 : Int32)), .val (.int (0 : Int32)), .val (.int y1607), .val (.int y1616), .val (.int (i2 &&& (255 : Int32))), .val (.int (i3 &&& (255 : Int32))), .val (.ref a1628), .val (.ref a1644), .val (.ref a1667), .val (.ref a1676), .val (.ref a1693), .val (.ref a1717), .val (.ref a1758), .val (.ref a1807), .val (.ref a1858)] [(.int (((1 : Int32) + (1 : Int32)) + (0 : Int32))), (.int (2 : Int32))] rfl ?_
      refine own_icmp C S1890 (q := .eq) (o := 5) (by decide +kernel) 217 (by decide) (by decide) (fun (q1891 : (2 : Int32) = (((1 : Int32) + (1 : Int32)) + (0 : Int32))) => ?_) (fun (hq : ¬ (2 : Int32) = (((1 : Int32) + (1 : Int32)) + (0 : Int32))) => False.elim (by revert hq; decide))
      refine own_seg C S1890 [(217, .aload 19, 2), (219, .iconst 0, 1)] (by decide +kernel) 220 #[.val (.int i0), .val (.int i1), .val (.int i2), .val (.int i3), .val (.int i4), .val (.int (1 : Int32)), .val (.int (0 : Int32)), .val (.int y1607), .val (.int y1616), .val (.int (i2 &&& (255 : Int32))), .val (.int (i3 &&& (255 : Int32))), .val (.ref a1628), .val (.ref a1644), .val (.ref a1667), .val (.ref a1676), .val (.ref a1693), .val (.ref a1717), .val (.ref a1758), .val (.ref a1807), .val (.ref a1858)] [(.int (0 : Int32)), (.ref a1858)] rfl ?_
      refine own_callV C S1890 (own_wd hw 237 rfl) (own_wd hw 238 rfl) (own_wd hw 240 rfl) (y' := ⟨"java/lang/String", "charAt", "(I)C"⟩) rfl (own_wd hw 240 rfl) (own_wd hw 239 rfl) (by decide) (Q := (fun v h' L => v = some (.int ((([y1607, (58 : Int32)] : List Int32)).getD 0 0)) ∧ L = [] ∧ h' = h1875)) (StrChars.Road.chN (W := 0) C.2.2.2.2.2.2.2 (fun d hd => hw d (own_hch d hd)) (kI := 4) (own_wd hw 6 rfl) f1864 f1866 f1865 f1867 hcd1880 (own_up _ hp1879) (O2.ext f1884.2) P5 (O4.ext f1884.2) rG3 (Nat.le_of_ble_eq_true rfl) (i := 0) (Nat.le_of_ble_eq_true rfl) rfl (by decide) (by decide)) (fun _ _ L q => by rw [q.2.1]; exact Fr.nil _) f1864 [(.int (0 : Int32))] [] rfl own_pd26 rfl rfl rfl (Nat.le_of_ble_eq_true rfl) (by decide) (by decide) (by decide +kernel) ?_
      rintro T1893 h1894 v1895 L1896 S1897 ⟨rfl, -, e1892⟩
      replace S1897 : own_S p l e room_1 (s.setVm vm1881) m #[(.int i0), (.int i1), (.int i2), (.int i3), (.int i4)] below meth c n0 T1893 h1894 25 220 := S1897
      rw [e1892] at S1897; clear e1892
      show own_Go p e below _ T1893 (mkF m 223 #[.val (.int i0), .val (.int i1), .val (.int i2), .val (.int i3), .val (.int i4), .val (.int (1 : Int32)), .val (.int (0 : Int32)), .val (.int y1607), .val (.int y1616), .val (.int (i2 &&& (255 : Int32))), .val (.int (i3 &&& (255 : Int32))), .val (.ref a1628), .val (.ref a1644), .val (.ref a1667), .val (.ref a1676), .val (.ref a1693), .val (.ref a1717), .val (.ref a1758), .val (.ref a1807), .val (.ref a1858)] [(.int y1607)])
      refine own_seg C S1897 [(223, .iload 7, 2)] (by decide +kernel) 225 #[.val (.int i0), .val (.int i1), .val (.int i2), .val (.int i3), .val (.int i4), .val (.int (1 : Int32)), .val (.int (0 : Int32)), .val (.int y1607), .val (.int y1616), .val (.int (i2 &&& (255 : Int32))), .val (.int (i3 &&& (255 : Int32))), .val (.ref a1628), .val (.ref a1644), .val (.ref a1667), .val (.ref a1676), .val (.ref a1693), .val (.ref a1717), .val (.ref a1758), .val (.ref a1807), .val (.ref a1858)] [(.int y1607), (.int y1607)] rfl ?_
      refine own_icmp C S1897 (q := .eq) (o := 5) (by decide +kernel) 230 (by decide) (by decide) (fun (q1898 : y1607 = y1607) => ?_) (fun (hq : ¬ y1607 = y1607) => False.elim (hq rfl))
      refine own_seg C S1897 [(230, .iload 5, 2), (232, .iconst 2, 1)] (by decide +kernel) 233 #[.val (.int i0), .val (.int i1), .val (.int i2), .val (.int i3), .val (.int i4), .val (.int (1 : Int32)), .val (.int (0 : Int32)), .val (.int y1607), .val (.int y1616), .val (.int (i2 &&& (255 : Int32))), .val (.int (i3 &&& (255 : Int32))), .val (.ref a1628), .val (.ref a1644), .val (.ref a1667), .val (.ref a1676), .val (.ref a1693), .val (.ref a1717), .val (.ref a1758), .val (.ref a1807), .val (.ref a1858)] [(.int (2 : Int32)), (.int (1 : Int32))] rfl ?_
      refine own_icmp C S1897 (q := .ne) (o := 16) (by decide +kernel) 249 (by decide) (by decide) (fun (q1899 : ¬ (1 : Int32) = (2 : Int32)) => ?_) (fun (hq : (1 : Int32) = (2 : Int32)) => False.elim (by revert hq; decide))
      refine own_seg C S1897 [(249, .aload 19, 2), (251, .iload 5, 2)] (by decide +kernel) 253 #[.val (.int i0), .val (.int i1), .val (.int i2), .val (.int i3), .val (.int i4), .val (.int (1 : Int32)), .val (.int (0 : Int32)), .val (.int y1607), .val (.int y1616), .val (.int (i2 &&& (255 : Int32))), .val (.int (i3 &&& (255 : Int32))), .val (.ref a1628), .val (.ref a1644), .val (.ref a1667), .val (.ref a1676), .val (.ref a1693), .val (.ref a1717), .val (.ref a1758), .val (.ref a1807), .val (.ref a1858)] [(.int (1 : Int32)), (.ref a1858)] rfl ?_
      refine own_callV C S1897 (own_wd hw 237 rfl) (own_wd hw 238 rfl) (own_wd hw 240 rfl) (y' := ⟨"java/lang/String", "charAt", "(I)C"⟩) rfl (own_wd hw 240 rfl) (own_wd hw 239 rfl) (by decide) (Q := (fun v h' L => v = some (.int ((([y1607, (58 : Int32)] : List Int32)).getD 1 0)) ∧ L = [] ∧ h' = h1875)) (StrChars.Road.chN (W := 0) C.2.2.2.2.2.2.2 (fun d hd => hw d (own_hch d hd)) (kI := 4) (own_wd hw 6 rfl) f1864 f1866 f1865 f1867 hcd1880 (own_up _ hp1879) (O2.ext f1884.2) P5 (O4.ext f1884.2) rG3 (Nat.le_of_ble_eq_true rfl) (i := 1) (Nat.le_of_ble_eq_true rfl) rfl (by decide) (by decide)) (fun _ _ L q => by rw [q.2.1]; exact Fr.nil _) f1864 [(.int (1 : Int32))] [] rfl own_pd26 rfl rfl rfl (Nat.le_of_ble_eq_true rfl) (by decide) (by decide) (by decide +kernel) ?_
      rintro T1901 h1902 v1903 L1904 S1905 ⟨rfl, -, e1900⟩
      replace S1905 : own_S p l e room_1 (s.setVm vm1881) m #[(.int i0), (.int i1), (.int i2), (.int i3), (.int i4)] below meth c n0 T1901 h1902 25 220 := S1905
      rw [e1900] at S1905; clear e1900
      show own_Go p e below _ T1901 (mkF m 256 #[.val (.int i0), .val (.int i1), .val (.int i2), .val (.int i3), .val (.int i4), .val (.int (1 : Int32)), .val (.int (0 : Int32)), .val (.int y1607), .val (.int y1616), .val (.int (i2 &&& (255 : Int32))), .val (.int (i3 &&& (255 : Int32))), .val (.ref a1628), .val (.ref a1644), .val (.ref a1667), .val (.ref a1676), .val (.ref a1693), .val (.ref a1717), .val (.ref a1758), .val (.ref a1807), .val (.ref a1858)] [(.int (58 : Int32))])
      refine own_seg C S1905 [(256, .bipush 58, 2)] (by decide +kernel) 258 #[.val (.int i0), .val (.int i1), .val (.int i2), .val (.int i3), .val (.int i4), .val (.int (1 : Int32)), .val (.int (0 : Int32)), .val (.int y1607), .val (.int y1616), .val (.int (i2 &&& (255 : Int32))), .val (.int (i3 &&& (255 : Int32))), .val (.ref a1628), .val (.ref a1644), .val (.ref a1667), .val (.ref a1676), .val (.ref a1693), .val (.ref a1717), .val (.ref a1758), .val (.ref a1807), .val (.ref a1858)] [(.int (58 : Int32)), (.int (58 : Int32))] rfl ?_
      refine own_icmp C S1905 (q := .eq) (o := 5) (by decide +kernel) 263 (by decide) (by decide) (fun (q1906 : (58 : Int32) = (58 : Int32)) => ?_) (fun (hq : ¬ (58 : Int32) = (58 : Int32)) => False.elim (by revert hq; decide))
      refine own_seg C S1905 [(263, .iload 6, 2), (265, .iconst 1, 1)] (by decide +kernel) 266 #[.val (.int i0), .val (.int i1), .val (.int i2), .val (.int i3), .val (.int i4), .val (.int (1 : Int32)), .val (.int (0 : Int32)), .val (.int y1607), .val (.int y1616), .val (.int (i2 &&& (255 : Int32))), .val (.int (i3 &&& (255 : Int32))), .val (.ref a1628), .val (.ref a1644), .val (.ref a1667), .val (.ref a1676), .val (.ref a1693), .val (.ref a1717), .val (.ref a1758), .val (.ref a1807), .val (.ref a1858)] [(.int (1 : Int32)), (.int (0 : Int32))] rfl ?_
      refine own_icmp C S1905 (q := .lt) (o := 19) (by decide +kernel) 285 (by decide) (by decide) (fun (q1907 : (0 : Int32) < (1 : Int32)) => ?_) (fun (hq : ¬ (0 : Int32) < (1 : Int32)) => False.elim (by revert hq; decide))
      refine own_seg C S1905 [(285, .iload 6, 2), (287, .iconst 2, 1)] (by decide +kernel) 288 #[.val (.int i0), .val (.int i1), .val (.int i2), .val (.int i3), .val (.int i4), .val (.int (1 : Int32)), .val (.int (0 : Int32)), .val (.int y1607), .val (.int y1616), .val (.int (i2 &&& (255 : Int32))), .val (.int (i3 &&& (255 : Int32))), .val (.ref a1628), .val (.ref a1644), .val (.ref a1667), .val (.ref a1676), .val (.ref a1693), .val (.ref a1717), .val (.ref a1758), .val (.ref a1807), .val (.ref a1858)] [(.int (2 : Int32)), (.int (0 : Int32))] rfl ?_
      refine own_icmp C S1905 (q := .ne) (o := 19) (by decide +kernel) 307 (by decide) (by decide) (fun (q1908 : ¬ (0 : Int32) = (2 : Int32)) => ?_) (fun (hq : (0 : Int32) = (2 : Int32)) => False.elim (by revert hq; decide))
      refine own_seg C S1905 [(307, .iconst 1, 1)] (by decide +kernel) 308 #[.val (.int i0), .val (.int i1), .val (.int i2), .val (.int i3), .val (.int i4), .val (.int (1 : Int32)), .val (.int (0 : Int32)), .val (.int y1607), .val (.int y1616), .val (.int (i2 &&& (255 : Int32))), .val (.int (i3 &&& (255 : Int32))), .val (.ref a1628), .val (.ref a1644), .val (.ref a1667), .val (.ref a1676), .val (.ref a1693), .val (.ref a1717), .val (.ref a1758), .val (.ref a1807), .val (.ref a1858)] [(.int (1 : Int32))] rfl ?_
      have SW1909 : own_SW p l e room_1 s m #[(.int i0), (.int i1), (.int i2), (.int i3), (.int i4)] below meth c n0 Z own_EL "com/example/nearfar_cache/nearfarcache/redis/RedisKeysOfPinLaw" T1901 h1875 [a1807, a1628, a1644, a1667, a1676, a1693, a1717, t1739, a1758] 25 220 := rb1883 _ _ _ _ [] [] S1905 (Keep.refl _ _) all0 all0
      refine own_retZW CW SW1909 (by decide +kernel) (by decide) (by decide) (by decide) ?_
      rfl
    · rw [show ((Jvm.Free.XT.ushr i4 (1 : Int32)) % (3 : Int32)) = (1 : Int32) from qk]
      refine own_seg C S1708 [(99, .iload 5, 2), (101, .iconst 1, 1)] (by decide +kernel) 102 #[.val (.int i0), .val (.int i1), .val (.int i2), .val (.int i3), .val (.int i4), .val (.int (1 : Int32)), .val (.int (1 : Int32)), .val (.int y1607), .val (.int y1616), .val (.int (i2 &&& (255 : Int32))), .val (.int (i3 &&& (255 : Int32))), .val (.ref a1628), .val (.ref a1644), .val (.ref a1667), .val (.ref a1676), .val (.ref a1693), .unset, .unset, .unset, .unset] [(.int (1 : Int32)), (.int (1 : Int32))] rfl ?_
      refine own_icmp C S1708 (q := .ne) (o := 17) (by decide +kernel) 119 (by decide) (by decide) (fun (hq : ¬ (1 : Int32) = (1 : Int32)) => False.elim (by revert hq; decide)) (fun (q1910 : (1 : Int32) = (1 : Int32)) => ?_)
      refine own_new C S1708 (own_wd hw 5 rfl) (own_wd hw 6 rfl) (own_wd hw 7 rfl) (by decide +kernel) (by decide) (by decide) ?_
      intro T1911 h1913 a1914 S1912 g1915 E1916 x1917 D1918
      have f1919 : Fld Z h1913 a1914 "java/lang/String" "coder" "B" (.int (0 : Int32)) := D1918 (ty := .byte) (Or.inr (own_wd hw 31 rfl)) own_fd1
      have f1920 : Fld Z h1913 a1914 "java/lang/String" "value" "[B" .null := D1918 (ty := (.array .byte)) (Or.inr (own_wd hw 33 rfl)) own_fd0
      refine own_seg C S1912 [(108, .dup, 1), (109, .aload 11, 2)] (by decide +kernel) 111 #[.val (.int i0), .val (.int i1), .val (.int i2), .val (.int i3), .val (.int i4), .val (.int (1 : Int32)), .val (.int (1 : Int32)), .val (.int y1607), .val (.int y1616), .val (.int (i2 &&& (255 : Int32))), .val (.int (i3 &&& (255 : Int32))), .val (.ref a1628), .val (.ref a1644), .val (.ref a1667), .val (.ref a1676), .val (.ref a1693), .unset, .unset, .unset, .unset] [(.ref a1628), (.ref a1914), (.ref a1914)] rfl ?_
      have hp1921 : ∀ c ∈ ([y1607] : List Int32), ¬ c < 0 ∧ ¬ (255 : Int32) < c := by
        intro c hc; simp only [List.mem_cons, List.not_mem_nil, or_false] at hc
        rcases hc with rfl
        · exact p1609.1
      have f1922 : n0 ≤ h1913.size := (Nat.le_trans (by rw [W1710.size]; exact (by rw [W1704.size]; exact (Nat.le_trans f1699 E1696.1))) E1916.1)
      have f1923 : n0 ≤ h1709.size := (by rw [W1710.size]; exact (by rw [W1704.size]; exact (Nat.le_trans f1699 E1696.1)))
      have g1924 : n0 ≤ a1914 := by rw [g1915]; exact f1923
      have f1925 : a1628 < h1637.size := (by rw [W1638.size]; exact f1633.lt)
      have n1926 : a1628 ≠ a1644 := by rw [g1646]; exact Nat.ne_of_lt f1925
      have f1927 : a1628 < h1666.size := (Nat.lt_of_lt_of_le (by rw [W1661.size]; exact (by rw [W1655.size]; exact (Nat.lt_of_lt_of_le f1925 E1647.1))) E1670.1)
      have n1928 : a1628 ≠ a1676 := by rw [g1678]; exact Nat.ne_of_lt f1927
      have f1929 : a1628 < h1686.size := (by rw [W1687.size]; exact (Nat.lt_of_lt_of_le f1927 E1679.1))
      have n1930 : a1628 ≠ a1693 := by rw [g1695]; exact Nat.ne_of_lt f1929
      have f1931 : Arv Z h1913 a1628 k1629 .char (1 : Int32) ([(.int y1607)]) (.int (0 : Int32)) := ((((((((((f1640.ext E1647).other W1655 n1926).other W1661 n1926).ext E1670).ext E1679).other W1687 n1928).ext E1696).other W1704 n1930).other W1710 n1930).ext E1916)
      have f1932 : Old Z n0 h1913 := ((((((((((((X00.ext E1631).wr W1638 g1634).ext E1647).wr W1655 g1651).wr W1661 g1651).ext E1670).ext E1679).wr W1687 g1683).ext E1696).wr W1704 g1700).wr W1710 g1700).ext E1916)
      refine own_callI C S1912 rfl (own_wd hw 8 rfl) (own_wd hw 9 rfl) (own_wd hw 10 rfl) (by decide) (StrChars.Road.backV (W := 1) C.2.2.2.2.2.2.2 (fun d hd => hw d (own_hws d hd)) (kI := 4) (own_wd hw 6 rfl) (cs := ([y1607] : List Int32)) (bs := (([y1607] : List Int32)).map (fun c => c.toInt8.toInt32)) (n := 1) g1924 f1922 x1917 f1920 f1919 f1931 (O2.ext f1932.2) P5 rfl rfl (by decide) (by decide) hp1921 rfl (by decide) (by decide)) (fun _ _ _ q => q.2.1) [(.ref a1628)] [(.ref a1914)] rfl own_pd27 rfl rfl rfl (Nat.le_of_ble_eq_true rfl) (by decide) (by decide) (by decide +kernel) ?_
      rintro T1943 h1944 v1945 L1946 S1947 ⟨rfl, -, K1933, x1934, f1935, t1936, k1937, g1938, g1939, g1940, f1941, f1942⟩
      replace S1947 : own_S p l e room_1 (s.setVm vm1604) m #[(.int i0), (.int i1), (.int i2), (.int i3), (.int i4)] below meth c n0 T1943 h1944 7 11 := S1947
      have f1948 : Arv Z h1944 t1936 k1937 .byte (1 : Int32) ([(.int y1607.toInt8.toInt32)]) (.int 0) := f1942
      have hcd1949 : StrChars.Road.CodA ([y1607] : List Int32) 0 (1 : Int32) [(.int y1607.toInt8.toInt32)] := StrChars.Road.codOf (cs := ([y1607] : List Int32)) (n := 1) rfl (fun c hc => (hp1921 c hc).2)
      show own_Go p e below _ T1943 (mkF m 114 #[.val (.int i0), .val (.int i1), .val (.int i2), .val (.int i3), .val (.int i4), .val (.int (1 : Int32)), .val (.int (1 : Int32)), .val (.int y1607), .val (.int y1616), .val (.int (i2 &&& (255 : Int32))), .val (.int (i3 &&& (255 : Int32))), .val (.ref a1628), .val (.ref a1644), .val (.ref a1667), .val (.ref a1676), .val (.ref a1693), .unset, .unset, .unset, .unset] [(.ref a1914)])
      refine own_seg C S1947 [(114, .astore 16, 2), (116, .goto 14, 3), (130, .iload 6, 2)] (by decide +kernel) 132 #[.val (.int i0), .val (.int i1), .val (.int i2), .val (.int i3), .val (.int i4), .val (.int (1 : Int32)), .val (.int (1 : Int32)), .val (.int y1607), .val (.int y1616), .val (.int (i2 &&& (255 : Int32))), .val (.int (i3 &&& (255 : Int32))), .val (.ref a1628), .val (.ref a1644), .val (.ref a1667), .val (.ref a1676), .val (.ref a1693), .val (.ref a1914), .unset, .unset, .unset] [(.int (1 : Int32))] rfl ?_
      refine own_if C S1947 (q := .ne) (o := 17) (by decide +kernel) 149 (by decide) (by decide) (fun (q1950 : ¬ (1 : Int32) = (0 : Int32)) => ?_) (fun (hq : (1 : Int32) = (0 : Int32)) => False.elim (by revert hq; decide))
      refine own_seg C S1947 [(149, .iload 6, 2), (151, .iconst 1, 1)] (by decide +kernel) 152 #[.val (.int i0), .val (.int i1), .val (.int i2), .val (.int i3), .val (.int i4), .val (.int (1 : Int32)), .val (.int (1 : Int32)), .val (.int y1607), .val (.int y1616), .val (.int (i2 &&& (255 : Int32))), .val (.int (i3 &&& (255 : Int32))), .val (.ref a1628), .val (.ref a1644), .val (.ref a1667), .val (.ref a1676), .val (.ref a1693), .val (.ref a1914), .unset, .unset, .unset] [(.int (1 : Int32)), (.int (1 : Int32))] rfl ?_
      refine own_icmp C S1947 (q := .ne) (o := 17) (by decide +kernel) 169 (by decide) (by decide) (fun (hq : ¬ (1 : Int32) = (1 : Int32)) => False.elim (by revert hq; decide)) (fun (q1951 : (1 : Int32) = (1 : Int32)) => ?_)
      have hne1952 : ∀ c ∈ ([y1607] : List Int32), ¬ c = (58 : Int32) := by
        intro c hc; simp only [List.mem_cons, List.not_mem_nil, or_false] at hc
        rcases hc with rfl
        · exact p1610
      refine own_new C S1947 (own_wd hw 5 rfl) (own_wd hw 6 rfl) (own_wd hw 7 rfl) (by decide +kernel) (by decide) (by decide) ?_
      intro T1953 h1955 a1956 S1954 g1957 E1958 x1959 D1960
      have f1961 : Fld Z h1955 a1956 "java/lang/String" "coder" "B" (.int (0 : Int32)) := D1960 (ty := .byte) (Or.inr (own_wd hw 31 rfl)) own_fd1
      have f1962 : Fld Z h1955 a1956 "java/lang/String" "value" "[B" .null := D1960 (ty := (.array .byte)) (Or.inr (own_wd hw 33 rfl)) own_fd0
      refine own_seg C S1954 [(158, .dup, 1), (159, .aload 14, 2)] (by decide +kernel) 161 #[.val (.int i0), .val (.int i1), .val (.int i2), .val (.int i3), .val (.int i4), .val (.int (1 : Int32)), .val (.int (1 : Int32)), .val (.int y1607), .val (.int y1616), .val (.int (i2 &&& (255 : Int32))), .val (.int (i3 &&& (255 : Int32))), .val (.ref a1628), .val (.ref a1644), .val (.ref a1667), .val (.ref a1676), .val (.ref a1693), .val (.ref a1914), .unset, .unset, .unset] [(.ref a1676), (.ref a1956), (.ref a1956)] rfl ?_
      have hp1963 : ∀ c ∈ ([(i2 &&& (255 : Int32))] : List Int32), ¬ c < 0 ∧ ¬ (255 : Int32) < c := by
        intro c hc; simp only [List.mem_cons, List.not_mem_nil, or_false] at hc
        rcases hc with rfl
        · exact (own_Ch.of i2).1
      have f1964 : n0 ≤ h1955.size := (Nat.le_trans (Nat.le_trans f1922 K1933.1) E1958.1)
      have f1965 : n0 ≤ h1944.size := (Nat.le_trans f1922 K1933.1)
      have g1966 : n0 ≤ a1956 := by rw [g1957]; exact f1965
      have f1967 : a1676 < h1686.size := (by rw [W1687.size]; exact f1681.lt)
      have n1968 : a1676 ≠ a1693 := by rw [g1695]; exact Nat.ne_of_lt f1967
      have f1969 : a1676 < h1709.size := (by rw [W1710.size]; exact (by rw [W1704.size]; exact (Nat.lt_of_lt_of_le f1967 E1696.1)))
      have n1970 : a1676 ≠ a1914 := by rw [g1915]; exact Nat.ne_of_lt f1969
      have f1971 : Arv Z h1955 a1676 k1677 .char (1 : Int32) ([(.int (i2 &&& (255 : Int32)))]) (.int (0 : Int32)) := ((((((f1689.ext E1696).other W1704 n1968).other W1710 n1968).ext E1916).keep K1933 (ninS n1970 nin0)).ext E1958)
      have f1972 : Old Z n0 h1955 := ((f1932.keep K1933 (allS g1924 all0)).ext E1958)
      refine own_callI C S1954 rfl (own_wd hw 8 rfl) (own_wd hw 9 rfl) (own_wd hw 10 rfl) (by decide) (StrChars.Road.backV (W := 1) C.2.2.2.2.2.2.2 (fun d hd => hw d (own_hws d hd)) (kI := 4) (own_wd hw 6 rfl) (cs := ([(i2 &&& (255 : Int32))] : List Int32)) (bs := (([(i2 &&& (255 : Int32))] : List Int32)).map (fun c => c.toInt8.toInt32)) (n := 1) g1966 f1964 x1959 f1962 f1961 f1971 (O2.ext f1972.2) P5 rfl rfl (by decide) (by decide) hp1963 rfl (by decide) (by decide)) (fun _ _ _ q => q.2.1) [(.ref a1676)] [(.ref a1956)] rfl own_pd27 rfl rfl rfl (Nat.le_of_ble_eq_true rfl) (by decide) (by decide) (by decide +kernel) ?_
      rintro T1983 h1984 v1985 L1986 S1987 ⟨rfl, -, K1973, x1974, f1975, t1976, k1977, g1978, g1979, g1980, f1981, f1982⟩
      replace S1987 : own_S p l e room_1 (s.setVm vm1604) m #[(.int i0), (.int i1), (.int i2), (.int i3), (.int i4)] below meth c n0 T1983 h1984 9 16 := S1987
      have f1988 : Arv Z h1984 t1976 k1977 .byte (1 : Int32) ([(.int ((i2 &&& (255 : Int32)).toInt8.toInt32))]) (.int 0) := f1982
      have hcd1989 : StrChars.Road.CodA ([(i2 &&& (255 : Int32))] : List Int32) 0 (1 : Int32) [(.int ((i2 &&& (255 : Int32)).toInt8.toInt32))] := StrChars.Road.codOf (cs := ([(i2 &&& (255 : Int32))] : List Int32)) (n := 1) rfl (fun c hc => (hp1963 c hc).2)
      show own_Go p e below _ T1983 (mkF m 164 #[.val (.int i0), .val (.int i1), .val (.int i2), .val (.int i3), .val (.int i4), .val (.int (1 : Int32)), .val (.int (1 : Int32)), .val (.int y1607), .val (.int y1616), .val (.int (i2 &&& (255 : Int32))), .val (.int (i3 &&& (255 : Int32))), .val (.ref a1628), .val (.ref a1644), .val (.ref a1667), .val (.ref a1676), .val (.ref a1693), .val (.ref a1914), .unset, .unset, .unset] [(.ref a1956)])
      refine own_seg C S1987 [(164, .astore 17, 2), (166, .goto 14, 3)] (by decide +kernel) 180 #[.val (.int i0), .val (.int i1), .val (.int i2), .val (.int i3), .val (.int i4), .val (.int (1 : Int32)), .val (.int (1 : Int32)), .val (.int y1607), .val (.int y1616), .val (.int (i2 &&& (255 : Int32))), .val (.int (i3 &&& (255 : Int32))), .val (.ref a1628), .val (.ref a1644), .val (.ref a1667), .val (.ref a1676), .val (.ref a1693), .val (.ref a1914), .val (.ref a1956), .unset, .unset] [] rfl ?_
      refine own_new C S1987 (own_wd hw 37 rfl) (own_wd hw 38 rfl) (own_wd hw 39 rfl) (by decide +kernel) (by decide) (by decide) ?_
      intro T1990 h1992 a1993 S1991 g1994 E1995 x1996 D1997
      have f1998 : Fld Z h1992 a1993 "com/example/nearfar_cache/nearfarcache/Namespace" "name" "Ljava/lang/String;" .null := D1997 (ty := (.object "java/lang/String")) (Or.inr (own_wd hw 112 rfl)) own_fd3
      refine own_seg C S1991 [(183, .dup, 1), (184, .aload 16, 2)] (by decide +kernel) 186 #[.val (.int i0), .val (.int i1), .val (.int i2), .val (.int i3), .val (.int i4), .val (.int (1 : Int32)), .val (.int (1 : Int32)), .val (.int y1607), .val (.int y1616), .val (.int (i2 &&& (255 : Int32))), .val (.int (i3 &&& (255 : Int32))), .val (.ref a1628), .val (.ref a1644), .val (.ref a1667), .val (.ref a1676), .val (.ref a1693), .val (.ref a1914), .val (.ref a1956), .unset, .unset] [(.ref a1914), (.ref a1993), (.ref a1993)] rfl ?_
      have f1999 : Old Z n0 h1992 := ((f1972.keep K1973 (allS g1966 all0)).ext E1995)
      have f2000 : Exa Z h1992 a1914 "java/lang/String" := (Exa.ext E1995 ((Exa.ext E1958 x1934).keep K1973))
      have f2001 : a1914 < h1944.size := (Nat.lt_of_lt_of_le f1920.lt K1933.1)
      have n2002 : a1914 ≠ a1956 := by rw [g1957]; exact Nat.ne_of_lt f2001
      have f2003 : Fld Z h1992 a1914 "java/lang/String" "value" "[B" (.ref t1936) := (Fld.ext E1995 ((Fld.ext E1958 f1941).keep K1973 (ninS n2002 nin0)))
      have f2004 : Fld Z h1992 a1914 "java/lang/String" "coder" "B" (.int 0) := (Fld.ext E1995 ((Fld.ext E1958 f1935).keep K1973 (ninS n2002 nin0)))
      have n2005 : t1936 ≠ a1956 := by rw [g1957]; exact Nat.ne_of_lt f1948.lt
      have f2006 : Arv Z h1992 t1936 k1937 .byte (1 : Int32) ([(.int y1607.toInt8.toInt32)]) (.int 0) := (((f1948.ext E1958).keep K1973 (ninS n2005 nin0)).ext E1995)
      have f2007 : n0 ≤ h1992.size := (Nat.le_trans (Nat.le_trans f1964 K1973.1) E1995.1)
      have f2008 : n0 ≤ h1984.size := (Nat.le_trans f1964 K1973.1)
      have g2009 : n0 ≤ a1993 := by rw [g1994]; exact f2008
      have f2018 : t1976 < h1992.size := (Nat.lt_of_lt_of_le f1988.lt E1995.1)
      have f2019 : a1956 < h1992.size := (Nat.lt_of_lt_of_le (Nat.lt_of_lt_of_le f1962.lt K1973.1) E1995.1)
      have f2020 : t1936 < h1992.size := (Nat.lt_of_lt_of_le (Nat.lt_of_lt_of_le (Nat.lt_of_lt_of_le f1948.lt E1958.1) K1973.1) E1995.1)
      have f2021 : a1914 < h1992.size := (Nat.lt_of_lt_of_le (Nat.lt_of_lt_of_le (Nat.lt_of_lt_of_le f2001 E1958.1) K1973.1) E1995.1)
      have f2022 : a1693 < h1992.size := (Nat.lt_of_lt_of_le (Nat.lt_of_lt_of_le (Nat.lt_of_lt_of_le (Nat.lt_of_lt_of_le (Nat.lt_of_lt_of_le (by rw [W1710.size]; exact (by rw [W1704.size]; exact f1698.lt)) E1916.1) K1933.1) E1958.1) K1973.1) E1995.1)
      have f2023 : a1676 < h1992.size := (Nat.lt_of_lt_of_le (Nat.lt_of_lt_of_le (Nat.lt_of_lt_of_le (Nat.lt_of_lt_of_le (Nat.lt_of_lt_of_le f1969 E1916.1) K1933.1) E1958.1) K1973.1) E1995.1)
      have f2024 : a1667 < h1992.size := (Nat.lt_of_lt_of_le (Nat.lt_of_lt_of_le (Nat.lt_of_lt_of_le (Nat.lt_of_lt_of_le (Nat.lt_of_lt_of_le (by rw [W1710.size]; exact (by rw [W1704.size]; exact (Nat.lt_of_lt_of_le (by rw [W1687.size]; exact (Nat.lt_of_lt_of_le f1672.lt E1679.1)) E1696.1))) E1916.1) K1933.1) E1958.1) K1973.1) E1995.1)
      have f2025 : a1644 < h1992.size := (Nat.lt_of_lt_of_le (Nat.lt_of_lt_of_le (Nat.lt_of_lt_of_le (Nat.lt_of_lt_of_le (Nat.lt_of_lt_of_le (by rw [W1710.size]; exact (by rw [W1704.size]; exact (Nat.lt_of_lt_of_le (by rw [W1687.size]; exact (Nat.lt_of_lt_of_le (Nat.lt_of_lt_of_le (by rw [W1661.size]; exact (by rw [W1655.size]; exact f1649.lt)) E1670.1) E1679.1)) E1696.1))) E1916.1) K1933.1) E1958.1) K1973.1) E1995.1)
      have f2026 : a1628 < h1992.size := (Nat.lt_of_lt_of_le (Nat.lt_of_lt_of_le (Nat.lt_of_lt_of_le (Nat.lt_of_lt_of_le (Nat.lt_of_lt_of_le (by rw [W1710.size]; exact (by rw [W1704.size]; exact (Nat.lt_of_lt_of_le f1929 E1696.1))) E1916.1) K1933.1) E1958.1) K1973.1) E1995.1)
      have SW2027 : own_SW p l e room_1 s m #[(.int i0), (.int i1), (.int i2), (.int i3), (.int i4)] below meth c n0 Z own_EL "com/example/nearfar_cache/nearfarcache/redis/RedisKeysOfPinLaw" T1990 h1992 [a1628, a1644, a1667, a1676, a1693, a1914, t1936, a1956, t1976, a1993] 10 17 := rb1606 _ _ _ _ [] [a1628, a1644, a1667, a1676, a1693, a1914, t1936, a1956, t1976, a1993] S1991 (((((((((((((((((Keep.refl _ _).ext E1631).wr W1638 (Or.inr (by rw [g1630]; exact (Nat.le_refl _)))).ext E1647).wr W1655 (Or.inr (by rw [g1646]; exact (by rw [W1638.size]; exact (Nat.le_trans (Nat.le_refl _) E1631.1))))).wr W1661 (Or.inr (by rw [g1646]; exact (by rw [W1638.size]; exact (Nat.le_trans (Nat.le_refl _) E1631.1))))).ext E1670).ext E1679).wr W1687 (Or.inr (by rw [g1678]; exact (Nat.le_trans (by rw [W1661.size]; exact (by rw [W1655.size]; exact (Nat.le_trans (by rw [W1638.size]; exact (Nat.le_trans (Nat.le_refl _) E1631.1)) E1647.1))) E1670.1)))).ext E1696).wr W1704 (Or.inr (by rw [g1695]; exact (by rw [W1687.size]; exact (Nat.le_trans (Nat.le_trans (by rw [W1661.size]; exact (by rw [W1655.size]; exact (Nat.le_trans (by rw [W1638.size]; exact (Nat.le_trans (Nat.le_refl _) E1631.1)) E1647.1))) E1670.1) E1679.1))))).wr W1710 (Or.inr (by rw [g1695]; exact (by rw [W1687.size]; exact (Nat.le_trans (Nat.le_trans (by rw [W1661.size]; exact (by rw [W1655.size]; exact (Nat.le_trans (by rw [W1638.size]; exact (Nat.le_trans (Nat.le_refl _) E1631.1)) E1647.1))) E1670.1) E1679.1))))).ext E1916).trans K1933 (allS (Or.inr (by rw [g1915]; exact (by rw [W1710.size]; exact (by rw [W1704.size]; exact (Nat.le_trans (by rw [W1687.size]; exact (Nat.le_trans (Nat.le_trans (by rw [W1661.size]; exact (by rw [W1655.size]; exact (Nat.le_trans (by rw [W1638.size]; exact (Nat.le_trans (Nat.le_refl _) E1631.1)) E1647.1))) E1670.1) E1679.1)) E1696.1))))) all0)).ext E1958).trans K1973 (allS (Or.inr (by rw [g1957]; exact (Nat.le_trans (Nat.le_trans (by rw [W1710.size]; exact (by rw [W1704.size]; exact (Nat.le_trans (by rw [W1687.size]; exact (Nat.le_trans (Nat.le_trans (by rw [W1661.size]; exact (by rw [W1655.size]; exact (Nat.le_trans (by rw [W1638.size]; exact (Nat.le_trans (Nat.le_refl _) E1631.1)) E1647.1))) E1670.1) E1679.1)) E1696.1))) E1916.1) K1933.1))) all0)).ext E1995) all0 (allS ⟨(by rw [g1630]; exact (Nat.le_refl _)), f2026⟩ (allS ⟨(by rw [g1646]; exact (by rw [W1638.size]; exact (Nat.le_trans (Nat.le_refl _) E1631.1))), f2025⟩ (allS ⟨(by rw [g1669]; exact (by rw [W1661.size]; exact (by rw [W1655.size]; exact (Nat.le_trans (by rw [W1638.size]; exact (Nat.le_trans (Nat.le_refl _) E1631.1)) E1647.1)))), f2024⟩ (allS ⟨(by rw [g1678]; exact (Nat.le_trans (by rw [W1661.size]; exact (by rw [W1655.size]; exact (Nat.le_trans (by rw [W1638.size]; exact (Nat.le_trans (Nat.le_refl _) E1631.1)) E1647.1))) E1670.1)), f2023⟩ (allS ⟨(by rw [g1695]; exact (by rw [W1687.size]; exact (Nat.le_trans (Nat.le_trans (by rw [W1661.size]; exact (by rw [W1655.size]; exact (Nat.le_trans (by rw [W1638.size]; exact (Nat.le_trans (Nat.le_refl _) E1631.1)) E1647.1))) E1670.1) E1679.1))), f2022⟩ (allS ⟨(by rw [g1915]; exact (by rw [W1710.size]; exact (by rw [W1704.size]; exact (Nat.le_trans (by rw [W1687.size]; exact (Nat.le_trans (Nat.le_trans (by rw [W1661.size]; exact (by rw [W1655.size]; exact (Nat.le_trans (by rw [W1638.size]; exact (Nat.le_trans (Nat.le_refl _) E1631.1)) E1647.1))) E1670.1) E1679.1)) E1696.1)))), f2021⟩ (allS ⟨(Nat.le_trans (Nat.le_trans (by rw [W1710.size]; exact (by rw [W1704.size]; exact (Nat.le_trans (by rw [W1687.size]; exact (Nat.le_trans (Nat.le_trans (by rw [W1661.size]; exact (by rw [W1655.size]; exact (Nat.le_trans (by rw [W1638.size]; exact (Nat.le_trans (Nat.le_refl _) E1631.1)) E1647.1))) E1670.1) E1679.1)) E1696.1))) E1916.1) g1939), f2020⟩ (allS ⟨(by rw [g1957]; exact (Nat.le_trans (Nat.le_trans (by rw [W1710.size]; exact (by rw [W1704.size]; exact (Nat.le_trans (by rw [W1687.size]; exact (Nat.le_trans (Nat.le_trans (by rw [W1661.size]; exact (by rw [W1655.size]; exact (Nat.le_trans (by rw [W1638.size]; exact (Nat.le_trans (Nat.le_refl _) E1631.1)) E1647.1))) E1670.1) E1679.1)) E1696.1))) E1916.1) K1933.1)), f2019⟩ (allS ⟨(Nat.le_trans (Nat.le_trans (Nat.le_trans (Nat.le_trans (by rw [W1710.size]; exact (by rw [W1704.size]; exact (Nat.le_trans (by rw [W1687.size]; exact (Nat.le_trans (Nat.le_trans (by rw [W1661.size]; exact (by rw [W1655.size]; exact (Nat.le_trans (by rw [W1638.size]; exact (Nat.le_trans (Nat.le_refl _) E1631.1)) E1647.1))) E1670.1) E1679.1)) E1696.1))) E1916.1) K1933.1) E1958.1) g1979), f2018⟩ (allS ⟨(by rw [g1994]; exact (Nat.le_trans (Nat.le_trans (Nat.le_trans (Nat.le_trans (by rw [W1710.size]; exact (by rw [W1704.size]; exact (Nat.le_trans (by rw [W1687.size]; exact (Nat.le_trans (Nat.le_trans (by rw [W1661.size]; exact (by rw [W1655.size]; exact (Nat.le_trans (by rw [W1638.size]; exact (Nat.le_trans (Nat.le_refl _) E1631.1)) E1647.1))) E1670.1) E1679.1)) E1696.1))) E1916.1) K1933.1) E1958.1) K1973.1)), x1996.lt⟩ all0))))))))))
      refine own_callIW CW SW2027 rfl (own_wd hw 40 rfl) (own_wd hw 41 rfl) (own_wd hw 39 rfl) (own_wd hw 42 rfl) (by decide) (own_ns l Z a0 hw hEL wS G1 G3 a1993 a1914 t1936 k1937 (1 : Int32) ([(.int y1607.toInt8.toInt32)]) ([y1607] : List Int32) h1992 n0 f2007 g2009 f1999 f2000 f2003 f2004 f2006 x1996 f1998 O2 O4 P5 rG3 hcd1949 hp1921 (Nat.le_of_ble_eq_true rfl) (by simp) hne1952 (by simp)) all0 1 (by decide) (by decide) [(.ref a1914)] [(.ref a1993)] rfl own_pd7 rfl rfl rfl (Nat.le_of_ble_eq_true rfl) (by decide) (by decide) (by decide +kernel) ?_
      rintro T2028 h2029 v2030 SW2031 hg2032 ⟨rfl, K2010, f2011, f2012⟩
      replace SW2031 : own_SW p l e room_1 s m #[(.int i0), (.int i1), (.int i2), (.int i3), (.int i4)] below meth c n0 Z own_EL "com/example/nearfar_cache/nearfarcache/redis/RedisKeysOfPinLaw" T2028 h2029 [a1628, a1644, a1667, a1676, a1693, a1914, t1936, a1956, t1976, a1993] 14 69 := SW2031
      show own_Go p e below _ T2028 (mkF m 189 #[.val (.int i0), .val (.int i1), .val (.int i2), .val (.int i3), .val (.int i4), .val (.int (1 : Int32)), .val (.int (1 : Int32)), .val (.int y1607), .val (.int y1616), .val (.int (i2 &&& (255 : Int32))), .val (.int (i3 &&& (255 : Int32))), .val (.ref a1628), .val (.ref a1644), .val (.ref a1667), .val (.ref a1676), .val (.ref a1693), .val (.ref a1914), .val (.ref a1956), .unset, .unset] [(.ref a1993)])
      refine own_lift CW SW2031 ?_
      intro vm2033 C S2034 rb2035
      refine own_seg C S2034 [(189, .astore 18, 2), (191, .aload 18, 2), (193, .aload 17, 2)] (by decide +kernel) 195 #[.val (.int i0), .val (.int i1), .val (.int i2), .val (.int i3), .val (.int i4), .val (.int (1 : Int32)), .val (.int (1 : Int32)), .val (.int y1607), .val (.int y1616), .val (.int (i2 &&& (255 : Int32))), .val (.int (i3 &&& (255 : Int32))), .val (.ref a1628), .val (.ref a1644), .val (.ref a1667), .val (.ref a1676), .val (.ref a1693), .val (.ref a1914), .val (.ref a1956), .val (.ref a1993), .unset] [(.ref a1956), (.ref a1993)] rfl ?_
      have f2036 : Old Z n0 h2029 := (f1999.keep K2010 (allS g2009 all0))
      have f2037 : Exa Z h2029 a1914 "java/lang/String" := (f2000.keep K2010)
      have f2038 : a1914 < h1984.size := (Nat.lt_of_lt_of_le (Nat.lt_of_lt_of_le f2001 E1958.1) K1973.1)
      have n2039 : a1914 ≠ a1993 := by rw [g1994]; exact Nat.ne_of_lt f2038
      have f2040 : Fld Z h2029 a1914 "java/lang/String" "value" "[B" (.ref t1936) := (f2003.keep K2010 (ninS n2039 nin0))
      have f2041 : Fld Z h2029 a1914 "java/lang/String" "coder" "B" (.int 0) := (f2004.keep K2010 (ninS n2039 nin0))
      have f2042 : t1936 < h1984.size := (Nat.lt_of_lt_of_le (Nat.lt_of_lt_of_le f1948.lt E1958.1) K1973.1)
      have n2043 : t1936 ≠ a1993 := by rw [g1994]; exact Nat.ne_of_lt f2042
      have f2044 : Arv Z h2029 t1936 k1937 .byte (1 : Int32) ([(.int y1607.toInt8.toInt32)]) (.int 0) := (f2006.keep K2010 (ninS n2043 nin0))
      have f2045 : Exa Z h2029 a1956 "java/lang/String" := ((Exa.ext E1995 x1974).keep K2010)
      have f2046 : a1956 < h1984.size := (Nat.lt_of_lt_of_le f1962.lt K1973.1)
      have n2047 : a1956 ≠ a1993 := by rw [g1994]; exact Nat.ne_of_lt f2046
      have f2048 : Fld Z h2029 a1956 "java/lang/String" "value" "[B" (.ref t1976) := ((Fld.ext E1995 f1981).keep K2010 (ninS n2047 nin0))
      have f2049 : Fld Z h2029 a1956 "java/lang/String" "coder" "B" (.int 0) := ((Fld.ext E1995 f1975).keep K2010 (ninS n2047 nin0))
      have n2050 : t1976 ≠ a1993 := by rw [g1994]; exact Nat.ne_of_lt f1988.lt
      have f2051 : Arv Z h2029 t1976 k1977 .byte (1 : Int32) ([(.int ((i2 &&& (255 : Int32)).toInt8.toInt32))]) (.int 0) := ((f1988.ext E1995).keep K2010 (ninS n2050 nin0))
      have f2052 : n0 ≤ h2029.size := (Nat.le_trans f2007 K2010.1)
      have SW2068 : own_SW p l e room_1 s m #[(.int i0), (.int i1), (.int i2), (.int i3), (.int i4)] below meth c n0 Z own_EL "com/example/nearfar_cache/nearfarcache/redis/RedisKeysOfPinLaw" T2028 h2029 [a1628, a1644, a1667, a1676, a1693, a1914, t1936, a1956, t1976, a1993] 14 69 := rb2035 _ _ _ _ [] [] S2034 (Keep.refl _ _) all0 all0
      refine own_callSW CW SW2068 (own_wd hw 113 rfl) (own_wd hw 114 rfl) (own_wd hw 115 rfl) (own_wd hw 116 rfl) (by decide) (own_of11 l Z a0 hw hEL wS G1 G3 a1993 a1914 t1936 k1937 y1607 a1956 t1976 k1977 (i2 &&& (255 : Int32)) h2029 n0 f2052 f2036 f2011 f2012 f2037 f2040 f2041 f2044 f2045 f2048 f2049 f2051 O2 O4 P5 rG3 p1609.1 ((own_Ch.of i2).1)) all0 0 (by decide) (by decide) [(.ref a1993), (.ref a1956)] [] rfl own_pd28 rfl rfl rfl (Nat.le_of_ble_eq_true rfl) (by decide) (by decide) (by decide +kernel) ?_
      rintro T2069 h2070 v2071 SW2072 hg2073 ⟨a2053, a2054, k2055, rfl, g2056, g2057, K2058, f2059, f2060, f2061, f2062⟩
      replace SW2072 : own_SW p l e room_1 s m #[(.int i0), (.int i1), (.int i2), (.int i3), (.int i4)] below meth c n0 Z own_EL "com/example/nearfar_cache/nearfarcache/redis/RedisKeysOfPinLaw" T2069 h2070 [a1628, a1644, a1667, a1676, a1693, a1914, t1936, a1956, t1976, a1993] 22 213 := SW2072
      show own_Go p e below _ T2069 (mkF m 198 #[.val (.int i0), .val (.int i1), .val (.int i2), .val (.int i3), .val (.int i4), .val (.int (1 : Int32)), .val (.int (1 : Int32)), .val (.int y1607), .val (.int y1616), .val (.int (i2 &&& (255 : Int32))), .val (.int (i3 &&& (255 : Int32))), .val (.ref a1628), .val (.ref a1644), .val (.ref a1667), .val (.ref a1676), .val (.ref a1693), .val (.ref a1914), .val (.ref a1956), .val (.ref a1993), .unset] [(.ref a2053)])
      have hp2074 : ∀ c ∈ ([y1607, (58 : Int32), (i2 &&& (255 : Int32))] : List Int32), ¬ c < 0 ∧ ¬ (255 : Int32) < c := by
        intro c hc; simp only [List.mem_cons, List.not_mem_nil, or_false] at hc
        rcases hc with rfl | rfl | rfl
        · exact p1609.1
        · exact (by decide)
        · exact (own_Ch.of i2).1
      have hcd2075 : StrChars.Road.CodA ([y1607, (58 : Int32), (i2 &&& (255 : Int32))] : List Int32) 0 (3 : Int32) [(.int y1607.toInt8.toInt32), (.int (58 : Int32)), (.int (i2 &&& (255 : Int32)).toInt8.toInt32)] := StrChars.Road.codOf (cs := ([y1607, (58 : Int32), (i2 &&& (255 : Int32))] : List Int32)) (n := 3) rfl (fun c hc => (hp2074 c hc).2)
      refine own_lift CW SW2072 ?_
      intro vm2076 C S2077 rb2078
      refine own_seg C S2077 [(198, .astore 19, 2), (200, .aload 19, 2)] (by decide +kernel) 202 #[.val (.int i0), .val (.int i1), .val (.int i2), .val (.int i3), .val (.int i4), .val (.int (1 : Int32)), .val (.int (1 : Int32)), .val (.int y1607), .val (.int y1616), .val (.int (i2 &&& (255 : Int32))), .val (.int (i3 &&& (255 : Int32))), .val (.ref a1628), .val (.ref a1644), .val (.ref a1667), .val (.ref a1676), .val (.ref a1693), .val (.ref a1914), .val (.ref a1956), .val (.ref a1993), .val (.ref a2053)] [(.ref a2053)] rfl ?_
      have f2079 : Old Z n0 h2070 := (f2036.keep K2058 all0)
      refine own_callV C S2077 (own_wd hw 236 rfl) (own_wd hw 75 rfl) (own_wd hw 77 rfl) (y' := ⟨"java/lang/String", "length", "()I"⟩) rfl (own_wd hw 77 rfl) (own_wd hw 76 rfl) (by decide) (Q := (fun v h' L => v = some (.int (Int32.ofNat (([y1607, (58 : Int32), (i2 &&& (255 : Int32))] : List Int32)).length)) ∧ L = [] ∧ h' = h2070)) (StrChars.Road.lenW (W := 0) C.2.2.2.2.2.2.2 (fun d hd => hw d (own_hln d hd)) (kI := 4) (own_wd hw 6 rfl) f2059 f2061 f2060 f2062 hcd2075 (own_up _ hp2074) (O2.ext f2079.2) P5 (Nat.le_of_ble_eq_true rfl) (by decide) (by decide)) (fun _ _ L q => by rw [q.2.1]; exact Fr.nil _) f2059 [] [] rfl own_pd4 rfl rfl rfl (Nat.le_of_ble_eq_true rfl) (by decide) (by decide) (by decide +kernel) ?_
      rintro T2081 h2082 v2083 L2084 S2085 ⟨rfl, -, e2080⟩
      replace S2085 : own_S p l e room_1 (s.setVm vm2076) m #[(.int i0), (.int i1), (.int i2), (.int i3), (.int i4)] below meth c n0 T2081 h2082 22 213 := S2085
      rw [e2080] at S2085; clear e2080
      show own_Go p e below _ T2081 (mkF m 205 #[.val (.int i0), .val (.int i1), .val (.int i2), .val (.int i3), .val (.int i4), .val (.int (1 : Int32)), .val (.int (1 : Int32)), .val (.int y1607), .val (.int y1616), .val (.int (i2 &&& (255 : Int32))), .val (.int (i3 &&& (255 : Int32))), .val (.ref a1628), .val (.ref a1644), .val (.ref a1667), .val (.ref a1676), .val (.ref a1693), .val (.ref a1914), .val (.ref a1956), .val (.ref a1993), .val (.ref a2053)] [(.int (3 : Int32))])
      refine own_seg C S2085 [(205, .iload 5, 2), (207, .iconst 1, 1), (208, .iadd, 1), (209, .iload 6, 2), (211, .iadd, 1)] (by decide +kernel) 212 #[.val (.int i0), .val (.int i1), .val (.int i2), .val (.int i3), .val (.int i4), .val (.int (1 : Int32)), .val (.int (1 : Int32)), .val (.int y1607), .val (.int y1616), .val (.int (i2 &&& (255 : Int32))), .val (.int (i3 &&& (255 : Int32))), .val (.ref a1628), .val (.ref a1644), .val (.ref a1667), .val (.ref a1676), .val (.ref a1693), .val (.ref a1914), .val (.ref a1956), .val (.ref a1993), .val (.ref a2053)] [(.int (((1 : Int32) + (1 : Int32)) + (1 : Int32))), (.int (3 : Int32))] rfl ?_
      refine own_icmp C S2085 (q := .eq) (o := 5) (by decide +kernel) 217 (by decide) (by decide) (fun (q2086 : (3 : Int32) = (((1 : Int32) + (1 : Int32)) + (1 : Int32))) => ?_) (fun (hq : ¬ (3 : Int32) = (((1 : Int32) + (1 : Int32)) + (1 : Int32))) => False.elim (by revert hq; decide))
      refine own_seg C S2085 [(217, .aload 19, 2), (219, .iconst 0, 1)] (by decide +kernel) 220 #[.val (.int i0), .val (.int i1), .val (.int i2), .val (.int i3), .val (.int i4), .val (.int (1 : Int32)), .val (.int (1 : Int32)), .val (.int y1607), .val (.int y1616), .val (.int (i2 &&& (255 : Int32))), .val (.int (i3 &&& (255 : Int32))), .val (.ref a1628), .val (.ref a1644), .val (.ref a1667), .val (.ref a1676), .val (.ref a1693), .val (.ref a1914), .val (.ref a1956), .val (.ref a1993), .val (.ref a2053)] [(.int (0 : Int32)), (.ref a2053)] rfl ?_
      refine own_callV C S2085 (own_wd hw 237 rfl) (own_wd hw 238 rfl) (own_wd hw 240 rfl) (y' := ⟨"java/lang/String", "charAt", "(I)C"⟩) rfl (own_wd hw 240 rfl) (own_wd hw 239 rfl) (by decide) (Q := (fun v h' L => v = some (.int ((([y1607, (58 : Int32), (i2 &&& (255 : Int32))] : List Int32)).getD 0 0)) ∧ L = [] ∧ h' = h2070)) (StrChars.Road.chN (W := 0) C.2.2.2.2.2.2.2 (fun d hd => hw d (own_hch d hd)) (kI := 4) (own_wd hw 6 rfl) f2059 f2061 f2060 f2062 hcd2075 (own_up _ hp2074) (O2.ext f2079.2) P5 (O4.ext f2079.2) rG3 (Nat.le_of_ble_eq_true rfl) (i := 0) (Nat.le_of_ble_eq_true rfl) rfl (by decide) (by decide)) (fun _ _ L q => by rw [q.2.1]; exact Fr.nil _) f2059 [(.int (0 : Int32))] [] rfl own_pd26 rfl rfl rfl (Nat.le_of_ble_eq_true rfl) (by decide) (by decide) (by decide +kernel) ?_
      rintro T2088 h2089 v2090 L2091 S2092 ⟨rfl, -, e2087⟩
      replace S2092 : own_S p l e room_1 (s.setVm vm2076) m #[(.int i0), (.int i1), (.int i2), (.int i3), (.int i4)] below meth c n0 T2088 h2089 22 213 := S2092
      rw [e2087] at S2092; clear e2087
      show own_Go p e below _ T2088 (mkF m 223 #[.val (.int i0), .val (.int i1), .val (.int i2), .val (.int i3), .val (.int i4), .val (.int (1 : Int32)), .val (.int (1 : Int32)), .val (.int y1607), .val (.int y1616), .val (.int (i2 &&& (255 : Int32))), .val (.int (i3 &&& (255 : Int32))), .val (.ref a1628), .val (.ref a1644), .val (.ref a1667), .val (.ref a1676), .val (.ref a1693), .val (.ref a1914), .val (.ref a1956), .val (.ref a1993), .val (.ref a2053)] [(.int y1607)])
      refine own_seg C S2092 [(223, .iload 7, 2)] (by decide +kernel) 225 #[.val (.int i0), .val (.int i1), .val (.int i2), .val (.int i3), .val (.int i4), .val (.int (1 : Int32)), .val (.int (1 : Int32)), .val (.int y1607), .val (.int y1616), .val (.int (i2 &&& (255 : Int32))), .val (.int (i3 &&& (255 : Int32))), .val (.ref a1628), .val (.ref a1644), .val (.ref a1667), .val (.ref a1676), .val (.ref a1693), .val (.ref a1914), .val (.ref a1956), .val (.ref a1993), .val (.ref a2053)] [(.int y1607), (.int y1607)] rfl ?_
      refine own_icmp C S2092 (q := .eq) (o := 5) (by decide +kernel) 230 (by decide) (by decide) (fun (q2093 : y1607 = y1607) => ?_) (fun (hq : ¬ y1607 = y1607) => False.elim (hq rfl))
      refine own_seg C S2092 [(230, .iload 5, 2), (232, .iconst 2, 1)] (by decide +kernel) 233 #[.val (.int i0), .val (.int i1), .val (.int i2), .val (.int i3), .val (.int i4), .val (.int (1 : Int32)), .val (.int (1 : Int32)), .val (.int y1607), .val (.int y1616), .val (.int (i2 &&& (255 : Int32))), .val (.int (i3 &&& (255 : Int32))), .val (.ref a1628), .val (.ref a1644), .val (.ref a1667), .val (.ref a1676), .val (.ref a1693), .val (.ref a1914), .val (.ref a1956), .val (.ref a1993), .val (.ref a2053)] [(.int (2 : Int32)), (.int (1 : Int32))] rfl ?_
      refine own_icmp C S2092 (q := .ne) (o := 16) (by decide +kernel) 249 (by decide) (by decide) (fun (q2094 : ¬ (1 : Int32) = (2 : Int32)) => ?_) (fun (hq : (1 : Int32) = (2 : Int32)) => False.elim (by revert hq; decide))
      refine own_seg C S2092 [(249, .aload 19, 2), (251, .iload 5, 2)] (by decide +kernel) 253 #[.val (.int i0), .val (.int i1), .val (.int i2), .val (.int i3), .val (.int i4), .val (.int (1 : Int32)), .val (.int (1 : Int32)), .val (.int y1607), .val (.int y1616), .val (.int (i2 &&& (255 : Int32))), .val (.int (i3 &&& (255 : Int32))), .val (.ref a1628), .val (.ref a1644), .val (.ref a1667), .val (.ref a1676), .val (.ref a1693), .val (.ref a1914), .val (.ref a1956), .val (.ref a1993), .val (.ref a2053)] [(.int (1 : Int32)), (.ref a2053)] rfl ?_
      refine own_callV C S2092 (own_wd hw 237 rfl) (own_wd hw 238 rfl) (own_wd hw 240 rfl) (y' := ⟨"java/lang/String", "charAt", "(I)C"⟩) rfl (own_wd hw 240 rfl) (own_wd hw 239 rfl) (by decide) (Q := (fun v h' L => v = some (.int ((([y1607, (58 : Int32), (i2 &&& (255 : Int32))] : List Int32)).getD 1 0)) ∧ L = [] ∧ h' = h2070)) (StrChars.Road.chN (W := 0) C.2.2.2.2.2.2.2 (fun d hd => hw d (own_hch d hd)) (kI := 4) (own_wd hw 6 rfl) f2059 f2061 f2060 f2062 hcd2075 (own_up _ hp2074) (O2.ext f2079.2) P5 (O4.ext f2079.2) rG3 (Nat.le_of_ble_eq_true rfl) (i := 1) (Nat.le_of_ble_eq_true rfl) rfl (by decide) (by decide)) (fun _ _ L q => by rw [q.2.1]; exact Fr.nil _) f2059 [(.int (1 : Int32))] [] rfl own_pd26 rfl rfl rfl (Nat.le_of_ble_eq_true rfl) (by decide) (by decide) (by decide +kernel) ?_
      rintro T2096 h2097 v2098 L2099 S2100 ⟨rfl, -, e2095⟩
      replace S2100 : own_S p l e room_1 (s.setVm vm2076) m #[(.int i0), (.int i1), (.int i2), (.int i3), (.int i4)] below meth c n0 T2096 h2097 22 213 := S2100
      rw [e2095] at S2100; clear e2095
      show own_Go p e below _ T2096 (mkF m 256 #[.val (.int i0), .val (.int i1), .val (.int i2), .val (.int i3), .val (.int i4), .val (.int (1 : Int32)), .val (.int (1 : Int32)), .val (.int y1607), .val (.int y1616), .val (.int (i2 &&& (255 : Int32))), .val (.int (i3 &&& (255 : Int32))), .val (.ref a1628), .val (.ref a1644), .val (.ref a1667), .val (.ref a1676), .val (.ref a1693), .val (.ref a1914), .val (.ref a1956), .val (.ref a1993), .val (.ref a2053)] [(.int (58 : Int32))])
      refine own_seg C S2100 [(256, .bipush 58, 2)] (by decide +kernel) 258 #[.val (.int i0), .val (.int i1), .val (.int i2), .val (.int i3), .val (.int i4), .val (.int (1 : Int32)), .val (.int (1 : Int32)), .val (.int y1607), .val (.int y1616), .val (.int (i2 &&& (255 : Int32))), .val (.int (i3 &&& (255 : Int32))), .val (.ref a1628), .val (.ref a1644), .val (.ref a1667), .val (.ref a1676), .val (.ref a1693), .val (.ref a1914), .val (.ref a1956), .val (.ref a1993), .val (.ref a2053)] [(.int (58 : Int32)), (.int (58 : Int32))] rfl ?_
      refine own_icmp C S2100 (q := .eq) (o := 5) (by decide +kernel) 263 (by decide) (by decide) (fun (q2101 : (58 : Int32) = (58 : Int32)) => ?_) (fun (hq : ¬ (58 : Int32) = (58 : Int32)) => False.elim (by revert hq; decide))
      refine own_seg C S2100 [(263, .iload 6, 2), (265, .iconst 1, 1)] (by decide +kernel) 266 #[.val (.int i0), .val (.int i1), .val (.int i2), .val (.int i3), .val (.int i4), .val (.int (1 : Int32)), .val (.int (1 : Int32)), .val (.int y1607), .val (.int y1616), .val (.int (i2 &&& (255 : Int32))), .val (.int (i3 &&& (255 : Int32))), .val (.ref a1628), .val (.ref a1644), .val (.ref a1667), .val (.ref a1676), .val (.ref a1693), .val (.ref a1914), .val (.ref a1956), .val (.ref a1993), .val (.ref a2053)] [(.int (1 : Int32)), (.int (1 : Int32))] rfl ?_
      refine own_icmp C S2100 (q := .lt) (o := 19) (by decide +kernel) 285 (by decide) (by decide) (fun (hq : (1 : Int32) < (1 : Int32)) => False.elim (by revert hq; decide)) (fun (q2102 : ¬ (1 : Int32) < (1 : Int32)) => ?_)
      refine own_seg C S2100 [(269, .aload 19, 2), (271, .iload 5, 2), (273, .iconst 1, 1), (274, .iadd, 1)] (by decide +kernel) 275 #[.val (.int i0), .val (.int i1), .val (.int i2), .val (.int i3), .val (.int i4), .val (.int (1 : Int32)), .val (.int (1 : Int32)), .val (.int y1607), .val (.int y1616), .val (.int (i2 &&& (255 : Int32))), .val (.int (i3 &&& (255 : Int32))), .val (.ref a1628), .val (.ref a1644), .val (.ref a1667), .val (.ref a1676), .val (.ref a1693), .val (.ref a1914), .val (.ref a1956), .val (.ref a1993), .val (.ref a2053)] [(.int ((1 : Int32) + (1 : Int32))), (.ref a2053)] rfl ?_
      refine own_callV C S2100 (own_wd hw 237 rfl) (own_wd hw 238 rfl) (own_wd hw 240 rfl) (y' := ⟨"java/lang/String", "charAt", "(I)C"⟩) rfl (own_wd hw 240 rfl) (own_wd hw 239 rfl) (by decide) (Q := (fun v h' L => v = some (.int ((([y1607, (58 : Int32), (i2 &&& (255 : Int32))] : List Int32)).getD 2 0)) ∧ L = [] ∧ h' = h2070)) (StrChars.Road.chN (W := 0) C.2.2.2.2.2.2.2 (fun d hd => hw d (own_hch d hd)) (kI := 4) (own_wd hw 6 rfl) f2059 f2061 f2060 f2062 hcd2075 (own_up _ hp2074) (O2.ext f2079.2) P5 (O4.ext f2079.2) rG3 (Nat.le_of_ble_eq_true rfl) (i := 2) (Nat.le_of_ble_eq_true rfl) rfl (by decide) (by decide)) (fun _ _ L q => by rw [q.2.1]; exact Fr.nil _) f2059 [(.int ((1 : Int32) + (1 : Int32)))] [] rfl own_pd26 rfl rfl rfl (Nat.le_of_ble_eq_true rfl) (by decide) (by decide) (by decide +kernel) ?_
      rintro T2104 h2105 v2106 L2107 S2108 ⟨rfl, -, e2103⟩
      replace S2108 : own_S p l e room_1 (s.setVm vm2076) m #[(.int i0), (.int i1), (.int i2), (.int i3), (.int i4)] below meth c n0 T2104 h2105 22 213 := S2108
      rw [e2103] at S2108; clear e2103
      show own_Go p e below _ T2104 (mkF m 278 #[.val (.int i0), .val (.int i1), .val (.int i2), .val (.int i3), .val (.int i4), .val (.int (1 : Int32)), .val (.int (1 : Int32)), .val (.int y1607), .val (.int y1616), .val (.int (i2 &&& (255 : Int32))), .val (.int (i3 &&& (255 : Int32))), .val (.ref a1628), .val (.ref a1644), .val (.ref a1667), .val (.ref a1676), .val (.ref a1693), .val (.ref a1914), .val (.ref a1956), .val (.ref a1993), .val (.ref a2053)] [(.int (i2 &&& (255 : Int32)))])
      refine own_seg C S2108 [(278, .iload 9, 2)] (by decide +kernel) 280 #[.val (.int i0), .val (.int i1), .val (.int i2), .val (.int i3), .val (.int i4), .val (.int (1 : Int32)), .val (.int (1 : Int32)), .val (.int y1607), .val (.int y1616), .val (.int (i2 &&& (255 : Int32))), .val (.int (i3 &&& (255 : Int32))), .val (.ref a1628), .val (.ref a1644), .val (.ref a1667), .val (.ref a1676), .val (.ref a1693), .val (.ref a1914), .val (.ref a1956), .val (.ref a1993), .val (.ref a2053)] [(.int (i2 &&& (255 : Int32))), (.int (i2 &&& (255 : Int32)))] rfl ?_
      refine own_icmp C S2108 (q := .eq) (o := 5) (by decide +kernel) 285 (by decide) (by decide) (fun (q2109 : (i2 &&& (255 : Int32)) = (i2 &&& (255 : Int32))) => ?_) (fun (hq : ¬ (i2 &&& (255 : Int32)) = (i2 &&& (255 : Int32))) => False.elim (hq rfl))
      refine own_seg C S2108 [(285, .iload 6, 2), (287, .iconst 2, 1)] (by decide +kernel) 288 #[.val (.int i0), .val (.int i1), .val (.int i2), .val (.int i3), .val (.int i4), .val (.int (1 : Int32)), .val (.int (1 : Int32)), .val (.int y1607), .val (.int y1616), .val (.int (i2 &&& (255 : Int32))), .val (.int (i3 &&& (255 : Int32))), .val (.ref a1628), .val (.ref a1644), .val (.ref a1667), .val (.ref a1676), .val (.ref a1693), .val (.ref a1914), .val (.ref a1956), .val (.ref a1993), .val (.ref a2053)] [(.int (2 : Int32)), (.int (1 : Int32))] rfl ?_
      refine own_icmp C S2108 (q := .ne) (o := 19) (by decide +kernel) 307 (by decide) (by decide) (fun (q2110 : ¬ (1 : Int32) = (2 : Int32)) => ?_) (fun (hq : (1 : Int32) = (2 : Int32)) => False.elim (by revert hq; decide))
      refine own_seg C S2108 [(307, .iconst 1, 1)] (by decide +kernel) 308 #[.val (.int i0), .val (.int i1), .val (.int i2), .val (.int i3), .val (.int i4), .val (.int (1 : Int32)), .val (.int (1 : Int32)), .val (.int y1607), .val (.int y1616), .val (.int (i2 &&& (255 : Int32))), .val (.int (i3 &&& (255 : Int32))), .val (.ref a1628), .val (.ref a1644), .val (.ref a1667), .val (.ref a1676), .val (.ref a1693), .val (.ref a1914), .val (.ref a1956), .val (.ref a1993), .val (.ref a2053)] [(.int (1 : Int32))] rfl ?_
      have SW2111 : own_SW p l e room_1 s m #[(.int i0), (.int i1), (.int i2), (.int i3), (.int i4)] below meth c n0 Z own_EL "com/example/nearfar_cache/nearfarcache/redis/RedisKeysOfPinLaw" T2104 h2070 [a1628, a1644, a1667, a1676, a1693, a1914, t1936, a1956, t1976, a1993] 22 213 := rb2078 _ _ _ _ [] [] S2108 (Keep.refl _ _) all0 all0
      refine own_retZW CW SW2111 (by decide +kernel) (by decide) (by decide) (by decide) ?_
      rfl
    · rw [show ((Jvm.Free.XT.ushr i4 (1 : Int32)) % (3 : Int32)) = (2 : Int32) from qk]
      refine own_seg C S1708 [(99, .iload 5, 2), (101, .iconst 1, 1)] (by decide +kernel) 102 #[.val (.int i0), .val (.int i1), .val (.int i2), .val (.int i3), .val (.int i4), .val (.int (1 : Int32)), .val (.int (2 : Int32)), .val (.int y1607), .val (.int y1616), .val (.int (i2 &&& (255 : Int32))), .val (.int (i3 &&& (255 : Int32))), .val (.ref a1628), .val (.ref a1644), .val (.ref a1667), .val (.ref a1676), .val (.ref a1693), .unset, .unset, .unset, .unset] [(.int (1 : Int32)), (.int (1 : Int32))] rfl ?_
      refine own_icmp C S1708 (q := .ne) (o := 17) (by decide +kernel) 119 (by decide) (by decide) (fun (hq : ¬ (1 : Int32) = (1 : Int32)) => False.elim (by revert hq; decide)) (fun (q2112 : (1 : Int32) = (1 : Int32)) => ?_)
      refine own_new C S1708 (own_wd hw 5 rfl) (own_wd hw 6 rfl) (own_wd hw 7 rfl) (by decide +kernel) (by decide) (by decide) ?_
      intro T2113 h2115 a2116 S2114 g2117 E2118 x2119 D2120
      have f2121 : Fld Z h2115 a2116 "java/lang/String" "coder" "B" (.int (0 : Int32)) := D2120 (ty := .byte) (Or.inr (own_wd hw 31 rfl)) own_fd1
      have f2122 : Fld Z h2115 a2116 "java/lang/String" "value" "[B" .null := D2120 (ty := (.array .byte)) (Or.inr (own_wd hw 33 rfl)) own_fd0
      refine own_seg C S2114 [(108, .dup, 1), (109, .aload 11, 2)] (by decide +kernel) 111 #[.val (.int i0), .val (.int i1), .val (.int i2), .val (.int i3), .val (.int i4), .val (.int (1 : Int32)), .val (.int (2 : Int32)), .val (.int y1607), .val (.int y1616), .val (.int (i2 &&& (255 : Int32))), .val (.int (i3 &&& (255 : Int32))), .val (.ref a1628), .val (.ref a1644), .val (.ref a1667), .val (.ref a1676), .val (.ref a1693), .unset, .unset, .unset, .unset] [(.ref a1628), (.ref a2116), (.ref a2116)] rfl ?_
      have hp2123 : ∀ c ∈ ([y1607] : List Int32), ¬ c < 0 ∧ ¬ (255 : Int32) < c := by
        intro c hc; simp only [List.mem_cons, List.not_mem_nil, or_false] at hc
        rcases hc with rfl
        · exact p1609.1
      have f2124 : n0 ≤ h2115.size := (Nat.le_trans (by rw [W1710.size]; exact (by rw [W1704.size]; exact (Nat.le_trans f1699 E1696.1))) E2118.1)
      have f2125 : n0 ≤ h1709.size := (by rw [W1710.size]; exact (by rw [W1704.size]; exact (Nat.le_trans f1699 E1696.1)))
      have g2126 : n0 ≤ a2116 := by rw [g2117]; exact f2125
      have f2127 : a1628 < h1637.size := (by rw [W1638.size]; exact f1633.lt)
      have n2128 : a1628 ≠ a1644 := by rw [g1646]; exact Nat.ne_of_lt f2127
      have f2129 : a1628 < h1666.size := (Nat.lt_of_lt_of_le (by rw [W1661.size]; exact (by rw [W1655.size]; exact (Nat.lt_of_lt_of_le f2127 E1647.1))) E1670.1)
      have n2130 : a1628 ≠ a1676 := by rw [g1678]; exact Nat.ne_of_lt f2129
      have f2131 : a1628 < h1686.size := (by rw [W1687.size]; exact (Nat.lt_of_lt_of_le f2129 E1679.1))
      have n2132 : a1628 ≠ a1693 := by rw [g1695]; exact Nat.ne_of_lt f2131
      have f2133 : Arv Z h2115 a1628 k1629 .char (1 : Int32) ([(.int y1607)]) (.int (0 : Int32)) := ((((((((((f1640.ext E1647).other W1655 n2128).other W1661 n2128).ext E1670).ext E1679).other W1687 n2130).ext E1696).other W1704 n2132).other W1710 n2132).ext E2118)
      have f2134 : Old Z n0 h2115 := ((((((((((((X00.ext E1631).wr W1638 g1634).ext E1647).wr W1655 g1651).wr W1661 g1651).ext E1670).ext E1679).wr W1687 g1683).ext E1696).wr W1704 g1700).wr W1710 g1700).ext E2118)
      refine own_callI C S2114 rfl (own_wd hw 8 rfl) (own_wd hw 9 rfl) (own_wd hw 10 rfl) (by decide) (StrChars.Road.backV (W := 1) C.2.2.2.2.2.2.2 (fun d hd => hw d (own_hws d hd)) (kI := 4) (own_wd hw 6 rfl) (cs := ([y1607] : List Int32)) (bs := (([y1607] : List Int32)).map (fun c => c.toInt8.toInt32)) (n := 1) g2126 f2124 x2119 f2122 f2121 f2133 (O2.ext f2134.2) P5 rfl rfl (by decide) (by decide) hp2123 rfl (by decide) (by decide)) (fun _ _ _ q => q.2.1) [(.ref a1628)] [(.ref a2116)] rfl own_pd27 rfl rfl rfl (Nat.le_of_ble_eq_true rfl) (by decide) (by decide) (by decide +kernel) ?_
      rintro T2145 h2146 v2147 L2148 S2149 ⟨rfl, -, K2135, x2136, f2137, t2138, k2139, g2140, g2141, g2142, f2143, f2144⟩
      replace S2149 : own_S p l e room_1 (s.setVm vm1604) m #[(.int i0), (.int i1), (.int i2), (.int i3), (.int i4)] below meth c n0 T2145 h2146 7 11 := S2149
      have f2150 : Arv Z h2146 t2138 k2139 .byte (1 : Int32) ([(.int y1607.toInt8.toInt32)]) (.int 0) := f2144
      have hcd2151 : StrChars.Road.CodA ([y1607] : List Int32) 0 (1 : Int32) [(.int y1607.toInt8.toInt32)] := StrChars.Road.codOf (cs := ([y1607] : List Int32)) (n := 1) rfl (fun c hc => (hp2123 c hc).2)
      show own_Go p e below _ T2145 (mkF m 114 #[.val (.int i0), .val (.int i1), .val (.int i2), .val (.int i3), .val (.int i4), .val (.int (1 : Int32)), .val (.int (2 : Int32)), .val (.int y1607), .val (.int y1616), .val (.int (i2 &&& (255 : Int32))), .val (.int (i3 &&& (255 : Int32))), .val (.ref a1628), .val (.ref a1644), .val (.ref a1667), .val (.ref a1676), .val (.ref a1693), .unset, .unset, .unset, .unset] [(.ref a2116)])
      refine own_seg C S2149 [(114, .astore 16, 2), (116, .goto 14, 3), (130, .iload 6, 2)] (by decide +kernel) 132 #[.val (.int i0), .val (.int i1), .val (.int i2), .val (.int i3), .val (.int i4), .val (.int (1 : Int32)), .val (.int (2 : Int32)), .val (.int y1607), .val (.int y1616), .val (.int (i2 &&& (255 : Int32))), .val (.int (i3 &&& (255 : Int32))), .val (.ref a1628), .val (.ref a1644), .val (.ref a1667), .val (.ref a1676), .val (.ref a1693), .val (.ref a2116), .unset, .unset, .unset] [(.int (2 : Int32))] rfl ?_
      refine own_if C S2149 (q := .ne) (o := 17) (by decide +kernel) 149 (by decide) (by decide) (fun (q2152 : ¬ (2 : Int32) = (0 : Int32)) => ?_) (fun (hq : (2 : Int32) = (0 : Int32)) => False.elim (by revert hq; decide))
      refine own_seg C S2149 [(149, .iload 6, 2), (151, .iconst 1, 1)] (by decide +kernel) 152 #[.val (.int i0), .val (.int i1), .val (.int i2), .val (.int i3), .val (.int i4), .val (.int (1 : Int32)), .val (.int (2 : Int32)), .val (.int y1607), .val (.int y1616), .val (.int (i2 &&& (255 : Int32))), .val (.int (i3 &&& (255 : Int32))), .val (.ref a1628), .val (.ref a1644), .val (.ref a1667), .val (.ref a1676), .val (.ref a1693), .val (.ref a2116), .unset, .unset, .unset] [(.int (1 : Int32)), (.int (2 : Int32))] rfl ?_
      refine own_icmp C S2149 (q := .ne) (o := 17) (by decide +kernel) 169 (by decide) (by decide) (fun (q2153 : ¬ (2 : Int32) = (1 : Int32)) => ?_) (fun (hq : (2 : Int32) = (1 : Int32)) => False.elim (by revert hq; decide))
      have hne2154 : ∀ c ∈ ([y1607] : List Int32), ¬ c = (58 : Int32) := by
        intro c hc; simp only [List.mem_cons, List.not_mem_nil, or_false] at hc
        rcases hc with rfl
        · exact p1610
      refine own_new C S2149 (own_wd hw 5 rfl) (own_wd hw 6 rfl) (own_wd hw 7 rfl) (by decide +kernel) (by decide) (by decide) ?_
      intro T2155 h2157 a2158 S2156 g2159 E2160 x2161 D2162
      have f2163 : Fld Z h2157 a2158 "java/lang/String" "coder" "B" (.int (0 : Int32)) := D2162 (ty := .byte) (Or.inr (own_wd hw 31 rfl)) own_fd1
      have f2164 : Fld Z h2157 a2158 "java/lang/String" "value" "[B" .null := D2162 (ty := (.array .byte)) (Or.inr (own_wd hw 33 rfl)) own_fd0
      refine own_seg C S2156 [(172, .dup, 1), (173, .aload 15, 2)] (by decide +kernel) 175 #[.val (.int i0), .val (.int i1), .val (.int i2), .val (.int i3), .val (.int i4), .val (.int (1 : Int32)), .val (.int (2 : Int32)), .val (.int y1607), .val (.int y1616), .val (.int (i2 &&& (255 : Int32))), .val (.int (i3 &&& (255 : Int32))), .val (.ref a1628), .val (.ref a1644), .val (.ref a1667), .val (.ref a1676), .val (.ref a1693), .val (.ref a2116), .unset, .unset, .unset] [(.ref a1693), (.ref a2158), (.ref a2158)] rfl ?_
      have hp2165 : ∀ c ∈ ([(i2 &&& (255 : Int32)), (i3 &&& (255 : Int32))] : List Int32), ¬ c < 0 ∧ ¬ (255 : Int32) < c := by
        intro c hc; simp only [List.mem_cons, List.not_mem_nil, or_false] at hc
        rcases hc with rfl | rfl
        · exact (own_Ch.of i2).1
        · exact (own_Ch.of i3).1
      have f2166 : n0 ≤ h2157.size := (Nat.le_trans (Nat.le_trans f2124 K2135.1) E2160.1)
      have f2167 : n0 ≤ h2146.size := (Nat.le_trans f2124 K2135.1)
      have g2168 : n0 ≤ a2158 := by rw [g2159]; exact f2167
      have f2169 : a1693 < h1709.size := (by rw [W1710.size]; exact (by rw [W1704.size]; exact f1698.lt))
      have n2170 : a1693 ≠ a2116 := by rw [g2117]; exact Nat.ne_of_lt f2169
      have f2171 : Arv Z h2157 a1693 k1694 .char (2 : Int32) ([(.int (i2 &&& (255 : Int32))), (.int (i3 &&& (255 : Int32)))]) (.int (0 : Int32)) := (((f1712.ext E2118).keep K2135 (ninS n2170 nin0)).ext E2160)
      have f2172 : Old Z n0 h2157 := ((f2134.keep K2135 (allS g2126 all0)).ext E2160)
      refine own_callI C S2156 rfl (own_wd hw 8 rfl) (own_wd hw 9 rfl) (own_wd hw 10 rfl) (by decide) (StrChars.Road.backV (W := 1) C.2.2.2.2.2.2.2 (fun d hd => hw d (own_hws d hd)) (kI := 4) (own_wd hw 6 rfl) (cs := ([(i2 &&& (255 : Int32)), (i3 &&& (255 : Int32))] : List Int32)) (bs := (([(i2 &&& (255 : Int32)), (i3 &&& (255 : Int32))] : List Int32)).map (fun c => c.toInt8.toInt32)) (n := 2) g2168 f2166 x2161 f2164 f2163 f2171 (O2.ext f2172.2) P5 rfl rfl (by decide) (by decide) hp2165 rfl (by decide) (by decide)) (fun _ _ _ q => q.2.1) [(.ref a1693)] [(.ref a2158)] rfl own_pd27 rfl rfl rfl (Nat.le_of_ble_eq_true rfl) (by decide) (by decide) (by decide +kernel) ?_
      rintro T2183 h2184 v2185 L2186 S2187 ⟨rfl, -, K2173, x2174, f2175, t2176, k2177, g2178, g2179, g2180, f2181, f2182⟩
      replace S2187 : own_S p l e room_1 (s.setVm vm1604) m #[(.int i0), (.int i1), (.int i2), (.int i3), (.int i4)] below meth c n0 T2183 h2184 9 17 := S2187
      have f2188 : Arv Z h2184 t2176 k2177 .byte (2 : Int32) ([(.int ((i2 &&& (255 : Int32)).toInt8.toInt32)), (.int ((i3 &&& (255 : Int32)).toInt8.toInt32))]) (.int 0) := f2182
      have hcd2189 : StrChars.Road.CodA ([(i2 &&& (255 : Int32)), (i3 &&& (255 : Int32))] : List Int32) 0 (2 : Int32) [(.int ((i2 &&& (255 : Int32)).toInt8.toInt32)), (.int ((i3 &&& (255 : Int32)).toInt8.toInt32))] := StrChars.Road.codOf (cs := ([(i2 &&& (255 : Int32)), (i3 &&& (255 : Int32))] : List Int32)) (n := 2) rfl (fun c hc => (hp2165 c hc).2)
      show own_Go p e below _ T2183 (mkF m 178 #[.val (.int i0), .val (.int i1), .val (.int i2), .val (.int i3), .val (.int i4), .val (.int (1 : Int32)), .val (.int (2 : Int32)), .val (.int y1607), .val (.int y1616), .val (.int (i2 &&& (255 : Int32))), .val (.int (i3 &&& (255 : Int32))), .val (.ref a1628), .val (.ref a1644), .val (.ref a1667), .val (.ref a1676), .val (.ref a1693), .val (.ref a2116), .unset, .unset, .unset] [(.ref a2158)])
      refine own_seg C S2187 [(178, .astore 17, 2)] (by decide +kernel) 180 #[.val (.int i0), .val (.int i1), .val (.int i2), .val (.int i3), .val (.int i4), .val (.int (1 : Int32)), .val (.int (2 : Int32)), .val (.int y1607), .val (.int y1616), .val (.int (i2 &&& (255 : Int32))), .val (.int (i3 &&& (255 : Int32))), .val (.ref a1628), .val (.ref a1644), .val (.ref a1667), .val (.ref a1676), .val (.ref a1693), .val (.ref a2116), .val (.ref a2158), .unset, .unset] [] rfl ?_
      refine own_new C S2187 (own_wd hw 37 rfl) (own_wd hw 38 rfl) (own_wd hw 39 rfl) (by decide +kernel) (by decide) (by decide) ?_
      intro T2190 h2192 a2193 S2191 g2194 E2195 x2196 D2197
      have f2198 : Fld Z h2192 a2193 "com/example/nearfar_cache/nearfarcache/Namespace" "name" "Ljava/lang/String;" .null := D2197 (ty := (.object "java/lang/String")) (Or.inr (own_wd hw 112 rfl)) own_fd3
      refine own_seg C S2191 [(183, .dup, 1), (184, .aload 16, 2)] (by decide +kernel) 186 #[.val (.int i0), .val (.int i1), .val (.int i2), .val (.int i3), .val (.int i4), .val (.int (1 : Int32)), .val (.int (2 : Int32)), .val (.int y1607), .val (.int y1616), .val (.int (i2 &&& (255 : Int32))), .val (.int (i3 &&& (255 : Int32))), .val (.ref a1628), .val (.ref a1644), .val (.ref a1667), .val (.ref a1676), .val (.ref a1693), .val (.ref a2116), .val (.ref a2158), .unset, .unset] [(.ref a2116), (.ref a2193), (.ref a2193)] rfl ?_
      have f2199 : Old Z n0 h2192 := ((f2172.keep K2173 (allS g2168 all0)).ext E2195)
      have f2200 : Exa Z h2192 a2116 "java/lang/String" := (Exa.ext E2195 ((Exa.ext E2160 x2136).keep K2173))
      have f2201 : a2116 < h2146.size := (Nat.lt_of_lt_of_le f2122.lt K2135.1)
      have n2202 : a2116 ≠ a2158 := by rw [g2159]; exact Nat.ne_of_lt f2201
      have f2203 : Fld Z h2192 a2116 "java/lang/String" "value" "[B" (.ref t2138) := (Fld.ext E2195 ((Fld.ext E2160 f2143).keep K2173 (ninS n2202 nin0)))
      have f2204 : Fld Z h2192 a2116 "java/lang/String" "coder" "B" (.int 0) := (Fld.ext E2195 ((Fld.ext E2160 f2137).keep K2173 (ninS n2202 nin0)))
      have n2205 : t2138 ≠ a2158 := by rw [g2159]; exact Nat.ne_of_lt f2150.lt
      have f2206 : Arv Z h2192 t2138 k2139 .byte (1 : Int32) ([(.int y1607.toInt8.toInt32)]) (.int 0) := (((f2150.ext E2160).keep K2173 (ninS n2205 nin0)).ext E2195)
      have f2207 : n0 ≤ h2192.size := (Nat.le_trans (Nat.le_trans f2166 K2173.1) E2195.1)
      have f2208 : n0 ≤ h2184.size := (Nat.le_trans f2166 K2173.1)
      have g2209 : n0 ≤ a2193 := by rw [g2194]; exact f2208
      have f2218 : t2176 < h2192.size := (Nat.lt_of_lt_of_le f2188.lt E2195.1)
      have f2219 : a2158 < h2192.size := (Nat.lt_of_lt_of_le (Nat.lt_of_lt_of_le f2164.lt K2173.1) E2195.1)
      have f2220 : t2138 < h2192.size := (Nat.lt_of_lt_of_le (Nat.lt_of_lt_of_le (Nat.lt_of_lt_of_le f2150.lt E2160.1) K2173.1) E2195.1)
      have f2221 : a2116 < h2192.size := (Nat.lt_of_lt_of_le (Nat.lt_of_lt_of_le (Nat.lt_of_lt_of_le f2201 E2160.1) K2173.1) E2195.1)
      have f2222 : a1693 < h2192.size := (Nat.lt_of_lt_of_le (Nat.lt_of_lt_of_le (Nat.lt_of_lt_of_le (Nat.lt_of_lt_of_le (Nat.lt_of_lt_of_le f2169 E2118.1) K2135.1) E2160.1) K2173.1) E2195.1)
      have f2223 : a1676 < h2192.size := (Nat.lt_of_lt_of_le (Nat.lt_of_lt_of_le (Nat.lt_of_lt_of_le (Nat.lt_of_lt_of_le (Nat.lt_of_lt_of_le (by rw [W1710.size]; exact (by rw [W1704.size]; exact (Nat.lt_of_lt_of_le (by rw [W1687.size]; exact f1681.lt) E1696.1))) E2118.1) K2135.1) E2160.1) K2173.1) E2195.1)
      have f2224 : a1667 < h2192.size := (Nat.lt_of_lt_of_le (Nat.lt_of_lt_of_le (Nat.lt_of_lt_of_le (Nat.lt_of_lt_of_le (Nat.lt_of_lt_of_le (by rw [W1710.size]; exact (by rw [W1704.size]; exact (Nat.lt_of_lt_of_le (by rw [W1687.size]; exact (Nat.lt_of_lt_of_le f1672.lt E1679.1)) E1696.1))) E2118.1) K2135.1) E2160.1) K2173.1) E2195.1)
      have f2225 : a1644 < h2192.size := (Nat.lt_of_lt_of_le (Nat.lt_of_lt_of_le (Nat.lt_of_lt_of_le (Nat.lt_of_lt_of_le (Nat.lt_of_lt_of_le (by rw [W1710.size]; exact (by rw [W1704.size]; exact (Nat.lt_of_lt_of_le (by rw [W1687.size]; exact (Nat.lt_of_lt_of_le (Nat.lt_of_lt_of_le (by rw [W1661.size]; exact (by rw [W1655.size]; exact f1649.lt)) E1670.1) E1679.1)) E1696.1))) E2118.1) K2135.1) E2160.1) K2173.1) E2195.1)
      have f2226 : a1628 < h2192.size := (Nat.lt_of_lt_of_le (Nat.lt_of_lt_of_le (Nat.lt_of_lt_of_le (Nat.lt_of_lt_of_le (Nat.lt_of_lt_of_le (by rw [W1710.size]; exact (by rw [W1704.size]; exact (Nat.lt_of_lt_of_le f2131 E1696.1))) E2118.1) K2135.1) E2160.1) K2173.1) E2195.1)
      have SW2227 : own_SW p l e room_1 s m #[(.int i0), (.int i1), (.int i2), (.int i3), (.int i4)] below meth c n0 Z own_EL "com/example/nearfar_cache/nearfarcache/redis/RedisKeysOfPinLaw" T2190 h2192 [a1628, a1644, a1667, a1676, a1693, a2116, t2138, a2158, t2176, a2193] 10 18 := rb1606 _ _ _ _ [] [a1628, a1644, a1667, a1676, a1693, a2116, t2138, a2158, t2176, a2193] S2191 (((((((((((((((((Keep.refl _ _).ext E1631).wr W1638 (Or.inr (by rw [g1630]; exact (Nat.le_refl _)))).ext E1647).wr W1655 (Or.inr (by rw [g1646]; exact (by rw [W1638.size]; exact (Nat.le_trans (Nat.le_refl _) E1631.1))))).wr W1661 (Or.inr (by rw [g1646]; exact (by rw [W1638.size]; exact (Nat.le_trans (Nat.le_refl _) E1631.1))))).ext E1670).ext E1679).wr W1687 (Or.inr (by rw [g1678]; exact (Nat.le_trans (by rw [W1661.size]; exact (by rw [W1655.size]; exact (Nat.le_trans (by rw [W1638.size]; exact (Nat.le_trans (Nat.le_refl _) E1631.1)) E1647.1))) E1670.1)))).ext E1696).wr W1704 (Or.inr (by rw [g1695]; exact (by rw [W1687.size]; exact (Nat.le_trans (Nat.le_trans (by rw [W1661.size]; exact (by rw [W1655.size]; exact (Nat.le_trans (by rw [W1638.size]; exact (Nat.le_trans (Nat.le_refl _) E1631.1)) E1647.1))) E1670.1) E1679.1))))).wr W1710 (Or.inr (by rw [g1695]; exact (by rw [W1687.size]; exact (Nat.le_trans (Nat.le_trans (by rw [W1661.size]; exact (by rw [W1655.size]; exact (Nat.le_trans (by rw [W1638.size]; exact (Nat.le_trans (Nat.le_refl _) E1631.1)) E1647.1))) E1670.1) E1679.1))))).ext E2118).trans K2135 (allS (Or.inr (by rw [g2117]; exact (by rw [W1710.size]; exact (by rw [W1704.size]; exact (Nat.le_trans (by rw [W1687.size]; exact (Nat.le_trans (Nat.le_trans (by rw [W1661.size]; exact (by rw [W1655.size]; exact (Nat.le_trans (by rw [W1638.size]; exact (Nat.le_trans (Nat.le_refl _) E1631.1)) E1647.1))) E1670.1) E1679.1)) E1696.1))))) all0)).ext E2160).trans K2173 (allS (Or.inr (by rw [g2159]; exact (Nat.le_trans (Nat.le_trans (by rw [W1710.size]; exact (by rw [W1704.size]; exact (Nat.le_trans (by rw [W1687.size]; exact (Nat.le_trans (Nat.le_trans (by rw [W1661.size]; exact (by rw [W1655.size]; exact (Nat.le_trans (by rw [W1638.size]; exact (Nat.le_trans (Nat.le_refl _) E1631.1)) E1647.1))) E1670.1) E1679.1)) E1696.1))) E2118.1) K2135.1))) all0)).ext E2195) all0 (allS ⟨(by rw [g1630]; exact (Nat.le_refl _)), f2226⟩ (allS ⟨(by rw [g1646]; exact (by rw [W1638.size]; exact (Nat.le_trans (Nat.le_refl _) E1631.1))), f2225⟩ (allS ⟨(by rw [g1669]; exact (by rw [W1661.size]; exact (by rw [W1655.size]; exact (Nat.le_trans (by rw [W1638.size]; exact (Nat.le_trans (Nat.le_refl _) E1631.1)) E1647.1)))), f2224⟩ (allS ⟨(by rw [g1678]; exact (Nat.le_trans (by rw [W1661.size]; exact (by rw [W1655.size]; exact (Nat.le_trans (by rw [W1638.size]; exact (Nat.le_trans (Nat.le_refl _) E1631.1)) E1647.1))) E1670.1)), f2223⟩ (allS ⟨(by rw [g1695]; exact (by rw [W1687.size]; exact (Nat.le_trans (Nat.le_trans (by rw [W1661.size]; exact (by rw [W1655.size]; exact (Nat.le_trans (by rw [W1638.size]; exact (Nat.le_trans (Nat.le_refl _) E1631.1)) E1647.1))) E1670.1) E1679.1))), f2222⟩ (allS ⟨(by rw [g2117]; exact (by rw [W1710.size]; exact (by rw [W1704.size]; exact (Nat.le_trans (by rw [W1687.size]; exact (Nat.le_trans (Nat.le_trans (by rw [W1661.size]; exact (by rw [W1655.size]; exact (Nat.le_trans (by rw [W1638.size]; exact (Nat.le_trans (Nat.le_refl _) E1631.1)) E1647.1))) E1670.1) E1679.1)) E1696.1)))), f2221⟩ (allS ⟨(Nat.le_trans (Nat.le_trans (by rw [W1710.size]; exact (by rw [W1704.size]; exact (Nat.le_trans (by rw [W1687.size]; exact (Nat.le_trans (Nat.le_trans (by rw [W1661.size]; exact (by rw [W1655.size]; exact (Nat.le_trans (by rw [W1638.size]; exact (Nat.le_trans (Nat.le_refl _) E1631.1)) E1647.1))) E1670.1) E1679.1)) E1696.1))) E2118.1) g2141), f2220⟩ (allS ⟨(by rw [g2159]; exact (Nat.le_trans (Nat.le_trans (by rw [W1710.size]; exact (by rw [W1704.size]; exact (Nat.le_trans (by rw [W1687.size]; exact (Nat.le_trans (Nat.le_trans (by rw [W1661.size]; exact (by rw [W1655.size]; exact (Nat.le_trans (by rw [W1638.size]; exact (Nat.le_trans (Nat.le_refl _) E1631.1)) E1647.1))) E1670.1) E1679.1)) E1696.1))) E2118.1) K2135.1)), f2219⟩ (allS ⟨(Nat.le_trans (Nat.le_trans (Nat.le_trans (Nat.le_trans (by rw [W1710.size]; exact (by rw [W1704.size]; exact (Nat.le_trans (by rw [W1687.size]; exact (Nat.le_trans (Nat.le_trans (by rw [W1661.size]; exact (by rw [W1655.size]; exact (Nat.le_trans (by rw [W1638.size]; exact (Nat.le_trans (Nat.le_refl _) E1631.1)) E1647.1))) E1670.1) E1679.1)) E1696.1))) E2118.1) K2135.1) E2160.1) g2179), f2218⟩ (allS ⟨(by rw [g2194]; exact (Nat.le_trans (Nat.le_trans (Nat.le_trans (Nat.le_trans (by rw [W1710.size]; exact (by rw [W1704.size]; exact (Nat.le_trans (by rw [W1687.size]; exact (Nat.le_trans (Nat.le_trans (by rw [W1661.size]; exact (by rw [W1655.size]; exact (Nat.le_trans (by rw [W1638.size]; exact (Nat.le_trans (Nat.le_refl _) E1631.1)) E1647.1))) E1670.1) E1679.1)) E1696.1))) E2118.1) K2135.1) E2160.1) K2173.1)), x2196.lt⟩ all0))))))))))
      refine own_callIW CW SW2227 rfl (own_wd hw 40 rfl) (own_wd hw 41 rfl) (own_wd hw 39 rfl) (own_wd hw 42 rfl) (by decide) (own_ns l Z a0 hw hEL wS G1 G3 a2193 a2116 t2138 k2139 (1 : Int32) ([(.int y1607.toInt8.toInt32)]) ([y1607] : List Int32) h2192 n0 f2207 g2209 f2199 f2200 f2203 f2204 f2206 x2196 f2198 O2 O4 P5 rG3 hcd2151 hp2123 (Nat.le_of_ble_eq_true rfl) (by simp) hne2154 (by simp)) all0 1 (by decide) (by decide) [(.ref a2116)] [(.ref a2193)] rfl own_pd7 rfl rfl rfl (Nat.le_of_ble_eq_true rfl) (by decide) (by decide) (by decide +kernel) ?_
      rintro T2228 h2229 v2230 SW2231 hg2232 ⟨rfl, K2210, f2211, f2212⟩
      replace SW2231 : own_SW p l e room_1 s m #[(.int i0), (.int i1), (.int i2), (.int i3), (.int i4)] below meth c n0 Z own_EL "com/example/nearfar_cache/nearfarcache/redis/RedisKeysOfPinLaw" T2228 h2229 [a1628, a1644, a1667, a1676, a1693, a2116, t2138, a2158, t2176, a2193] 14 70 := SW2231
      show own_Go p e below _ T2228 (mkF m 189 #[.val (.int i0), .val (.int i1), .val (.int i2), .val (.int i3), .val (.int i4), .val (.int (1 : Int32)), .val (.int (2 : Int32)), .val (.int y1607), .val (.int y1616), .val (.int (i2 &&& (255 : Int32))), .val (.int (i3 &&& (255 : Int32))), .val (.ref a1628), .val (.ref a1644), .val (.ref a1667), .val (.ref a1676), .val (.ref a1693), .val (.ref a2116), .val (.ref a2158), .unset, .unset] [(.ref a2193)])
      refine own_lift CW SW2231 ?_
      intro vm2233 C S2234 rb2235
      refine own_seg C S2234 [(189, .astore 18, 2), (191, .aload 18, 2), (193, .aload 17, 2)] (by decide +kernel) 195 #[.val (.int i0), .val (.int i1), .val (.int i2), .val (.int i3), .val (.int i4), .val (.int (1 : Int32)), .val (.int (2 : Int32)), .val (.int y1607), .val (.int y1616), .val (.int (i2 &&& (255 : Int32))), .val (.int (i3 &&& (255 : Int32))), .val (.ref a1628), .val (.ref a1644), .val (.ref a1667), .val (.ref a1676), .val (.ref a1693), .val (.ref a2116), .val (.ref a2158), .val (.ref a2193), .unset] [(.ref a2158), (.ref a2193)] rfl ?_
      have f2236 : Old Z n0 h2229 := (f2199.keep K2210 (allS g2209 all0))
      have f2237 : Exa Z h2229 a2116 "java/lang/String" := (f2200.keep K2210)
      have f2238 : a2116 < h2184.size := (Nat.lt_of_lt_of_le (Nat.lt_of_lt_of_le f2201 E2160.1) K2173.1)
      have n2239 : a2116 ≠ a2193 := by rw [g2194]; exact Nat.ne_of_lt f2238
      have f2240 : Fld Z h2229 a2116 "java/lang/String" "value" "[B" (.ref t2138) := (f2203.keep K2210 (ninS n2239 nin0))
      have f2241 : Fld Z h2229 a2116 "java/lang/String" "coder" "B" (.int 0) := (f2204.keep K2210 (ninS n2239 nin0))
      have f2242 : t2138 < h2184.size := (Nat.lt_of_lt_of_le (Nat.lt_of_lt_of_le f2150.lt E2160.1) K2173.1)
      have n2243 : t2138 ≠ a2193 := by rw [g2194]; exact Nat.ne_of_lt f2242
      have f2244 : Arv Z h2229 t2138 k2139 .byte (1 : Int32) ([(.int y1607.toInt8.toInt32)]) (.int 0) := (f2206.keep K2210 (ninS n2243 nin0))
      have f2245 : Exa Z h2229 a2158 "java/lang/String" := ((Exa.ext E2195 x2174).keep K2210)
      have f2246 : a2158 < h2184.size := (Nat.lt_of_lt_of_le f2164.lt K2173.1)
      have n2247 : a2158 ≠ a2193 := by rw [g2194]; exact Nat.ne_of_lt f2246
      have f2248 : Fld Z h2229 a2158 "java/lang/String" "value" "[B" (.ref t2176) := ((Fld.ext E2195 f2181).keep K2210 (ninS n2247 nin0))
      have f2249 : Fld Z h2229 a2158 "java/lang/String" "coder" "B" (.int 0) := ((Fld.ext E2195 f2175).keep K2210 (ninS n2247 nin0))
      have n2250 : t2176 ≠ a2193 := by rw [g2194]; exact Nat.ne_of_lt f2188.lt
      have f2251 : Arv Z h2229 t2176 k2177 .byte (2 : Int32) ([(.int ((i2 &&& (255 : Int32)).toInt8.toInt32)), (.int ((i3 &&& (255 : Int32)).toInt8.toInt32))]) (.int 0) := ((f2188.ext E2195).keep K2210 (ninS n2250 nin0))
      have f2252 : n0 ≤ h2229.size := (Nat.le_trans f2207 K2210.1)
      have SW2268 : own_SW p l e room_1 s m #[(.int i0), (.int i1), (.int i2), (.int i3), (.int i4)] below meth c n0 Z own_EL "com/example/nearfar_cache/nearfarcache/redis/RedisKeysOfPinLaw" T2228 h2229 [a1628, a1644, a1667, a1676, a1693, a2116, t2138, a2158, t2176, a2193] 14 70 := rb2235 _ _ _ _ [] [] S2234 (Keep.refl _ _) all0 all0
      refine own_callSW CW SW2268 (own_wd hw 113 rfl) (own_wd hw 114 rfl) (own_wd hw 115 rfl) (own_wd hw 116 rfl) (by decide) (own_of12 l Z a0 hw hEL wS G1 G3 a2193 a2116 t2138 k2139 y1607 a2158 t2176 k2177 (i2 &&& (255 : Int32)) (i3 &&& (255 : Int32)) h2229 n0 f2252 f2236 f2211 f2212 f2237 f2240 f2241 f2244 f2245 f2248 f2249 f2251 O2 O4 P5 rG3 p1609.1 ((own_Ch.of i2).1) ((own_Ch.of i3).1)) all0 0 (by decide) (by decide) [(.ref a2193), (.ref a2158)] [] rfl own_pd28 rfl rfl rfl (Nat.le_of_ble_eq_true rfl) (by decide) (by decide) (by decide +kernel) ?_
      rintro T2269 h2270 v2271 SW2272 hg2273 ⟨a2253, a2254, k2255, rfl, g2256, g2257, K2258, f2259, f2260, f2261, f2262⟩
      replace SW2272 : own_SW p l e room_1 s m #[(.int i0), (.int i1), (.int i2), (.int i3), (.int i4)] below meth c n0 Z own_EL "com/example/nearfar_cache/nearfarcache/redis/RedisKeysOfPinLaw" T2269 h2270 [a1628, a1644, a1667, a1676, a1693, a2116, t2138, a2158, t2176, a2193] 22 214 := SW2272
      show own_Go p e below _ T2269 (mkF m 198 #[.val (.int i0), .val (.int i1), .val (.int i2), .val (.int i3), .val (.int i4), .val (.int (1 : Int32)), .val (.int (2 : Int32)), .val (.int y1607), .val (.int y1616), .val (.int (i2 &&& (255 : Int32))), .val (.int (i3 &&& (255 : Int32))), .val (.ref a1628), .val (.ref a1644), .val (.ref a1667), .val (.ref a1676), .val (.ref a1693), .val (.ref a2116), .val (.ref a2158), .val (.ref a2193), .unset] [(.ref a2253)])
      have hp2274 : ∀ c ∈ ([y1607, (58 : Int32), (i2 &&& (255 : Int32)), (i3 &&& (255 : Int32))] : List Int32), ¬ c < 0 ∧ ¬ (255 : Int32) < c := by
        intro c hc; simp only [List.mem_cons, List.not_mem_nil, or_false] at hc
        rcases hc with rfl | rfl | rfl | rfl
        · exact p1609.1
        · exact (by decide)
        · exact (own_Ch.of i2).1
        · exact (own_Ch.of i3).1
      have hcd2275 : StrChars.Road.CodA ([y1607, (58 : Int32), (i2 &&& (255 : Int32)), (i3 &&& (255 : Int32))] : List Int32) 0 (4 : Int32) [(.int y1607.toInt8.toInt32), (.int (58 : Int32)), (.int (i2 &&& (255 : Int32)).toInt8.toInt32), (.int (i3 &&& (255 : Int32)).toInt8.toInt32)] := StrChars.Road.codOf (cs := ([y1607, (58 : Int32), (i2 &&& (255 : Int32)), (i3 &&& (255 : Int32))] : List Int32)) (n := 4) rfl (fun c hc => (hp2274 c hc).2)
      refine own_lift CW SW2272 ?_
      intro vm2276 C S2277 rb2278
      refine own_seg C S2277 [(198, .astore 19, 2), (200, .aload 19, 2)] (by decide +kernel) 202 #[.val (.int i0), .val (.int i1), .val (.int i2), .val (.int i3), .val (.int i4), .val (.int (1 : Int32)), .val (.int (2 : Int32)), .val (.int y1607), .val (.int y1616), .val (.int (i2 &&& (255 : Int32))), .val (.int (i3 &&& (255 : Int32))), .val (.ref a1628), .val (.ref a1644), .val (.ref a1667), .val (.ref a1676), .val (.ref a1693), .val (.ref a2116), .val (.ref a2158), .val (.ref a2193), .val (.ref a2253)] [(.ref a2253)] rfl ?_
      have f2279 : Old Z n0 h2270 := (f2236.keep K2258 all0)
      refine own_callV C S2277 (own_wd hw 236 rfl) (own_wd hw 75 rfl) (own_wd hw 77 rfl) (y' := ⟨"java/lang/String", "length", "()I"⟩) rfl (own_wd hw 77 rfl) (own_wd hw 76 rfl) (by decide) (Q := (fun v h' L => v = some (.int (Int32.ofNat (([y1607, (58 : Int32), (i2 &&& (255 : Int32)), (i3 &&& (255 : Int32))] : List Int32)).length)) ∧ L = [] ∧ h' = h2270)) (StrChars.Road.lenW (W := 0) C.2.2.2.2.2.2.2 (fun d hd => hw d (own_hln d hd)) (kI := 4) (own_wd hw 6 rfl) f2259 f2261 f2260 f2262 hcd2275 (own_up _ hp2274) (O2.ext f2279.2) P5 (Nat.le_of_ble_eq_true rfl) (by decide) (by decide)) (fun _ _ L q => by rw [q.2.1]; exact Fr.nil _) f2259 [] [] rfl own_pd4 rfl rfl rfl (Nat.le_of_ble_eq_true rfl) (by decide) (by decide) (by decide +kernel) ?_
      rintro T2281 h2282 v2283 L2284 S2285 ⟨rfl, -, e2280⟩
      replace S2285 : own_S p l e room_1 (s.setVm vm2276) m #[(.int i0), (.int i1), (.int i2), (.int i3), (.int i4)] below meth c n0 T2281 h2282 22 214 := S2285
      rw [e2280] at S2285; clear e2280
      show own_Go p e below _ T2281 (mkF m 205 #[.val (.int i0), .val (.int i1), .val (.int i2), .val (.int i3), .val (.int i4), .val (.int (1 : Int32)), .val (.int (2 : Int32)), .val (.int y1607), .val (.int y1616), .val (.int (i2 &&& (255 : Int32))), .val (.int (i3 &&& (255 : Int32))), .val (.ref a1628), .val (.ref a1644), .val (.ref a1667), .val (.ref a1676), .val (.ref a1693), .val (.ref a2116), .val (.ref a2158), .val (.ref a2193), .val (.ref a2253)] [(.int (4 : Int32))])
      refine own_seg C S2285 [(205, .iload 5, 2), (207, .iconst 1, 1), (208, .iadd, 1), (209, .iload 6, 2), (211, .iadd, 1)] (by decide +kernel) 212 #[.val (.int i0), .val (.int i1), .val (.int i2), .val (.int i3), .val (.int i4), .val (.int (1 : Int32)), .val (.int (2 : Int32)), .val (.int y1607), .val (.int y1616), .val (.int (i2 &&& (255 : Int32))), .val (.int (i3 &&& (255 : Int32))), .val (.ref a1628), .val (.ref a1644), .val (.ref a1667), .val (.ref a1676), .val (.ref a1693), .val (.ref a2116), .val (.ref a2158), .val (.ref a2193), .val (.ref a2253)] [(.int (((1 : Int32) + (1 : Int32)) + (2 : Int32))), (.int (4 : Int32))] rfl ?_
      refine own_icmp C S2285 (q := .eq) (o := 5) (by decide +kernel) 217 (by decide) (by decide) (fun (q2286 : (4 : Int32) = (((1 : Int32) + (1 : Int32)) + (2 : Int32))) => ?_) (fun (hq : ¬ (4 : Int32) = (((1 : Int32) + (1 : Int32)) + (2 : Int32))) => False.elim (by revert hq; decide))
      refine own_seg C S2285 [(217, .aload 19, 2), (219, .iconst 0, 1)] (by decide +kernel) 220 #[.val (.int i0), .val (.int i1), .val (.int i2), .val (.int i3), .val (.int i4), .val (.int (1 : Int32)), .val (.int (2 : Int32)), .val (.int y1607), .val (.int y1616), .val (.int (i2 &&& (255 : Int32))), .val (.int (i3 &&& (255 : Int32))), .val (.ref a1628), .val (.ref a1644), .val (.ref a1667), .val (.ref a1676), .val (.ref a1693), .val (.ref a2116), .val (.ref a2158), .val (.ref a2193), .val (.ref a2253)] [(.int (0 : Int32)), (.ref a2253)] rfl ?_
      refine own_callV C S2285 (own_wd hw 237 rfl) (own_wd hw 238 rfl) (own_wd hw 240 rfl) (y' := ⟨"java/lang/String", "charAt", "(I)C"⟩) rfl (own_wd hw 240 rfl) (own_wd hw 239 rfl) (by decide) (Q := (fun v h' L => v = some (.int ((([y1607, (58 : Int32), (i2 &&& (255 : Int32)), (i3 &&& (255 : Int32))] : List Int32)).getD 0 0)) ∧ L = [] ∧ h' = h2270)) (StrChars.Road.chN (W := 0) C.2.2.2.2.2.2.2 (fun d hd => hw d (own_hch d hd)) (kI := 4) (own_wd hw 6 rfl) f2259 f2261 f2260 f2262 hcd2275 (own_up _ hp2274) (O2.ext f2279.2) P5 (O4.ext f2279.2) rG3 (Nat.le_of_ble_eq_true rfl) (i := 0) (Nat.le_of_ble_eq_true rfl) rfl (by decide) (by decide)) (fun _ _ L q => by rw [q.2.1]; exact Fr.nil _) f2259 [(.int (0 : Int32))] [] rfl own_pd26 rfl rfl rfl (Nat.le_of_ble_eq_true rfl) (by decide) (by decide) (by decide +kernel) ?_
      rintro T2288 h2289 v2290 L2291 S2292 ⟨rfl, -, e2287⟩
      replace S2292 : own_S p l e room_1 (s.setVm vm2276) m #[(.int i0), (.int i1), (.int i2), (.int i3), (.int i4)] below meth c n0 T2288 h2289 22 214 := S2292
      rw [e2287] at S2292; clear e2287
      show own_Go p e below _ T2288 (mkF m 223 #[.val (.int i0), .val (.int i1), .val (.int i2), .val (.int i3), .val (.int i4), .val (.int (1 : Int32)), .val (.int (2 : Int32)), .val (.int y1607), .val (.int y1616), .val (.int (i2 &&& (255 : Int32))), .val (.int (i3 &&& (255 : Int32))), .val (.ref a1628), .val (.ref a1644), .val (.ref a1667), .val (.ref a1676), .val (.ref a1693), .val (.ref a2116), .val (.ref a2158), .val (.ref a2193), .val (.ref a2253)] [(.int y1607)])
      refine own_seg C S2292 [(223, .iload 7, 2)] (by decide +kernel) 225 #[.val (.int i0), .val (.int i1), .val (.int i2), .val (.int i3), .val (.int i4), .val (.int (1 : Int32)), .val (.int (2 : Int32)), .val (.int y1607), .val (.int y1616), .val (.int (i2 &&& (255 : Int32))), .val (.int (i3 &&& (255 : Int32))), .val (.ref a1628), .val (.ref a1644), .val (.ref a1667), .val (.ref a1676), .val (.ref a1693), .val (.ref a2116), .val (.ref a2158), .val (.ref a2193), .val (.ref a2253)] [(.int y1607), (.int y1607)] rfl ?_
      refine own_icmp C S2292 (q := .eq) (o := 5) (by decide +kernel) 230 (by decide) (by decide) (fun (q2293 : y1607 = y1607) => ?_) (fun (hq : ¬ y1607 = y1607) => False.elim (hq rfl))
      refine own_seg C S2292 [(230, .iload 5, 2), (232, .iconst 2, 1)] (by decide +kernel) 233 #[.val (.int i0), .val (.int i1), .val (.int i2), .val (.int i3), .val (.int i4), .val (.int (1 : Int32)), .val (.int (2 : Int32)), .val (.int y1607), .val (.int y1616), .val (.int (i2 &&& (255 : Int32))), .val (.int (i3 &&& (255 : Int32))), .val (.ref a1628), .val (.ref a1644), .val (.ref a1667), .val (.ref a1676), .val (.ref a1693), .val (.ref a2116), .val (.ref a2158), .val (.ref a2193), .val (.ref a2253)] [(.int (2 : Int32)), (.int (1 : Int32))] rfl ?_
      refine own_icmp C S2292 (q := .ne) (o := 16) (by decide +kernel) 249 (by decide) (by decide) (fun (q2294 : ¬ (1 : Int32) = (2 : Int32)) => ?_) (fun (hq : (1 : Int32) = (2 : Int32)) => False.elim (by revert hq; decide))
      refine own_seg C S2292 [(249, .aload 19, 2), (251, .iload 5, 2)] (by decide +kernel) 253 #[.val (.int i0), .val (.int i1), .val (.int i2), .val (.int i3), .val (.int i4), .val (.int (1 : Int32)), .val (.int (2 : Int32)), .val (.int y1607), .val (.int y1616), .val (.int (i2 &&& (255 : Int32))), .val (.int (i3 &&& (255 : Int32))), .val (.ref a1628), .val (.ref a1644), .val (.ref a1667), .val (.ref a1676), .val (.ref a1693), .val (.ref a2116), .val (.ref a2158), .val (.ref a2193), .val (.ref a2253)] [(.int (1 : Int32)), (.ref a2253)] rfl ?_
      refine own_callV C S2292 (own_wd hw 237 rfl) (own_wd hw 238 rfl) (own_wd hw 240 rfl) (y' := ⟨"java/lang/String", "charAt", "(I)C"⟩) rfl (own_wd hw 240 rfl) (own_wd hw 239 rfl) (by decide) (Q := (fun v h' L => v = some (.int ((([y1607, (58 : Int32), (i2 &&& (255 : Int32)), (i3 &&& (255 : Int32))] : List Int32)).getD 1 0)) ∧ L = [] ∧ h' = h2270)) (StrChars.Road.chN (W := 0) C.2.2.2.2.2.2.2 (fun d hd => hw d (own_hch d hd)) (kI := 4) (own_wd hw 6 rfl) f2259 f2261 f2260 f2262 hcd2275 (own_up _ hp2274) (O2.ext f2279.2) P5 (O4.ext f2279.2) rG3 (Nat.le_of_ble_eq_true rfl) (i := 1) (Nat.le_of_ble_eq_true rfl) rfl (by decide) (by decide)) (fun _ _ L q => by rw [q.2.1]; exact Fr.nil _) f2259 [(.int (1 : Int32))] [] rfl own_pd26 rfl rfl rfl (Nat.le_of_ble_eq_true rfl) (by decide) (by decide) (by decide +kernel) ?_
      rintro T2296 h2297 v2298 L2299 S2300 ⟨rfl, -, e2295⟩
      replace S2300 : own_S p l e room_1 (s.setVm vm2276) m #[(.int i0), (.int i1), (.int i2), (.int i3), (.int i4)] below meth c n0 T2296 h2297 22 214 := S2300
      rw [e2295] at S2300; clear e2295
      show own_Go p e below _ T2296 (mkF m 256 #[.val (.int i0), .val (.int i1), .val (.int i2), .val (.int i3), .val (.int i4), .val (.int (1 : Int32)), .val (.int (2 : Int32)), .val (.int y1607), .val (.int y1616), .val (.int (i2 &&& (255 : Int32))), .val (.int (i3 &&& (255 : Int32))), .val (.ref a1628), .val (.ref a1644), .val (.ref a1667), .val (.ref a1676), .val (.ref a1693), .val (.ref a2116), .val (.ref a2158), .val (.ref a2193), .val (.ref a2253)] [(.int (58 : Int32))])
      refine own_seg C S2300 [(256, .bipush 58, 2)] (by decide +kernel) 258 #[.val (.int i0), .val (.int i1), .val (.int i2), .val (.int i3), .val (.int i4), .val (.int (1 : Int32)), .val (.int (2 : Int32)), .val (.int y1607), .val (.int y1616), .val (.int (i2 &&& (255 : Int32))), .val (.int (i3 &&& (255 : Int32))), .val (.ref a1628), .val (.ref a1644), .val (.ref a1667), .val (.ref a1676), .val (.ref a1693), .val (.ref a2116), .val (.ref a2158), .val (.ref a2193), .val (.ref a2253)] [(.int (58 : Int32)), (.int (58 : Int32))] rfl ?_
      refine own_icmp C S2300 (q := .eq) (o := 5) (by decide +kernel) 263 (by decide) (by decide) (fun (q2301 : (58 : Int32) = (58 : Int32)) => ?_) (fun (hq : ¬ (58 : Int32) = (58 : Int32)) => False.elim (by revert hq; decide))
      refine own_seg C S2300 [(263, .iload 6, 2), (265, .iconst 1, 1)] (by decide +kernel) 266 #[.val (.int i0), .val (.int i1), .val (.int i2), .val (.int i3), .val (.int i4), .val (.int (1 : Int32)), .val (.int (2 : Int32)), .val (.int y1607), .val (.int y1616), .val (.int (i2 &&& (255 : Int32))), .val (.int (i3 &&& (255 : Int32))), .val (.ref a1628), .val (.ref a1644), .val (.ref a1667), .val (.ref a1676), .val (.ref a1693), .val (.ref a2116), .val (.ref a2158), .val (.ref a2193), .val (.ref a2253)] [(.int (1 : Int32)), (.int (2 : Int32))] rfl ?_
      refine own_icmp C S2300 (q := .lt) (o := 19) (by decide +kernel) 285 (by decide) (by decide) (fun (hq : (2 : Int32) < (1 : Int32)) => False.elim (by revert hq; decide)) (fun (q2302 : ¬ (2 : Int32) < (1 : Int32)) => ?_)
      refine own_seg C S2300 [(269, .aload 19, 2), (271, .iload 5, 2), (273, .iconst 1, 1), (274, .iadd, 1)] (by decide +kernel) 275 #[.val (.int i0), .val (.int i1), .val (.int i2), .val (.int i3), .val (.int i4), .val (.int (1 : Int32)), .val (.int (2 : Int32)), .val (.int y1607), .val (.int y1616), .val (.int (i2 &&& (255 : Int32))), .val (.int (i3 &&& (255 : Int32))), .val (.ref a1628), .val (.ref a1644), .val (.ref a1667), .val (.ref a1676), .val (.ref a1693), .val (.ref a2116), .val (.ref a2158), .val (.ref a2193), .val (.ref a2253)] [(.int ((1 : Int32) + (1 : Int32))), (.ref a2253)] rfl ?_
      refine own_callV C S2300 (own_wd hw 237 rfl) (own_wd hw 238 rfl) (own_wd hw 240 rfl) (y' := ⟨"java/lang/String", "charAt", "(I)C"⟩) rfl (own_wd hw 240 rfl) (own_wd hw 239 rfl) (by decide) (Q := (fun v h' L => v = some (.int ((([y1607, (58 : Int32), (i2 &&& (255 : Int32)), (i3 &&& (255 : Int32))] : List Int32)).getD 2 0)) ∧ L = [] ∧ h' = h2270)) (StrChars.Road.chN (W := 0) C.2.2.2.2.2.2.2 (fun d hd => hw d (own_hch d hd)) (kI := 4) (own_wd hw 6 rfl) f2259 f2261 f2260 f2262 hcd2275 (own_up _ hp2274) (O2.ext f2279.2) P5 (O4.ext f2279.2) rG3 (Nat.le_of_ble_eq_true rfl) (i := 2) (Nat.le_of_ble_eq_true rfl) rfl (by decide) (by decide)) (fun _ _ L q => by rw [q.2.1]; exact Fr.nil _) f2259 [(.int ((1 : Int32) + (1 : Int32)))] [] rfl own_pd26 rfl rfl rfl (Nat.le_of_ble_eq_true rfl) (by decide) (by decide) (by decide +kernel) ?_
      rintro T2304 h2305 v2306 L2307 S2308 ⟨rfl, -, e2303⟩
      replace S2308 : own_S p l e room_1 (s.setVm vm2276) m #[(.int i0), (.int i1), (.int i2), (.int i3), (.int i4)] below meth c n0 T2304 h2305 22 214 := S2308
      rw [e2303] at S2308; clear e2303
      show own_Go p e below _ T2304 (mkF m 278 #[.val (.int i0), .val (.int i1), .val (.int i2), .val (.int i3), .val (.int i4), .val (.int (1 : Int32)), .val (.int (2 : Int32)), .val (.int y1607), .val (.int y1616), .val (.int (i2 &&& (255 : Int32))), .val (.int (i3 &&& (255 : Int32))), .val (.ref a1628), .val (.ref a1644), .val (.ref a1667), .val (.ref a1676), .val (.ref a1693), .val (.ref a2116), .val (.ref a2158), .val (.ref a2193), .val (.ref a2253)] [(.int (i2 &&& (255 : Int32)))])
      refine own_seg C S2308 [(278, .iload 9, 2)] (by decide +kernel) 280 #[.val (.int i0), .val (.int i1), .val (.int i2), .val (.int i3), .val (.int i4), .val (.int (1 : Int32)), .val (.int (2 : Int32)), .val (.int y1607), .val (.int y1616), .val (.int (i2 &&& (255 : Int32))), .val (.int (i3 &&& (255 : Int32))), .val (.ref a1628), .val (.ref a1644), .val (.ref a1667), .val (.ref a1676), .val (.ref a1693), .val (.ref a2116), .val (.ref a2158), .val (.ref a2193), .val (.ref a2253)] [(.int (i2 &&& (255 : Int32))), (.int (i2 &&& (255 : Int32)))] rfl ?_
      refine own_icmp C S2308 (q := .eq) (o := 5) (by decide +kernel) 285 (by decide) (by decide) (fun (q2309 : (i2 &&& (255 : Int32)) = (i2 &&& (255 : Int32))) => ?_) (fun (hq : ¬ (i2 &&& (255 : Int32)) = (i2 &&& (255 : Int32))) => False.elim (hq rfl))
      refine own_seg C S2308 [(285, .iload 6, 2), (287, .iconst 2, 1)] (by decide +kernel) 288 #[.val (.int i0), .val (.int i1), .val (.int i2), .val (.int i3), .val (.int i4), .val (.int (1 : Int32)), .val (.int (2 : Int32)), .val (.int y1607), .val (.int y1616), .val (.int (i2 &&& (255 : Int32))), .val (.int (i3 &&& (255 : Int32))), .val (.ref a1628), .val (.ref a1644), .val (.ref a1667), .val (.ref a1676), .val (.ref a1693), .val (.ref a2116), .val (.ref a2158), .val (.ref a2193), .val (.ref a2253)] [(.int (2 : Int32)), (.int (2 : Int32))] rfl ?_
      refine own_icmp C S2308 (q := .ne) (o := 19) (by decide +kernel) 307 (by decide) (by decide) (fun (hq : ¬ (2 : Int32) = (2 : Int32)) => False.elim (by revert hq; decide)) (fun (q2310 : (2 : Int32) = (2 : Int32)) => ?_)
      refine own_seg C S2308 [(291, .aload 19, 2), (293, .iload 5, 2), (295, .iconst 2, 1), (296, .iadd, 1)] (by decide +kernel) 297 #[.val (.int i0), .val (.int i1), .val (.int i2), .val (.int i3), .val (.int i4), .val (.int (1 : Int32)), .val (.int (2 : Int32)), .val (.int y1607), .val (.int y1616), .val (.int (i2 &&& (255 : Int32))), .val (.int (i3 &&& (255 : Int32))), .val (.ref a1628), .val (.ref a1644), .val (.ref a1667), .val (.ref a1676), .val (.ref a1693), .val (.ref a2116), .val (.ref a2158), .val (.ref a2193), .val (.ref a2253)] [(.int ((1 : Int32) + (2 : Int32))), (.ref a2253)] rfl ?_
      refine own_callV C S2308 (own_wd hw 237 rfl) (own_wd hw 238 rfl) (own_wd hw 240 rfl) (y' := ⟨"java/lang/String", "charAt", "(I)C"⟩) rfl (own_wd hw 240 rfl) (own_wd hw 239 rfl) (by decide) (Q := (fun v h' L => v = some (.int ((([y1607, (58 : Int32), (i2 &&& (255 : Int32)), (i3 &&& (255 : Int32))] : List Int32)).getD 3 0)) ∧ L = [] ∧ h' = h2270)) (StrChars.Road.chN (W := 0) C.2.2.2.2.2.2.2 (fun d hd => hw d (own_hch d hd)) (kI := 4) (own_wd hw 6 rfl) f2259 f2261 f2260 f2262 hcd2275 (own_up _ hp2274) (O2.ext f2279.2) P5 (O4.ext f2279.2) rG3 (Nat.le_of_ble_eq_true rfl) (i := 3) (Nat.le_of_ble_eq_true rfl) rfl (by decide) (by decide)) (fun _ _ L q => by rw [q.2.1]; exact Fr.nil _) f2259 [(.int ((1 : Int32) + (2 : Int32)))] [] rfl own_pd26 rfl rfl rfl (Nat.le_of_ble_eq_true rfl) (by decide) (by decide) (by decide +kernel) ?_
      rintro T2312 h2313 v2314 L2315 S2316 ⟨rfl, -, e2311⟩
      replace S2316 : own_S p l e room_1 (s.setVm vm2276) m #[(.int i0), (.int i1), (.int i2), (.int i3), (.int i4)] below meth c n0 T2312 h2313 22 214 := S2316
      rw [e2311] at S2316; clear e2311
      show own_Go p e below _ T2312 (mkF m 300 #[.val (.int i0), .val (.int i1), .val (.int i2), .val (.int i3), .val (.int i4), .val (.int (1 : Int32)), .val (.int (2 : Int32)), .val (.int y1607), .val (.int y1616), .val (.int (i2 &&& (255 : Int32))), .val (.int (i3 &&& (255 : Int32))), .val (.ref a1628), .val (.ref a1644), .val (.ref a1667), .val (.ref a1676), .val (.ref a1693), .val (.ref a2116), .val (.ref a2158), .val (.ref a2193), .val (.ref a2253)] [(.int (i3 &&& (255 : Int32)))])
      refine own_seg C S2316 [(300, .iload 10, 2)] (by decide +kernel) 302 #[.val (.int i0), .val (.int i1), .val (.int i2), .val (.int i3), .val (.int i4), .val (.int (1 : Int32)), .val (.int (2 : Int32)), .val (.int y1607), .val (.int y1616), .val (.int (i2 &&& (255 : Int32))), .val (.int (i3 &&& (255 : Int32))), .val (.ref a1628), .val (.ref a1644), .val (.ref a1667), .val (.ref a1676), .val (.ref a1693), .val (.ref a2116), .val (.ref a2158), .val (.ref a2193), .val (.ref a2253)] [(.int (i3 &&& (255 : Int32))), (.int (i3 &&& (255 : Int32)))] rfl ?_
      refine own_icmp C S2316 (q := .eq) (o := 5) (by decide +kernel) 307 (by decide) (by decide) (fun (q2317 : (i3 &&& (255 : Int32)) = (i3 &&& (255 : Int32))) => ?_) (fun (hq : ¬ (i3 &&& (255 : Int32)) = (i3 &&& (255 : Int32))) => False.elim (hq rfl))
      refine own_seg C S2316 [(307, .iconst 1, 1)] (by decide +kernel) 308 #[.val (.int i0), .val (.int i1), .val (.int i2), .val (.int i3), .val (.int i4), .val (.int (1 : Int32)), .val (.int (2 : Int32)), .val (.int y1607), .val (.int y1616), .val (.int (i2 &&& (255 : Int32))), .val (.int (i3 &&& (255 : Int32))), .val (.ref a1628), .val (.ref a1644), .val (.ref a1667), .val (.ref a1676), .val (.ref a1693), .val (.ref a2116), .val (.ref a2158), .val (.ref a2193), .val (.ref a2253)] [(.int (1 : Int32))] rfl ?_
      have SW2318 : own_SW p l e room_1 s m #[(.int i0), (.int i1), (.int i2), (.int i3), (.int i4)] below meth c n0 Z own_EL "com/example/nearfar_cache/nearfarcache/redis/RedisKeysOfPinLaw" T2312 h2270 [a1628, a1644, a1667, a1676, a1693, a2116, t2138, a2158, t2176, a2193] 22 214 := rb2278 _ _ _ _ [] [] S2316 (Keep.refl _ _) all0 all0
      refine own_retZW CW SW2318 (by decide +kernel) (by decide) (by decide) (by decide) ?_
      rfl
  · rw [show ((1 : Int32) + (i4 &&& (1 : Int32))) = (2 : Int32) from qn]
    rcases own_k3 i4 with qk | qk | qk
    · rw [show ((Jvm.Free.XT.ushr i4 (1 : Int32)) % (3 : Int32)) = (0 : Int32) from qk]
      refine own_seg C S1708 [(99, .iload 5, 2), (101, .iconst 1, 1)] (by decide +kernel) 102 #[.val (.int i0), .val (.int i1), .val (.int i2), .val (.int i3), .val (.int i4), .val (.int (2 : Int32)), .val (.int (0 : Int32)), .val (.int y1607), .val (.int y1616), .val (.int (i2 &&& (255 : Int32))), .val (.int (i3 &&& (255 : Int32))), .val (.ref a1628), .val (.ref a1644), .val (.ref a1667), .val (.ref a1676), .val (.ref a1693), .unset, .unset, .unset, .unset] [(.int (1 : Int32)), (.int (2 : Int32))] rfl ?_
      refine own_icmp C S1708 (q := .ne) (o := 17) (by decide +kernel) 119 (by decide) (by decide) (fun (q2319 : ¬ (2 : Int32) = (1 : Int32)) => ?_) (fun (hq : (2 : Int32) = (1 : Int32)) => False.elim (by revert hq; decide))
      refine own_new C S1708 (own_wd hw 5 rfl) (own_wd hw 6 rfl) (own_wd hw 7 rfl) (by decide +kernel) (by decide) (by decide) ?_
      intro T2320 h2322 a2323 S2321 g2324 E2325 x2326 D2327
      have f2328 : Fld Z h2322 a2323 "java/lang/String" "coder" "B" (.int (0 : Int32)) := D2327 (ty := .byte) (Or.inr (own_wd hw 31 rfl)) own_fd1
      have f2329 : Fld Z h2322 a2323 "java/lang/String" "value" "[B" .null := D2327 (ty := (.array .byte)) (Or.inr (own_wd hw 33 rfl)) own_fd0
      refine own_seg C S2321 [(122, .dup, 1), (123, .aload 12, 2)] (by decide +kernel) 125 #[.val (.int i0), .val (.int i1), .val (.int i2), .val (.int i3), .val (.int i4), .val (.int (2 : Int32)), .val (.int (0 : Int32)), .val (.int y1607), .val (.int y1616), .val (.int (i2 &&& (255 : Int32))), .val (.int (i3 &&& (255 : Int32))), .val (.ref a1628), .val (.ref a1644), .val (.ref a1667), .val (.ref a1676), .val (.ref a1693), .unset, .unset, .unset, .unset] [(.ref a1644), (.ref a2323), (.ref a2323)] rfl ?_
      have hp2330 : ∀ c ∈ ([y1607, y1616] : List Int32), ¬ c < 0 ∧ ¬ (255 : Int32) < c := by
        intro c hc; simp only [List.mem_cons, List.not_mem_nil, or_false] at hc
        rcases hc with rfl | rfl
        · exact p1609.1
        · exact p1618.1
      have f2331 : n0 ≤ h2322.size := (Nat.le_trans (by rw [W1710.size]; exact (by rw [W1704.size]; exact (Nat.le_trans f1699 E1696.1))) E2325.1)
      have f2332 : n0 ≤ h1709.size := (by rw [W1710.size]; exact (by rw [W1704.size]; exact (Nat.le_trans f1699 E1696.1)))
      have g2333 : n0 ≤ a2323 := by rw [g2324]; exact f2332
      have f2334 : a1644 < h1666.size := (Nat.lt_of_lt_of_le (by rw [W1661.size]; exact (by rw [W1655.size]; exact f1649.lt)) E1670.1)
      have n2335 : a1644 ≠ a1676 := by rw [g1678]; exact Nat.ne_of_lt f2334
      have f2336 : a1644 < h1686.size := (by rw [W1687.size]; exact (Nat.lt_of_lt_of_le f2334 E1679.1))
      have n2337 : a1644 ≠ a1693 := by rw [g1695]; exact Nat.ne_of_lt f2336
      have f2338 : Arv Z h2322 a1644 k1645 .char (2 : Int32) ([(.int y1607), (.int y1616)]) (.int (0 : Int32)) := (((((((f1663.ext E1670).ext E1679).other W1687 n2335).ext E1696).other W1704 n2337).other W1710 n2337).ext E2325)
      have f2339 : Old Z n0 h2322 := ((((((((((((X00.ext E1631).wr W1638 g1634).ext E1647).wr W1655 g1651).wr W1661 g1651).ext E1670).ext E1679).wr W1687 g1683).ext E1696).wr W1704 g1700).wr W1710 g1700).ext E2325)
      refine own_callI C S2321 rfl (own_wd hw 8 rfl) (own_wd hw 9 rfl) (own_wd hw 10 rfl) (by decide) (StrChars.Road.backV (W := 1) C.2.2.2.2.2.2.2 (fun d hd => hw d (own_hws d hd)) (kI := 4) (own_wd hw 6 rfl) (cs := ([y1607, y1616] : List Int32)) (bs := (([y1607, y1616] : List Int32)).map (fun c => c.toInt8.toInt32)) (n := 2) g2333 f2331 x2326 f2329 f2328 f2338 (O2.ext f2339.2) P5 rfl rfl (by decide) (by decide) hp2330 rfl (by decide) (by decide)) (fun _ _ _ q => q.2.1) [(.ref a1644)] [(.ref a2323)] rfl own_pd27 rfl rfl rfl (Nat.le_of_ble_eq_true rfl) (by decide) (by decide) (by decide +kernel) ?_
      rintro T2350 h2351 v2352 L2353 S2354 ⟨rfl, -, K2340, x2341, f2342, t2343, k2344, g2345, g2346, g2347, f2348, f2349⟩
      replace S2354 : own_S p l e room_1 (s.setVm vm1604) m #[(.int i0), (.int i1), (.int i2), (.int i3), (.int i4)] below meth c n0 T2350 h2351 7 12 := S2354
      have f2355 : Arv Z h2351 t2343 k2344 .byte (2 : Int32) ([(.int y1607.toInt8.toInt32), (.int y1616.toInt8.toInt32)]) (.int 0) := f2349
      have hcd2356 : StrChars.Road.CodA ([y1607, y1616] : List Int32) 0 (2 : Int32) [(.int y1607.toInt8.toInt32), (.int y1616.toInt8.toInt32)] := StrChars.Road.codOf (cs := ([y1607, y1616] : List Int32)) (n := 2) rfl (fun c hc => (hp2330 c hc).2)
      show own_Go p e below _ T2350 (mkF m 128 #[.val (.int i0), .val (.int i1), .val (.int i2), .val (.int i3), .val (.int i4), .val (.int (2 : Int32)), .val (.int (0 : Int32)), .val (.int y1607), .val (.int y1616), .val (.int (i2 &&& (255 : Int32))), .val (.int (i3 &&& (255 : Int32))), .val (.ref a1628), .val (.ref a1644), .val (.ref a1667), .val (.ref a1676), .val (.ref a1693), .unset, .unset, .unset, .unset] [(.ref a2323)])
      refine own_seg C S2354 [(128, .astore 16, 2), (130, .iload 6, 2)] (by decide +kernel) 132 #[.val (.int i0), .val (.int i1), .val (.int i2), .val (.int i3), .val (.int i4), .val (.int (2 : Int32)), .val (.int (0 : Int32)), .val (.int y1607), .val (.int y1616), .val (.int (i2 &&& (255 : Int32))), .val (.int (i3 &&& (255 : Int32))), .val (.ref a1628), .val (.ref a1644), .val (.ref a1667), .val (.ref a1676), .val (.ref a1693), .val (.ref a2323), .unset, .unset, .unset] [(.int (0 : Int32))] rfl ?_
      refine own_if C S2354 (q := .ne) (o := 17) (by decide +kernel) 149 (by decide) (by decide) (fun (hq : ¬ (0 : Int32) = (0 : Int32)) => False.elim (by revert hq; decide)) (fun (q2357 : (0 : Int32) = (0 : Int32)) => ?_)
      have hne2358 : ∀ c ∈ ([y1607, y1616] : List Int32), ¬ c = (58 : Int32) := by
        intro c hc; simp only [List.mem_cons, List.not_mem_nil, or_false] at hc
        rcases hc with rfl | rfl
        · exact p1610
        · exact p1619
      refine own_new C S2354 (own_wd hw 5 rfl) (own_wd hw 6 rfl) (own_wd hw 7 rfl) (by decide +kernel) (by decide) (by decide) ?_
      intro T2359 h2361 a2362 S2360 g2363 E2364 x2365 D2366
      have f2367 : Fld Z h2361 a2362 "java/lang/String" "coder" "B" (.int (0 : Int32)) := D2366 (ty := .byte) (Or.inr (own_wd hw 31 rfl)) own_fd1
      have f2368 : Fld Z h2361 a2362 "java/lang/String" "value" "[B" .null := D2366 (ty := (.array .byte)) (Or.inr (own_wd hw 33 rfl)) own_fd0
      refine own_seg C S2360 [(138, .dup, 1), (139, .aload 13, 2)] (by decide +kernel) 141 #[.val (.int i0), .val (.int i1), .val (.int i2), .val (.int i3), .val (.int i4), .val (.int (2 : Int32)), .val (.int (0 : Int32)), .val (.int y1607), .val (.int y1616), .val (.int (i2 &&& (255 : Int32))), .val (.int (i3 &&& (255 : Int32))), .val (.ref a1628), .val (.ref a1644), .val (.ref a1667), .val (.ref a1676), .val (.ref a1693), .val (.ref a2323), .unset, .unset, .unset] [(.ref a1667), (.ref a2362), (.ref a2362)] rfl ?_
      have f2369 : t2343 < h2361.size := (Nat.lt_of_lt_of_le f2355.lt E2364.1)
      have f2370 : a2323 < h2361.size := (Nat.lt_of_lt_of_le (Nat.lt_of_lt_of_le f2329.lt K2340.1) E2364.1)
      have f2371 : a1693 < h2361.size := (Nat.lt_of_lt_of_le (Nat.lt_of_lt_of_le (Nat.lt_of_lt_of_le (by rw [W1710.size]; exact (by rw [W1704.size]; exact f1698.lt)) E2325.1) K2340.1) E2364.1)
      have f2372 : a1676 < h2361.size := (Nat.lt_of_lt_of_le (Nat.lt_of_lt_of_le (Nat.lt_of_lt_of_le (by rw [W1710.size]; exact (by rw [W1704.size]; exact (Nat.lt_of_lt_of_le (by rw [W1687.size]; exact f1681.lt) E1696.1))) E2325.1) K2340.1) E2364.1)
      have f2373 : a1667 < h2361.size := (Nat.lt_of_lt_of_le (Nat.lt_of_lt_of_le (Nat.lt_of_lt_of_le (by rw [W1710.size]; exact (by rw [W1704.size]; exact (Nat.lt_of_lt_of_le (by rw [W1687.size]; exact (Nat.lt_of_lt_of_le f1672.lt E1679.1)) E1696.1))) E2325.1) K2340.1) E2364.1)
      have f2374 : a1644 < h2361.size := (Nat.lt_of_lt_of_le (Nat.lt_of_lt_of_le (Nat.lt_of_lt_of_le (by rw [W1710.size]; exact (by rw [W1704.size]; exact (Nat.lt_of_lt_of_le f2336 E1696.1))) E2325.1) K2340.1) E2364.1)
      have f2375 : a1628 < h2361.size := (Nat.lt_of_lt_of_le (Nat.lt_of_lt_of_le (Nat.lt_of_lt_of_le (by rw [W1710.size]; exact (by rw [W1704.size]; exact (Nat.lt_of_lt_of_le (by rw [W1687.size]; exact (Nat.lt_of_lt_of_le (Nat.lt_of_lt_of_le (by rw [W1661.size]; exact (by rw [W1655.size]; exact (Nat.lt_of_lt_of_le (by rw [W1638.size]; exact f1633.lt) E1647.1))) E1670.1) E1679.1)) E1696.1))) E2325.1) K2340.1) E2364.1)
      have SW2376 : own_SW p l e room_1 s m #[(.int i0), (.int i1), (.int i2), (.int i3), (.int i4)] below meth c n0 Z own_EL "com/example/nearfar_cache/nearfarcache/redis/RedisKeysOfPinLaw" T2359 h2361 [a1628, a1644, a1667, a1676, a1693, a2323, t2343, a2362] 8 16 := rb1606 _ _ _ _ [] [a1628, a1644, a1667, a1676, a1693, a2323, t2343, a2362] S2360 (((((((((((((((Keep.refl _ _).ext E1631).wr W1638 (Or.inr (by rw [g1630]; exact (Nat.le_refl _)))).ext E1647).wr W1655 (Or.inr (by rw [g1646]; exact (by rw [W1638.size]; exact (Nat.le_trans (Nat.le_refl _) E1631.1))))).wr W1661 (Or.inr (by rw [g1646]; exact (by rw [W1638.size]; exact (Nat.le_trans (Nat.le_refl _) E1631.1))))).ext E1670).ext E1679).wr W1687 (Or.inr (by rw [g1678]; exact (Nat.le_trans (by rw [W1661.size]; exact (by rw [W1655.size]; exact (Nat.le_trans (by rw [W1638.size]; exact (Nat.le_trans (Nat.le_refl _) E1631.1)) E1647.1))) E1670.1)))).ext E1696).wr W1704 (Or.inr (by rw [g1695]; exact (by rw [W1687.size]; exact (Nat.le_trans (Nat.le_trans (by rw [W1661.size]; exact (by rw [W1655.size]; exact (Nat.le_trans (by rw [W1638.size]; exact (Nat.le_trans (Nat.le_refl _) E1631.1)) E1647.1))) E1670.1) E1679.1))))).wr W1710 (Or.inr (by rw [g1695]; exact (by rw [W1687.size]; exact (Nat.le_trans (Nat.le_trans (by rw [W1661.size]; exact (by rw [W1655.size]; exact (Nat.le_trans (by rw [W1638.size]; exact (Nat.le_trans (Nat.le_refl _) E1631.1)) E1647.1))) E1670.1) E1679.1))))).ext E2325).trans K2340 (allS (Or.inr (by rw [g2324]; exact (by rw [W1710.size]; exact (by rw [W1704.size]; exact (Nat.le_trans (by rw [W1687.size]; exact (Nat.le_trans (Nat.le_trans (by rw [W1661.size]; exact (by rw [W1655.size]; exact (Nat.le_trans (by rw [W1638.size]; exact (Nat.le_trans (Nat.le_refl _) E1631.1)) E1647.1))) E1670.1) E1679.1)) E1696.1))))) all0)).ext E2364) all0 (allS ⟨(by rw [g1630]; exact (Nat.le_refl _)), f2375⟩ (allS ⟨(by rw [g1646]; exact (by rw [W1638.size]; exact (Nat.le_trans (Nat.le_refl _) E1631.1))), f2374⟩ (allS ⟨(by rw [g1669]; exact (by rw [W1661.size]; exact (by rw [W1655.size]; exact (Nat.le_trans (by rw [W1638.size]; exact (Nat.le_trans (Nat.le_refl _) E1631.1)) E1647.1)))), f2373⟩ (allS ⟨(by rw [g1678]; exact (Nat.le_trans (by rw [W1661.size]; exact (by rw [W1655.size]; exact (Nat.le_trans (by rw [W1638.size]; exact (Nat.le_trans (Nat.le_refl _) E1631.1)) E1647.1))) E1670.1)), f2372⟩ (allS ⟨(by rw [g1695]; exact (by rw [W1687.size]; exact (Nat.le_trans (Nat.le_trans (by rw [W1661.size]; exact (by rw [W1655.size]; exact (Nat.le_trans (by rw [W1638.size]; exact (Nat.le_trans (Nat.le_refl _) E1631.1)) E1647.1))) E1670.1) E1679.1))), f2371⟩ (allS ⟨(by rw [g2324]; exact (by rw [W1710.size]; exact (by rw [W1704.size]; exact (Nat.le_trans (by rw [W1687.size]; exact (Nat.le_trans (Nat.le_trans (by rw [W1661.size]; exact (by rw [W1655.size]; exact (Nat.le_trans (by rw [W1638.size]; exact (Nat.le_trans (Nat.le_refl _) E1631.1)) E1647.1))) E1670.1) E1679.1)) E1696.1)))), f2370⟩ (allS ⟨(Nat.le_trans (Nat.le_trans (by rw [W1710.size]; exact (by rw [W1704.size]; exact (Nat.le_trans (by rw [W1687.size]; exact (Nat.le_trans (Nat.le_trans (by rw [W1661.size]; exact (by rw [W1655.size]; exact (Nat.le_trans (by rw [W1638.size]; exact (Nat.le_trans (Nat.le_refl _) E1631.1)) E1647.1))) E1670.1) E1679.1)) E1696.1))) E2325.1) g2346), f2369⟩ (allS ⟨(by rw [g2363]; exact (Nat.le_trans (Nat.le_trans (by rw [W1710.size]; exact (by rw [W1704.size]; exact (Nat.le_trans (by rw [W1687.size]; exact (Nat.le_trans (Nat.le_trans (by rw [W1661.size]; exact (by rw [W1655.size]; exact (Nat.le_trans (by rw [W1638.size]; exact (Nat.le_trans (Nat.le_refl _) E1631.1)) E1647.1))) E1670.1) E1679.1)) E1696.1))) E2325.1) K2340.1)), x2365.lt⟩ all0))))))))
      have n2377 : a1667 ≠ a1676 := by rw [g1678]; exact Nat.ne_of_lt f1672.lt
      have f2378 : a1667 < h1686.size := (by rw [W1687.size]; exact (Nat.lt_of_lt_of_le f1672.lt E1679.1))
      have n2379 : a1667 ≠ a1693 := by rw [g1695]; exact Nat.ne_of_lt f2378
      have f2380 : a1667 < h1709.size := (by rw [W1710.size]; exact (by rw [W1704.size]; exact (Nat.lt_of_lt_of_le f2378 E1696.1)))
      have n2381 : a1667 ≠ a2323 := by rw [g2324]; exact Nat.ne_of_lt f2380
      have f2382 : Arv Z h2361 a1667 k1668 .char (0 : Int32) ([]) (.int (0 : Int32)) := ((((((((f1672.ext E1679).other W1687 n2377).ext E1696).other W1704 n2379).other W1710 n2379).ext E2325).keep K2340 (ninS n2381 nin0)).ext E2364)
      have f2383 : n0 ≤ h2361.size := (Nat.le_trans (Nat.le_trans f2331 K2340.1) E2364.1)
      have f2384 : n0 ≤ h2351.size := (Nat.le_trans f2331 K2340.1)
      have g2385 : n0 ≤ a2362 := by rw [g2363]; exact f2384
      refine own_callIW CW SW2376 rfl (own_wd hw 8 rfl) (own_wd hw 9 rfl) (own_wd hw 7 rfl) (own_wd hw 10 rfl) (by decide) (own_se1 l Z a0 hw hEL wS a2362 a1667 k1668 ([]) (.int (0 : Int32)) h2361 n0 f2383 g2385 x2365 f2368 f2367 f2382) (allS (List.mem_of_getElem? (i := 7) rfl) all0) 1 (by decide) (by decide) [(.ref a1667)] [(.ref a2362)] rfl own_pd27 rfl rfl rfl (Nat.le_of_ble_eq_true rfl) (by decide) (by decide) (by decide +kernel) ?_
      rintro T2398 h2399 v2400 SW2401 hg2402 ⟨a2386, k2387, rfl, K2388, f2389, f2390, f2391, f2392⟩
      replace SW2401 : own_SW p l e room_1 s m #[(.int i0), (.int i1), (.int i2), (.int i3), (.int i4)] below meth c n0 Z own_EL "com/example/nearfar_cache/nearfarcache/redis/RedisKeysOfPinLaw" T2398 h2399 [a1628, a1644, a1667, a1676, a1693, a2323, t2343, a2362] 12 24 := SW2401
      show own_Go p e below _ T2398 (mkF m 144 #[.val (.int i0), .val (.int i1), .val (.int i2), .val (.int i3), .val (.int i4), .val (.int (2 : Int32)), .val (.int (0 : Int32)), .val (.int y1607), .val (.int y1616), .val (.int (i2 &&& (255 : Int32))), .val (.int (i3 &&& (255 : Int32))), .val (.ref a1628), .val (.ref a1644), .val (.ref a1667), .val (.ref a1676), .val (.ref a1693), .val (.ref a2323), .unset, .unset, .unset] [(.ref a2362)])
      have hp2403 : ∀ c ∈ ([] : List Int32), ¬ c < 0 ∧ ¬ (255 : Int32) < c := by
        intro c hc; cases hc
      have hcd2404 : StrChars.Road.CodA ([] : List Int32) 0 (0 : Int32) [] := StrChars.Road.codOf (cs := ([] : List Int32)) (n := 0) rfl (fun c hc => (hp2403 c hc).2)
      refine own_lift CW SW2401 ?_
      intro vm2405 C S2406 rb2407
      refine own_seg C S2406 [(144, .astore 17, 2), (146, .goto 34, 3)] (by decide +kernel) 180 #[.val (.int i0), .val (.int i1), .val (.int i2), .val (.int i3), .val (.int i4), .val (.int (2 : Int32)), .val (.int (0 : Int32)), .val (.int y1607), .val (.int y1616), .val (.int (i2 &&& (255 : Int32))), .val (.int (i3 &&& (255 : Int32))), .val (.ref a1628), .val (.ref a1644), .val (.ref a1667), .val (.ref a1676), .val (.ref a1693), .val (.ref a2323), .val (.ref a2362), .unset, .unset] [] rfl ?_
      refine own_new C S2406 (own_wd hw 37 rfl) (own_wd hw 38 rfl) (own_wd hw 39 rfl) (by decide +kernel) (by decide) (by decide) ?_
      intro T2408 h2410 a2411 S2409 g2412 E2413 x2414 D2415
      have f2416 : Fld Z h2410 a2411 "com/example/nearfar_cache/nearfarcache/Namespace" "name" "Ljava/lang/String;" .null := D2415 (ty := (.object "java/lang/String")) (Or.inr (own_wd hw 112 rfl)) own_fd3
      refine own_seg C S2409 [(183, .dup, 1), (184, .aload 16, 2)] (by decide +kernel) 186 #[.val (.int i0), .val (.int i1), .val (.int i2), .val (.int i3), .val (.int i4), .val (.int (2 : Int32)), .val (.int (0 : Int32)), .val (.int y1607), .val (.int y1616), .val (.int (i2 &&& (255 : Int32))), .val (.int (i3 &&& (255 : Int32))), .val (.ref a1628), .val (.ref a1644), .val (.ref a1667), .val (.ref a1676), .val (.ref a1693), .val (.ref a2323), .val (.ref a2362), .unset, .unset] [(.ref a2323), (.ref a2411), (.ref a2411)] rfl ?_
      have f2417 : Old Z n0 h2410 := ((((f2339.keep K2340 (allS g2333 all0)).ext E2364).keep K2388 (allS g2385 all0)).ext E2413)
      have f2418 : Exa Z h2410 a2323 "java/lang/String" := (Exa.ext E2413 ((Exa.ext E2364 x2341).keep K2388))
      have f2419 : a2323 < h2351.size := (Nat.lt_of_lt_of_le f2329.lt K2340.1)
      have n2420 : a2323 ≠ a2362 := by rw [g2363]; exact Nat.ne_of_lt f2419
      have f2421 : Fld Z h2410 a2323 "java/lang/String" "value" "[B" (.ref t2343) := (Fld.ext E2413 ((Fld.ext E2364 f2348).keep K2388 (ninS n2420 nin0)))
      have f2422 : Fld Z h2410 a2323 "java/lang/String" "coder" "B" (.int 0) := (Fld.ext E2413 ((Fld.ext E2364 f2342).keep K2388 (ninS n2420 nin0)))
      have n2423 : t2343 ≠ a2362 := by rw [g2363]; exact Nat.ne_of_lt f2355.lt
      have f2424 : Arv Z h2410 t2343 k2344 .byte (2 : Int32) ([(.int y1607.toInt8.toInt32), (.int y1616.toInt8.toInt32)]) (.int 0) := (((f2355.ext E2364).keep K2388 (ninS n2423 nin0)).ext E2413)
      have f2425 : n0 ≤ h2410.size := (Nat.le_trans (Nat.le_trans f2383 K2388.1) E2413.1)
      have f2426 : n0 ≤ h2399.size := (Nat.le_trans f2383 K2388.1)
      have g2427 : n0 ≤ a2411 := by rw [g2412]; exact f2426
      have SW2436 : own_SW p l e room_1 s m #[(.int i0), (.int i1), (.int i2), (.int i3), (.int i4)] below meth c n0 Z own_EL "com/example/nearfar_cache/nearfarcache/redis/RedisKeysOfPinLaw" T2408 h2410 [a2411, a1628, a1644, a1667, a1676, a1693, a2323, t2343, a2362] 13 25 := rb2407 _ _ _ _ [] [a2411] S2409 ((Keep.refl _ _).ext E2413) all0 (allS ⟨(by rw [g2412]; exact (Nat.le_refl _)), x2414.lt⟩ all0)
      refine own_callIW CW SW2436 rfl (own_wd hw 40 rfl) (own_wd hw 41 rfl) (own_wd hw 39 rfl) (own_wd hw 42 rfl) (by decide) (own_ns l Z a0 hw hEL wS G1 G3 a2411 a2323 t2343 k2344 (2 : Int32) ([(.int y1607.toInt8.toInt32), (.int y1616.toInt8.toInt32)]) ([y1607, y1616] : List Int32) h2410 n0 f2425 g2427 f2417 f2418 f2421 f2422 f2424 x2414 f2416 O2 O4 P5 rG3 hcd2356 hp2330 (Nat.le_of_ble_eq_true rfl) (by simp) hne2358 (by simp)) all0 1 (by decide) (by decide) [(.ref a2323)] [(.ref a2411)] rfl own_pd7 rfl rfl rfl (Nat.le_of_ble_eq_true rfl) (by decide) (by decide) (by decide +kernel) ?_
      rintro T2437 h2438 v2439 SW2440 hg2441 ⟨rfl, K2428, f2429, f2430⟩
      replace SW2440 : own_SW p l e room_1 s m #[(.int i0), (.int i1), (.int i2), (.int i3), (.int i4)] below meth c n0 Z own_EL "com/example/nearfar_cache/nearfarcache/redis/RedisKeysOfPinLaw" T2437 h2438 [a2411, a1628, a1644, a1667, a1676, a1693, a2323, t2343, a2362] 17 77 := SW2440
      show own_Go p e below _ T2437 (mkF m 189 #[.val (.int i0), .val (.int i1), .val (.int i2), .val (.int i3), .val (.int i4), .val (.int (2 : Int32)), .val (.int (0 : Int32)), .val (.int y1607), .val (.int y1616), .val (.int (i2 &&& (255 : Int32))), .val (.int (i3 &&& (255 : Int32))), .val (.ref a1628), .val (.ref a1644), .val (.ref a1667), .val (.ref a1676), .val (.ref a1693), .val (.ref a2323), .val (.ref a2362), .unset, .unset] [(.ref a2411)])
      refine own_lift CW SW2440 ?_
      intro vm2442 C S2443 rb2444
      refine own_seg C S2443 [(189, .astore 18, 2), (191, .aload 18, 2), (193, .aload 17, 2)] (by decide +kernel) 195 #[.val (.int i0), .val (.int i1), .val (.int i2), .val (.int i3), .val (.int i4), .val (.int (2 : Int32)), .val (.int (0 : Int32)), .val (.int y1607), .val (.int y1616), .val (.int (i2 &&& (255 : Int32))), .val (.int (i3 &&& (255 : Int32))), .val (.ref a1628), .val (.ref a1644), .val (.ref a1667), .val (.ref a1676), .val (.ref a1693), .val (.ref a2323), .val (.ref a2362), .val (.ref a2411), .unset] [(.ref a2362), (.ref a2411)] rfl ?_
      have f2445 : Old Z n0 h2438 := (f2417.keep K2428 (allS g2427 all0))
      have f2446 : Exa Z h2438 a2323 "java/lang/String" := (f2418.keep K2428)
      have f2447 : a2323 < h2399.size := (Nat.lt_of_lt_of_le f2370 K2388.1)
      have n2448 : a2323 ≠ a2411 := by rw [g2412]; exact Nat.ne_of_lt f2447
      have f2449 : Fld Z h2438 a2323 "java/lang/String" "value" "[B" (.ref t2343) := (f2421.keep K2428 (ninS n2448 nin0))
      have f2450 : Fld Z h2438 a2323 "java/lang/String" "coder" "B" (.int 0) := (f2422.keep K2428 (ninS n2448 nin0))
      have f2451 : t2343 < h2399.size := (Nat.lt_of_lt_of_le f2369 K2388.1)
      have n2452 : t2343 ≠ a2411 := by rw [g2412]; exact Nat.ne_of_lt f2451
      have f2453 : Arv Z h2438 t2343 k2344 .byte (2 : Int32) ([(.int y1607.toInt8.toInt32), (.int y1616.toInt8.toInt32)]) (.int 0) := (f2424.keep K2428 (ninS n2452 nin0))
      have f2454 : Exa Z h2438 a2362 "java/lang/String" := ((Exa.ext E2413 f2389).keep K2428)
      have f2455 : a2362 < h2399.size := (Nat.lt_of_lt_of_le x2365.lt K2388.1)
      have n2456 : a2362 ≠ a2411 := by rw [g2412]; exact Nat.ne_of_lt f2455
      have f2457 : Fld Z h2438 a2362 "java/lang/String" "value" "[B" (.ref a2386) := ((Fld.ext E2413 f2391).keep K2428 (ninS n2456 nin0))
      have f2458 : Fld Z h2438 a2362 "java/lang/String" "coder" "B" (.int (0 : Int32)) := ((Fld.ext E2413 f2390).keep K2428 (ninS n2456 nin0))
      have n2459 : a2386 ≠ a2411 := by rw [g2412]; exact Nat.ne_of_lt f2392.lt
      have f2460 : Arv Z h2438 a2386 k2387 .byte (0 : Int32) ([]) (.int 0) := ((f2392.ext E2413).keep K2428 (ninS n2459 nin0))
      have f2461 : n0 ≤ h2438.size := (Nat.le_trans f2425 K2428.1)
      have SW2477 : own_SW p l e room_1 s m #[(.int i0), (.int i1), (.int i2), (.int i3), (.int i4)] below meth c n0 Z own_EL "com/example/nearfar_cache/nearfarcache/redis/RedisKeysOfPinLaw" T2437 h2438 [a2411, a1628, a1644, a1667, a1676, a1693, a2323, t2343, a2362] 17 77 := rb2444 _ _ _ _ [] [] S2443 (Keep.refl _ _) all0 all0
      refine own_callSW CW SW2477 (own_wd hw 113 rfl) (own_wd hw 114 rfl) (own_wd hw 115 rfl) (own_wd hw 116 rfl) (by decide) (own_of20 l Z a0 hw hEL wS G1 G3 a2411 a2323 t2343 k2344 y1607 y1616 a2362 a2386 k2387 h2438 n0 f2461 f2445 f2429 f2430 f2446 f2449 f2450 f2453 f2454 f2457 f2458 f2460 O2 O4 P5 rG3 p1609.1 p1618.1) all0 0 (by decide) (by decide) [(.ref a2411), (.ref a2362)] [] rfl own_pd28 rfl rfl rfl (Nat.le_of_ble_eq_true rfl) (by decide) (by decide) (by decide +kernel) ?_
      rintro T2478 h2479 v2480 SW2481 hg2482 ⟨a2462, a2463, k2464, rfl, g2465, g2466, K2467, f2468, f2469, f2470, f2471⟩
      replace SW2481 : own_SW p l e room_1 s m #[(.int i0), (.int i1), (.int i2), (.int i3), (.int i4)] below meth c n0 Z own_EL "com/example/nearfar_cache/nearfarcache/redis/RedisKeysOfPinLaw" T2478 h2479 [a2411, a1628, a1644, a1667, a1676, a1693, a2323, t2343, a2362] 25 221 := SW2481
      show own_Go p e below _ T2478 (mkF m 198 #[.val (.int i0), .val (.int i1), .val (.int i2), .val (.int i3), .val (.int i4), .val (.int (2 : Int32)), .val (.int (0 : Int32)), .val (.int y1607), .val (.int y1616), .val (.int (i2 &&& (255 : Int32))), .val (.int (i3 &&& (255 : Int32))), .val (.ref a1628), .val (.ref a1644), .val (.ref a1667), .val (.ref a1676), .val (.ref a1693), .val (.ref a2323), .val (.ref a2362), .val (.ref a2411), .unset] [(.ref a2462)])
      have hp2483 : ∀ c ∈ ([y1607, y1616, (58 : Int32)] : List Int32), ¬ c < 0 ∧ ¬ (255 : Int32) < c := by
        intro c hc; simp only [List.mem_cons, List.not_mem_nil, or_false] at hc
        rcases hc with rfl | rfl | rfl
        · exact p1609.1
        · exact p1618.1
        · exact (by decide)
      have hcd2484 : StrChars.Road.CodA ([y1607, y1616, (58 : Int32)] : List Int32) 0 (3 : Int32) [(.int y1607.toInt8.toInt32), (.int y1616.toInt8.toInt32), (.int (58 : Int32))] := StrChars.Road.codOf (cs := ([y1607, y1616, (58 : Int32)] : List Int32)) (n := 3) rfl (fun c hc => (hp2483 c hc).2)
      refine own_lift CW SW2481 ?_
      intro vm2485 C S2486 rb2487
      refine own_seg C S2486 [(198, .astore 19, 2), (200, .aload 19, 2)] (by decide +kernel) 202 #[.val (.int i0), .val (.int i1), .val (.int i2), .val (.int i3), .val (.int i4), .val (.int (2 : Int32)), .val (.int (0 : Int32)), .val (.int y1607), .val (.int y1616), .val (.int (i2 &&& (255 : Int32))), .val (.int (i3 &&& (255 : Int32))), .val (.ref a1628), .val (.ref a1644), .val (.ref a1667), .val (.ref a1676), .val (.ref a1693), .val (.ref a2323), .val (.ref a2362), .val (.ref a2411), .val (.ref a2462)] [(.ref a2462)] rfl ?_
      have f2488 : Old Z n0 h2479 := (f2445.keep K2467 all0)
      refine own_callV C S2486 (own_wd hw 236 rfl) (own_wd hw 75 rfl) (own_wd hw 77 rfl) (y' := ⟨"java/lang/String", "length", "()I"⟩) rfl (own_wd hw 77 rfl) (own_wd hw 76 rfl) (by decide) (Q := (fun v h' L => v = some (.int (Int32.ofNat (([y1607, y1616, (58 : Int32)] : List Int32)).length)) ∧ L = [] ∧ h' = h2479)) (StrChars.Road.lenW (W := 0) C.2.2.2.2.2.2.2 (fun d hd => hw d (own_hln d hd)) (kI := 4) (own_wd hw 6 rfl) f2468 f2470 f2469 f2471 hcd2484 (own_up _ hp2483) (O2.ext f2488.2) P5 (Nat.le_of_ble_eq_true rfl) (by decide) (by decide)) (fun _ _ L q => by rw [q.2.1]; exact Fr.nil _) f2468 [] [] rfl own_pd4 rfl rfl rfl (Nat.le_of_ble_eq_true rfl) (by decide) (by decide) (by decide +kernel) ?_
      rintro T2490 h2491 v2492 L2493 S2494 ⟨rfl, -, e2489⟩
      replace S2494 : own_S p l e room_1 (s.setVm vm2485) m #[(.int i0), (.int i1), (.int i2), (.int i3), (.int i4)] below meth c n0 T2490 h2491 25 221 := S2494
      rw [e2489] at S2494; clear e2489
      show own_Go p e below _ T2490 (mkF m 205 #[.val (.int i0), .val (.int i1), .val (.int i2), .val (.int i3), .val (.int i4), .val (.int (2 : Int32)), .val (.int (0 : Int32)), .val (.int y1607), .val (.int y1616), .val (.int (i2 &&& (255 : Int32))), .val (.int (i3 &&& (255 : Int32))), .val (.ref a1628), .val (.ref a1644), .val (.ref a1667), .val (.ref a1676), .val (.ref a1693), .val (.ref a2323), .val (.ref a2362), .val (.ref a2411), .val (.ref a2462)] [(.int (3 : Int32))])
      refine own_seg C S2494 [(205, .iload 5, 2), (207, .iconst 1, 1), (208, .iadd, 1), (209, .iload 6, 2), (211, .iadd, 1)] (by decide +kernel) 212 #[.val (.int i0), .val (.int i1), .val (.int i2), .val (.int i3), .val (.int i4), .val (.int (2 : Int32)), .val (.int (0 : Int32)), .val (.int y1607), .val (.int y1616), .val (.int (i2 &&& (255 : Int32))), .val (.int (i3 &&& (255 : Int32))), .val (.ref a1628), .val (.ref a1644), .val (.ref a1667), .val (.ref a1676), .val (.ref a1693), .val (.ref a2323), .val (.ref a2362), .val (.ref a2411), .val (.ref a2462)] [(.int (((2 : Int32) + (1 : Int32)) + (0 : Int32))), (.int (3 : Int32))] rfl ?_
      refine own_icmp C S2494 (q := .eq) (o := 5) (by decide +kernel) 217 (by decide) (by decide) (fun (q2495 : (3 : Int32) = (((2 : Int32) + (1 : Int32)) + (0 : Int32))) => ?_) (fun (hq : ¬ (3 : Int32) = (((2 : Int32) + (1 : Int32)) + (0 : Int32))) => False.elim (by revert hq; decide))
      refine own_seg C S2494 [(217, .aload 19, 2), (219, .iconst 0, 1)] (by decide +kernel) 220 #[.val (.int i0), .val (.int i1), .val (.int i2), .val (.int i3), .val (.int i4), .val (.int (2 : Int32)), .val (.int (0 : Int32)), .val (.int y1607), .val (.int y1616), .val (.int (i2 &&& (255 : Int32))), .val (.int (i3 &&& (255 : Int32))), .val (.ref a1628), .val (.ref a1644), .val (.ref a1667), .val (.ref a1676), .val (.ref a1693), .val (.ref a2323), .val (.ref a2362), .val (.ref a2411), .val (.ref a2462)] [(.int (0 : Int32)), (.ref a2462)] rfl ?_
      refine own_callV C S2494 (own_wd hw 237 rfl) (own_wd hw 238 rfl) (own_wd hw 240 rfl) (y' := ⟨"java/lang/String", "charAt", "(I)C"⟩) rfl (own_wd hw 240 rfl) (own_wd hw 239 rfl) (by decide) (Q := (fun v h' L => v = some (.int ((([y1607, y1616, (58 : Int32)] : List Int32)).getD 0 0)) ∧ L = [] ∧ h' = h2479)) (StrChars.Road.chN (W := 0) C.2.2.2.2.2.2.2 (fun d hd => hw d (own_hch d hd)) (kI := 4) (own_wd hw 6 rfl) f2468 f2470 f2469 f2471 hcd2484 (own_up _ hp2483) (O2.ext f2488.2) P5 (O4.ext f2488.2) rG3 (Nat.le_of_ble_eq_true rfl) (i := 0) (Nat.le_of_ble_eq_true rfl) rfl (by decide) (by decide)) (fun _ _ L q => by rw [q.2.1]; exact Fr.nil _) f2468 [(.int (0 : Int32))] [] rfl own_pd26 rfl rfl rfl (Nat.le_of_ble_eq_true rfl) (by decide) (by decide) (by decide +kernel) ?_
      rintro T2497 h2498 v2499 L2500 S2501 ⟨rfl, -, e2496⟩
      replace S2501 : own_S p l e room_1 (s.setVm vm2485) m #[(.int i0), (.int i1), (.int i2), (.int i3), (.int i4)] below meth c n0 T2497 h2498 25 221 := S2501
      rw [e2496] at S2501; clear e2496
      show own_Go p e below _ T2497 (mkF m 223 #[.val (.int i0), .val (.int i1), .val (.int i2), .val (.int i3), .val (.int i4), .val (.int (2 : Int32)), .val (.int (0 : Int32)), .val (.int y1607), .val (.int y1616), .val (.int (i2 &&& (255 : Int32))), .val (.int (i3 &&& (255 : Int32))), .val (.ref a1628), .val (.ref a1644), .val (.ref a1667), .val (.ref a1676), .val (.ref a1693), .val (.ref a2323), .val (.ref a2362), .val (.ref a2411), .val (.ref a2462)] [(.int y1607)])
      refine own_seg C S2501 [(223, .iload 7, 2)] (by decide +kernel) 225 #[.val (.int i0), .val (.int i1), .val (.int i2), .val (.int i3), .val (.int i4), .val (.int (2 : Int32)), .val (.int (0 : Int32)), .val (.int y1607), .val (.int y1616), .val (.int (i2 &&& (255 : Int32))), .val (.int (i3 &&& (255 : Int32))), .val (.ref a1628), .val (.ref a1644), .val (.ref a1667), .val (.ref a1676), .val (.ref a1693), .val (.ref a2323), .val (.ref a2362), .val (.ref a2411), .val (.ref a2462)] [(.int y1607), (.int y1607)] rfl ?_
      refine own_icmp C S2501 (q := .eq) (o := 5) (by decide +kernel) 230 (by decide) (by decide) (fun (q2502 : y1607 = y1607) => ?_) (fun (hq : ¬ y1607 = y1607) => False.elim (hq rfl))
      refine own_seg C S2501 [(230, .iload 5, 2), (232, .iconst 2, 1)] (by decide +kernel) 233 #[.val (.int i0), .val (.int i1), .val (.int i2), .val (.int i3), .val (.int i4), .val (.int (2 : Int32)), .val (.int (0 : Int32)), .val (.int y1607), .val (.int y1616), .val (.int (i2 &&& (255 : Int32))), .val (.int (i3 &&& (255 : Int32))), .val (.ref a1628), .val (.ref a1644), .val (.ref a1667), .val (.ref a1676), .val (.ref a1693), .val (.ref a2323), .val (.ref a2362), .val (.ref a2411), .val (.ref a2462)] [(.int (2 : Int32)), (.int (2 : Int32))] rfl ?_
      refine own_icmp C S2501 (q := .ne) (o := 16) (by decide +kernel) 249 (by decide) (by decide) (fun (hq : ¬ (2 : Int32) = (2 : Int32)) => False.elim (by revert hq; decide)) (fun (q2503 : (2 : Int32) = (2 : Int32)) => ?_)
      refine own_seg C S2501 [(236, .aload 19, 2), (238, .iconst 1, 1)] (by decide +kernel) 239 #[.val (.int i0), .val (.int i1), .val (.int i2), .val (.int i3), .val (.int i4), .val (.int (2 : Int32)), .val (.int (0 : Int32)), .val (.int y1607), .val (.int y1616), .val (.int (i2 &&& (255 : Int32))), .val (.int (i3 &&& (255 : Int32))), .val (.ref a1628), .val (.ref a1644), .val (.ref a1667), .val (.ref a1676), .val (.ref a1693), .val (.ref a2323), .val (.ref a2362), .val (.ref a2411), .val (.ref a2462)] [(.int (1 : Int32)), (.ref a2462)] rfl ?_
      refine own_callV C S2501 (own_wd hw 237 rfl) (own_wd hw 238 rfl) (own_wd hw 240 rfl) (y' := ⟨"java/lang/String", "charAt", "(I)C"⟩) rfl (own_wd hw 240 rfl) (own_wd hw 239 rfl) (by decide) (Q := (fun v h' L => v = some (.int ((([y1607, y1616, (58 : Int32)] : List Int32)).getD 1 0)) ∧ L = [] ∧ h' = h2479)) (StrChars.Road.chN (W := 0) C.2.2.2.2.2.2.2 (fun d hd => hw d (own_hch d hd)) (kI := 4) (own_wd hw 6 rfl) f2468 f2470 f2469 f2471 hcd2484 (own_up _ hp2483) (O2.ext f2488.2) P5 (O4.ext f2488.2) rG3 (Nat.le_of_ble_eq_true rfl) (i := 1) (Nat.le_of_ble_eq_true rfl) rfl (by decide) (by decide)) (fun _ _ L q => by rw [q.2.1]; exact Fr.nil _) f2468 [(.int (1 : Int32))] [] rfl own_pd26 rfl rfl rfl (Nat.le_of_ble_eq_true rfl) (by decide) (by decide) (by decide +kernel) ?_
      rintro T2505 h2506 v2507 L2508 S2509 ⟨rfl, -, e2504⟩
      replace S2509 : own_S p l e room_1 (s.setVm vm2485) m #[(.int i0), (.int i1), (.int i2), (.int i3), (.int i4)] below meth c n0 T2505 h2506 25 221 := S2509
      rw [e2504] at S2509; clear e2504
      show own_Go p e below _ T2505 (mkF m 242 #[.val (.int i0), .val (.int i1), .val (.int i2), .val (.int i3), .val (.int i4), .val (.int (2 : Int32)), .val (.int (0 : Int32)), .val (.int y1607), .val (.int y1616), .val (.int (i2 &&& (255 : Int32))), .val (.int (i3 &&& (255 : Int32))), .val (.ref a1628), .val (.ref a1644), .val (.ref a1667), .val (.ref a1676), .val (.ref a1693), .val (.ref a2323), .val (.ref a2362), .val (.ref a2411), .val (.ref a2462)] [(.int y1616)])
      refine own_seg C S2509 [(242, .iload 8, 2)] (by decide +kernel) 244 #[.val (.int i0), .val (.int i1), .val (.int i2), .val (.int i3), .val (.int i4), .val (.int (2 : Int32)), .val (.int (0 : Int32)), .val (.int y1607), .val (.int y1616), .val (.int (i2 &&& (255 : Int32))), .val (.int (i3 &&& (255 : Int32))), .val (.ref a1628), .val (.ref a1644), .val (.ref a1667), .val (.ref a1676), .val (.ref a1693), .val (.ref a2323), .val (.ref a2362), .val (.ref a2411), .val (.ref a2462)] [(.int y1616), (.int y1616)] rfl ?_
      refine own_icmp C S2509 (q := .eq) (o := 5) (by decide +kernel) 249 (by decide) (by decide) (fun (q2510 : y1616 = y1616) => ?_) (fun (hq : ¬ y1616 = y1616) => False.elim (hq rfl))
      refine own_seg C S2509 [(249, .aload 19, 2), (251, .iload 5, 2)] (by decide +kernel) 253 #[.val (.int i0), .val (.int i1), .val (.int i2), .val (.int i3), .val (.int i4), .val (.int (2 : Int32)), .val (.int (0 : Int32)), .val (.int y1607), .val (.int y1616), .val (.int (i2 &&& (255 : Int32))), .val (.int (i3 &&& (255 : Int32))), .val (.ref a1628), .val (.ref a1644), .val (.ref a1667), .val (.ref a1676), .val (.ref a1693), .val (.ref a2323), .val (.ref a2362), .val (.ref a2411), .val (.ref a2462)] [(.int (2 : Int32)), (.ref a2462)] rfl ?_
      refine own_callV C S2509 (own_wd hw 237 rfl) (own_wd hw 238 rfl) (own_wd hw 240 rfl) (y' := ⟨"java/lang/String", "charAt", "(I)C"⟩) rfl (own_wd hw 240 rfl) (own_wd hw 239 rfl) (by decide) (Q := (fun v h' L => v = some (.int ((([y1607, y1616, (58 : Int32)] : List Int32)).getD 2 0)) ∧ L = [] ∧ h' = h2479)) (StrChars.Road.chN (W := 0) C.2.2.2.2.2.2.2 (fun d hd => hw d (own_hch d hd)) (kI := 4) (own_wd hw 6 rfl) f2468 f2470 f2469 f2471 hcd2484 (own_up _ hp2483) (O2.ext f2488.2) P5 (O4.ext f2488.2) rG3 (Nat.le_of_ble_eq_true rfl) (i := 2) (Nat.le_of_ble_eq_true rfl) rfl (by decide) (by decide)) (fun _ _ L q => by rw [q.2.1]; exact Fr.nil _) f2468 [(.int (2 : Int32))] [] rfl own_pd26 rfl rfl rfl (Nat.le_of_ble_eq_true rfl) (by decide) (by decide) (by decide +kernel) ?_
      rintro T2512 h2513 v2514 L2515 S2516 ⟨rfl, -, e2511⟩
      replace S2516 : own_S p l e room_1 (s.setVm vm2485) m #[(.int i0), (.int i1), (.int i2), (.int i3), (.int i4)] below meth c n0 T2512 h2513 25 221 := S2516
      rw [e2511] at S2516; clear e2511
      show own_Go p e below _ T2512 (mkF m 256 #[.val (.int i0), .val (.int i1), .val (.int i2), .val (.int i3), .val (.int i4), .val (.int (2 : Int32)), .val (.int (0 : Int32)), .val (.int y1607), .val (.int y1616), .val (.int (i2 &&& (255 : Int32))), .val (.int (i3 &&& (255 : Int32))), .val (.ref a1628), .val (.ref a1644), .val (.ref a1667), .val (.ref a1676), .val (.ref a1693), .val (.ref a2323), .val (.ref a2362), .val (.ref a2411), .val (.ref a2462)] [(.int (58 : Int32))])
      refine own_seg C S2516 [(256, .bipush 58, 2)] (by decide +kernel) 258 #[.val (.int i0), .val (.int i1), .val (.int i2), .val (.int i3), .val (.int i4), .val (.int (2 : Int32)), .val (.int (0 : Int32)), .val (.int y1607), .val (.int y1616), .val (.int (i2 &&& (255 : Int32))), .val (.int (i3 &&& (255 : Int32))), .val (.ref a1628), .val (.ref a1644), .val (.ref a1667), .val (.ref a1676), .val (.ref a1693), .val (.ref a2323), .val (.ref a2362), .val (.ref a2411), .val (.ref a2462)] [(.int (58 : Int32)), (.int (58 : Int32))] rfl ?_
      refine own_icmp C S2516 (q := .eq) (o := 5) (by decide +kernel) 263 (by decide) (by decide) (fun (q2517 : (58 : Int32) = (58 : Int32)) => ?_) (fun (hq : ¬ (58 : Int32) = (58 : Int32)) => False.elim (by revert hq; decide))
      refine own_seg C S2516 [(263, .iload 6, 2), (265, .iconst 1, 1)] (by decide +kernel) 266 #[.val (.int i0), .val (.int i1), .val (.int i2), .val (.int i3), .val (.int i4), .val (.int (2 : Int32)), .val (.int (0 : Int32)), .val (.int y1607), .val (.int y1616), .val (.int (i2 &&& (255 : Int32))), .val (.int (i3 &&& (255 : Int32))), .val (.ref a1628), .val (.ref a1644), .val (.ref a1667), .val (.ref a1676), .val (.ref a1693), .val (.ref a2323), .val (.ref a2362), .val (.ref a2411), .val (.ref a2462)] [(.int (1 : Int32)), (.int (0 : Int32))] rfl ?_
      refine own_icmp C S2516 (q := .lt) (o := 19) (by decide +kernel) 285 (by decide) (by decide) (fun (q2518 : (0 : Int32) < (1 : Int32)) => ?_) (fun (hq : ¬ (0 : Int32) < (1 : Int32)) => False.elim (by revert hq; decide))
      refine own_seg C S2516 [(285, .iload 6, 2), (287, .iconst 2, 1)] (by decide +kernel) 288 #[.val (.int i0), .val (.int i1), .val (.int i2), .val (.int i3), .val (.int i4), .val (.int (2 : Int32)), .val (.int (0 : Int32)), .val (.int y1607), .val (.int y1616), .val (.int (i2 &&& (255 : Int32))), .val (.int (i3 &&& (255 : Int32))), .val (.ref a1628), .val (.ref a1644), .val (.ref a1667), .val (.ref a1676), .val (.ref a1693), .val (.ref a2323), .val (.ref a2362), .val (.ref a2411), .val (.ref a2462)] [(.int (2 : Int32)), (.int (0 : Int32))] rfl ?_
      refine own_icmp C S2516 (q := .ne) (o := 19) (by decide +kernel) 307 (by decide) (by decide) (fun (q2519 : ¬ (0 : Int32) = (2 : Int32)) => ?_) (fun (hq : (0 : Int32) = (2 : Int32)) => False.elim (by revert hq; decide))
      refine own_seg C S2516 [(307, .iconst 1, 1)] (by decide +kernel) 308 #[.val (.int i0), .val (.int i1), .val (.int i2), .val (.int i3), .val (.int i4), .val (.int (2 : Int32)), .val (.int (0 : Int32)), .val (.int y1607), .val (.int y1616), .val (.int (i2 &&& (255 : Int32))), .val (.int (i3 &&& (255 : Int32))), .val (.ref a1628), .val (.ref a1644), .val (.ref a1667), .val (.ref a1676), .val (.ref a1693), .val (.ref a2323), .val (.ref a2362), .val (.ref a2411), .val (.ref a2462)] [(.int (1 : Int32))] rfl ?_
      have SW2520 : own_SW p l e room_1 s m #[(.int i0), (.int i1), (.int i2), (.int i3), (.int i4)] below meth c n0 Z own_EL "com/example/nearfar_cache/nearfarcache/redis/RedisKeysOfPinLaw" T2512 h2479 [a2411, a1628, a1644, a1667, a1676, a1693, a2323, t2343, a2362] 25 221 := rb2487 _ _ _ _ [] [] S2516 (Keep.refl _ _) all0 all0
      refine own_retZW CW SW2520 (by decide +kernel) (by decide) (by decide) (by decide) ?_
      rfl
    · rw [show ((Jvm.Free.XT.ushr i4 (1 : Int32)) % (3 : Int32)) = (1 : Int32) from qk]
      refine own_seg C S1708 [(99, .iload 5, 2), (101, .iconst 1, 1)] (by decide +kernel) 102 #[.val (.int i0), .val (.int i1), .val (.int i2), .val (.int i3), .val (.int i4), .val (.int (2 : Int32)), .val (.int (1 : Int32)), .val (.int y1607), .val (.int y1616), .val (.int (i2 &&& (255 : Int32))), .val (.int (i3 &&& (255 : Int32))), .val (.ref a1628), .val (.ref a1644), .val (.ref a1667), .val (.ref a1676), .val (.ref a1693), .unset, .unset, .unset, .unset] [(.int (1 : Int32)), (.int (2 : Int32))] rfl ?_
      refine own_icmp C S1708 (q := .ne) (o := 17) (by decide +kernel) 119 (by decide) (by decide) (fun (q2521 : ¬ (2 : Int32) = (1 : Int32)) => ?_) (fun (hq : (2 : Int32) = (1 : Int32)) => False.elim (by revert hq; decide))
      refine own_new C S1708 (own_wd hw 5 rfl) (own_wd hw 6 rfl) (own_wd hw 7 rfl) (by decide +kernel) (by decide) (by decide) ?_
      intro T2522 h2524 a2525 S2523 g2526 E2527 x2528 D2529
      have f2530 : Fld Z h2524 a2525 "java/lang/String" "coder" "B" (.int (0 : Int32)) := D2529 (ty := .byte) (Or.inr (own_wd hw 31 rfl)) own_fd1
      have f2531 : Fld Z h2524 a2525 "java/lang/String" "value" "[B" .null := D2529 (ty := (.array .byte)) (Or.inr (own_wd hw 33 rfl)) own_fd0
      refine own_seg C S2523 [(122, .dup, 1), (123, .aload 12, 2)] (by decide +kernel) 125 #[.val (.int i0), .val (.int i1), .val (.int i2), .val (.int i3), .val (.int i4), .val (.int (2 : Int32)), .val (.int (1 : Int32)), .val (.int y1607), .val (.int y1616), .val (.int (i2 &&& (255 : Int32))), .val (.int (i3 &&& (255 : Int32))), .val (.ref a1628), .val (.ref a1644), .val (.ref a1667), .val (.ref a1676), .val (.ref a1693), .unset, .unset, .unset, .unset] [(.ref a1644), (.ref a2525), (.ref a2525)] rfl ?_
      have hp2532 : ∀ c ∈ ([y1607, y1616] : List Int32), ¬ c < 0 ∧ ¬ (255 : Int32) < c := by
        intro c hc; simp only [List.mem_cons, List.not_mem_nil, or_false] at hc
        rcases hc with rfl | rfl
        · exact p1609.1
        · exact p1618.1
      have f2533 : n0 ≤ h2524.size := (Nat.le_trans (by rw [W1710.size]; exact (by rw [W1704.size]; exact (Nat.le_trans f1699 E1696.1))) E2527.1)
      have f2534 : n0 ≤ h1709.size := (by rw [W1710.size]; exact (by rw [W1704.size]; exact (Nat.le_trans f1699 E1696.1)))
      have g2535 : n0 ≤ a2525 := by rw [g2526]; exact f2534
      have f2536 : a1644 < h1666.size := (Nat.lt_of_lt_of_le (by rw [W1661.size]; exact (by rw [W1655.size]; exact f1649.lt)) E1670.1)
      have n2537 : a1644 ≠ a1676 := by rw [g1678]; exact Nat.ne_of_lt f2536
      have f2538 : a1644 < h1686.size := (by rw [W1687.size]; exact (Nat.lt_of_lt_of_le f2536 E1679.1))
      have n2539 : a1644 ≠ a1693 := by rw [g1695]; exact Nat.ne_of_lt f2538
      have f2540 : Arv Z h2524 a1644 k1645 .char (2 : Int32) ([(.int y1607), (.int y1616)]) (.int (0 : Int32)) := (((((((f1663.ext E1670).ext E1679).other W1687 n2537).ext E1696).other W1704 n2539).other W1710 n2539).ext E2527)
      have f2541 : Old Z n0 h2524 := ((((((((((((X00.ext E1631).wr W1638 g1634).ext E1647).wr W1655 g1651).wr W1661 g1651).ext E1670).ext E1679).wr W1687 g1683).ext E1696).wr W1704 g1700).wr W1710 g1700).ext E2527)
      refine own_callI C S2523 rfl (own_wd hw 8 rfl) (own_wd hw 9 rfl) (own_wd hw 10 rfl) (by decide) (StrChars.Road.backV (W := 1) C.2.2.2.2.2.2.2 (fun d hd => hw d (own_hws d hd)) (kI := 4) (own_wd hw 6 rfl) (cs := ([y1607, y1616] : List Int32)) (bs := (([y1607, y1616] : List Int32)).map (fun c => c.toInt8.toInt32)) (n := 2) g2535 f2533 x2528 f2531 f2530 f2540 (O2.ext f2541.2) P5 rfl rfl (by decide) (by decide) hp2532 rfl (by decide) (by decide)) (fun _ _ _ q => q.2.1) [(.ref a1644)] [(.ref a2525)] rfl own_pd27 rfl rfl rfl (Nat.le_of_ble_eq_true rfl) (by decide) (by decide) (by decide +kernel) ?_
      rintro T2552 h2553 v2554 L2555 S2556 ⟨rfl, -, K2542, x2543, f2544, t2545, k2546, g2547, g2548, g2549, f2550, f2551⟩
      replace S2556 : own_S p l e room_1 (s.setVm vm1604) m #[(.int i0), (.int i1), (.int i2), (.int i3), (.int i4)] below meth c n0 T2552 h2553 7 12 := S2556
      have f2557 : Arv Z h2553 t2545 k2546 .byte (2 : Int32) ([(.int y1607.toInt8.toInt32), (.int y1616.toInt8.toInt32)]) (.int 0) := f2551
      have hcd2558 : StrChars.Road.CodA ([y1607, y1616] : List Int32) 0 (2 : Int32) [(.int y1607.toInt8.toInt32), (.int y1616.toInt8.toInt32)] := StrChars.Road.codOf (cs := ([y1607, y1616] : List Int32)) (n := 2) rfl (fun c hc => (hp2532 c hc).2)
      show own_Go p e below _ T2552 (mkF m 128 #[.val (.int i0), .val (.int i1), .val (.int i2), .val (.int i3), .val (.int i4), .val (.int (2 : Int32)), .val (.int (1 : Int32)), .val (.int y1607), .val (.int y1616), .val (.int (i2 &&& (255 : Int32))), .val (.int (i3 &&& (255 : Int32))), .val (.ref a1628), .val (.ref a1644), .val (.ref a1667), .val (.ref a1676), .val (.ref a1693), .unset, .unset, .unset, .unset] [(.ref a2525)])
      refine own_seg C S2556 [(128, .astore 16, 2), (130, .iload 6, 2)] (by decide +kernel) 132 #[.val (.int i0), .val (.int i1), .val (.int i2), .val (.int i3), .val (.int i4), .val (.int (2 : Int32)), .val (.int (1 : Int32)), .val (.int y1607), .val (.int y1616), .val (.int (i2 &&& (255 : Int32))), .val (.int (i3 &&& (255 : Int32))), .val (.ref a1628), .val (.ref a1644), .val (.ref a1667), .val (.ref a1676), .val (.ref a1693), .val (.ref a2525), .unset, .unset, .unset] [(.int (1 : Int32))] rfl ?_
      refine own_if C S2556 (q := .ne) (o := 17) (by decide +kernel) 149 (by decide) (by decide) (fun (q2559 : ¬ (1 : Int32) = (0 : Int32)) => ?_) (fun (hq : (1 : Int32) = (0 : Int32)) => False.elim (by revert hq; decide))
      refine own_seg C S2556 [(149, .iload 6, 2), (151, .iconst 1, 1)] (by decide +kernel) 152 #[.val (.int i0), .val (.int i1), .val (.int i2), .val (.int i3), .val (.int i4), .val (.int (2 : Int32)), .val (.int (1 : Int32)), .val (.int y1607), .val (.int y1616), .val (.int (i2 &&& (255 : Int32))), .val (.int (i3 &&& (255 : Int32))), .val (.ref a1628), .val (.ref a1644), .val (.ref a1667), .val (.ref a1676), .val (.ref a1693), .val (.ref a2525), .unset, .unset, .unset] [(.int (1 : Int32)), (.int (1 : Int32))] rfl ?_
      refine own_icmp C S2556 (q := .ne) (o := 17) (by decide +kernel) 169 (by decide) (by decide) (fun (hq : ¬ (1 : Int32) = (1 : Int32)) => False.elim (by revert hq; decide)) (fun (q2560 : (1 : Int32) = (1 : Int32)) => ?_)
      have hne2561 : ∀ c ∈ ([y1607, y1616] : List Int32), ¬ c = (58 : Int32) := by
        intro c hc; simp only [List.mem_cons, List.not_mem_nil, or_false] at hc
        rcases hc with rfl | rfl
        · exact p1610
        · exact p1619
      refine own_new C S2556 (own_wd hw 5 rfl) (own_wd hw 6 rfl) (own_wd hw 7 rfl) (by decide +kernel) (by decide) (by decide) ?_
      intro T2562 h2564 a2565 S2563 g2566 E2567 x2568 D2569
      have f2570 : Fld Z h2564 a2565 "java/lang/String" "coder" "B" (.int (0 : Int32)) := D2569 (ty := .byte) (Or.inr (own_wd hw 31 rfl)) own_fd1
      have f2571 : Fld Z h2564 a2565 "java/lang/String" "value" "[B" .null := D2569 (ty := (.array .byte)) (Or.inr (own_wd hw 33 rfl)) own_fd0
      refine own_seg C S2563 [(158, .dup, 1), (159, .aload 14, 2)] (by decide +kernel) 161 #[.val (.int i0), .val (.int i1), .val (.int i2), .val (.int i3), .val (.int i4), .val (.int (2 : Int32)), .val (.int (1 : Int32)), .val (.int y1607), .val (.int y1616), .val (.int (i2 &&& (255 : Int32))), .val (.int (i3 &&& (255 : Int32))), .val (.ref a1628), .val (.ref a1644), .val (.ref a1667), .val (.ref a1676), .val (.ref a1693), .val (.ref a2525), .unset, .unset, .unset] [(.ref a1676), (.ref a2565), (.ref a2565)] rfl ?_
      have hp2572 : ∀ c ∈ ([(i2 &&& (255 : Int32))] : List Int32), ¬ c < 0 ∧ ¬ (255 : Int32) < c := by
        intro c hc; simp only [List.mem_cons, List.not_mem_nil, or_false] at hc
        rcases hc with rfl
        · exact (own_Ch.of i2).1
      have f2573 : n0 ≤ h2564.size := (Nat.le_trans (Nat.le_trans f2533 K2542.1) E2567.1)
      have f2574 : n0 ≤ h2553.size := (Nat.le_trans f2533 K2542.1)
      have g2575 : n0 ≤ a2565 := by rw [g2566]; exact f2574
      have f2576 : a1676 < h1686.size := (by rw [W1687.size]; exact f1681.lt)
      have n2577 : a1676 ≠ a1693 := by rw [g1695]; exact Nat.ne_of_lt f2576
      have f2578 : a1676 < h1709.size := (by rw [W1710.size]; exact (by rw [W1704.size]; exact (Nat.lt_of_lt_of_le f2576 E1696.1)))
      have n2579 : a1676 ≠ a2525 := by rw [g2526]; exact Nat.ne_of_lt f2578
      have f2580 : Arv Z h2564 a1676 k1677 .char (1 : Int32) ([(.int (i2 &&& (255 : Int32)))]) (.int (0 : Int32)) := ((((((f1689.ext E1696).other W1704 n2577).other W1710 n2577).ext E2527).keep K2542 (ninS n2579 nin0)).ext E2567)
      have f2581 : Old Z n0 h2564 := ((f2541.keep K2542 (allS g2535 all0)).ext E2567)
      refine own_callI C S2563 rfl (own_wd hw 8 rfl) (own_wd hw 9 rfl) (own_wd hw 10 rfl) (by decide) (StrChars.Road.backV (W := 1) C.2.2.2.2.2.2.2 (fun d hd => hw d (own_hws d hd)) (kI := 4) (own_wd hw 6 rfl) (cs := ([(i2 &&& (255 : Int32))] : List Int32)) (bs := (([(i2 &&& (255 : Int32))] : List Int32)).map (fun c => c.toInt8.toInt32)) (n := 1) g2575 f2573 x2568 f2571 f2570 f2580 (O2.ext f2581.2) P5 rfl rfl (by decide) (by decide) hp2572 rfl (by decide) (by decide)) (fun _ _ _ q => q.2.1) [(.ref a1676)] [(.ref a2565)] rfl own_pd27 rfl rfl rfl (Nat.le_of_ble_eq_true rfl) (by decide) (by decide) (by decide +kernel) ?_
      rintro T2592 h2593 v2594 L2595 S2596 ⟨rfl, -, K2582, x2583, f2584, t2585, k2586, g2587, g2588, g2589, f2590, f2591⟩
      replace S2596 : own_S p l e room_1 (s.setVm vm1604) m #[(.int i0), (.int i1), (.int i2), (.int i3), (.int i4)] below meth c n0 T2592 h2593 9 17 := S2596
      have f2597 : Arv Z h2593 t2585 k2586 .byte (1 : Int32) ([(.int ((i2 &&& (255 : Int32)).toInt8.toInt32))]) (.int 0) := f2591
      have hcd2598 : StrChars.Road.CodA ([(i2 &&& (255 : Int32))] : List Int32) 0 (1 : Int32) [(.int ((i2 &&& (255 : Int32)).toInt8.toInt32))] := StrChars.Road.codOf (cs := ([(i2 &&& (255 : Int32))] : List Int32)) (n := 1) rfl (fun c hc => (hp2572 c hc).2)
      show own_Go p e below _ T2592 (mkF m 164 #[.val (.int i0), .val (.int i1), .val (.int i2), .val (.int i3), .val (.int i4), .val (.int (2 : Int32)), .val (.int (1 : Int32)), .val (.int y1607), .val (.int y1616), .val (.int (i2 &&& (255 : Int32))), .val (.int (i3 &&& (255 : Int32))), .val (.ref a1628), .val (.ref a1644), .val (.ref a1667), .val (.ref a1676), .val (.ref a1693), .val (.ref a2525), .unset, .unset, .unset] [(.ref a2565)])
      refine own_seg C S2596 [(164, .astore 17, 2), (166, .goto 14, 3)] (by decide +kernel) 180 #[.val (.int i0), .val (.int i1), .val (.int i2), .val (.int i3), .val (.int i4), .val (.int (2 : Int32)), .val (.int (1 : Int32)), .val (.int y1607), .val (.int y1616), .val (.int (i2 &&& (255 : Int32))), .val (.int (i3 &&& (255 : Int32))), .val (.ref a1628), .val (.ref a1644), .val (.ref a1667), .val (.ref a1676), .val (.ref a1693), .val (.ref a2525), .val (.ref a2565), .unset, .unset] [] rfl ?_
      refine own_new C S2596 (own_wd hw 37 rfl) (own_wd hw 38 rfl) (own_wd hw 39 rfl) (by decide +kernel) (by decide) (by decide) ?_
      intro T2599 h2601 a2602 S2600 g2603 E2604 x2605 D2606
      have f2607 : Fld Z h2601 a2602 "com/example/nearfar_cache/nearfarcache/Namespace" "name" "Ljava/lang/String;" .null := D2606 (ty := (.object "java/lang/String")) (Or.inr (own_wd hw 112 rfl)) own_fd3
      refine own_seg C S2600 [(183, .dup, 1), (184, .aload 16, 2)] (by decide +kernel) 186 #[.val (.int i0), .val (.int i1), .val (.int i2), .val (.int i3), .val (.int i4), .val (.int (2 : Int32)), .val (.int (1 : Int32)), .val (.int y1607), .val (.int y1616), .val (.int (i2 &&& (255 : Int32))), .val (.int (i3 &&& (255 : Int32))), .val (.ref a1628), .val (.ref a1644), .val (.ref a1667), .val (.ref a1676), .val (.ref a1693), .val (.ref a2525), .val (.ref a2565), .unset, .unset] [(.ref a2525), (.ref a2602), (.ref a2602)] rfl ?_
      have f2608 : Old Z n0 h2601 := ((f2581.keep K2582 (allS g2575 all0)).ext E2604)
      have f2609 : Exa Z h2601 a2525 "java/lang/String" := (Exa.ext E2604 ((Exa.ext E2567 x2543).keep K2582))
      have f2610 : a2525 < h2553.size := (Nat.lt_of_lt_of_le f2531.lt K2542.1)
      have n2611 : a2525 ≠ a2565 := by rw [g2566]; exact Nat.ne_of_lt f2610
      have f2612 : Fld Z h2601 a2525 "java/lang/String" "value" "[B" (.ref t2545) := (Fld.ext E2604 ((Fld.ext E2567 f2550).keep K2582 (ninS n2611 nin0)))
      have f2613 : Fld Z h2601 a2525 "java/lang/String" "coder" "B" (.int 0) := (Fld.ext E2604 ((Fld.ext E2567 f2544).keep K2582 (ninS n2611 nin0)))
      have n2614 : t2545 ≠ a2565 := by rw [g2566]; exact Nat.ne_of_lt f2557.lt
      have f2615 : Arv Z h2601 t2545 k2546 .byte (2 : Int32) ([(.int y1607.toInt8.toInt32), (.int y1616.toInt8.toInt32)]) (.int 0) := (((f2557.ext E2567).keep K2582 (ninS n2614 nin0)).ext E2604)
      have f2616 : n0 ≤ h2601.size := (Nat.le_trans (Nat.le_trans f2573 K2582.1) E2604.1)
      have f2617 : n0 ≤ h2593.size := (Nat.le_trans f2573 K2582.1)
      have g2618 : n0 ≤ a2602 := by rw [g2603]; exact f2617
      have f2627 : t2585 < h2601.size := (Nat.lt_of_lt_of_le f2597.lt E2604.1)
      have f2628 : a2565 < h2601.size := (Nat.lt_of_lt_of_le (Nat.lt_of_lt_of_le f2571.lt K2582.1) E2604.1)
      have f2629 : t2545 < h2601.size := (Nat.lt_of_lt_of_le (Nat.lt_of_lt_of_le (Nat.lt_of_lt_of_le f2557.lt E2567.1) K2582.1) E2604.1)
      have f2630 : a2525 < h2601.size := (Nat.lt_of_lt_of_le (Nat.lt_of_lt_of_le (Nat.lt_of_lt_of_le f2610 E2567.1) K2582.1) E2604.1)
      have f2631 : a1693 < h2601.size := (Nat.lt_of_lt_of_le (Nat.lt_of_lt_of_le (Nat.lt_of_lt_of_le (Nat.lt_of_lt_of_le (Nat.lt_of_lt_of_le (by rw [W1710.size]; exact (by rw [W1704.size]; exact f1698.lt)) E2527.1) K2542.1) E2567.1) K2582.1) E2604.1)
      have f2632 : a1676 < h2601.size := (Nat.lt_of_lt_of_le (Nat.lt_of_lt_of_le (Nat.lt_of_lt_of_le (Nat.lt_of_lt_of_le (Nat.lt_of_lt_of_le f2578 E2527.1) K2542.1) E2567.1) K2582.1) E2604.1)
      have f2633 : a1667 < h2601.size := (Nat.lt_of_lt_of_le (Nat.lt_of_lt_of_le (Nat.lt_of_lt_of_le (Nat.lt_of_lt_of_le (Nat.lt_of_lt_of_le (by rw [W1710.size]; exact (by rw [W1704.size]; exact (Nat.lt_of_lt_of_le (by rw [W1687.size]; exact (Nat.lt_of_lt_of_le f1672.lt E1679.1)) E1696.1))) E2527.1) K2542.1) E2567.1) K2582.1) E2604.1)
      have f2634 : a1644 < h2601.size := (Nat.lt_of_lt_of_le (Nat.lt_of_lt_of_le (Nat.lt_of_lt_of_le (Nat.lt_of_lt_of_le (Nat.lt_of_lt_of_le (by rw [W1710.size]; exact (by rw [W1704.size]; exact (Nat.lt_of_lt_of_le f2538 E1696.1))) E2527.1) K2542.1) E2567.1) K2582.1) E2604.1)
      have f2635 : a1628 < h2601.size := (Nat.lt_of_lt_of_le (Nat.lt_of_lt_of_le (Nat.lt_of_lt_of_le (Nat.lt_of_lt_of_le (Nat.lt_of_lt_of_le (by rw [W1710.size]; exact (by rw [W1704.size]; exact (Nat.lt_of_lt_of_le (by rw [W1687.size]; exact (Nat.lt_of_lt_of_le (Nat.lt_of_lt_of_le (by rw [W1661.size]; exact (by rw [W1655.size]; exact (Nat.lt_of_lt_of_le (by rw [W1638.size]; exact f1633.lt) E1647.1))) E1670.1) E1679.1)) E1696.1))) E2527.1) K2542.1) E2567.1) K2582.1) E2604.1)
      have SW2636 : own_SW p l e room_1 s m #[(.int i0), (.int i1), (.int i2), (.int i3), (.int i4)] below meth c n0 Z own_EL "com/example/nearfar_cache/nearfarcache/redis/RedisKeysOfPinLaw" T2599 h2601 [a1628, a1644, a1667, a1676, a1693, a2525, t2545, a2565, t2585, a2602] 10 18 := rb1606 _ _ _ _ [] [a1628, a1644, a1667, a1676, a1693, a2525, t2545, a2565, t2585, a2602] S2600 (((((((((((((((((Keep.refl _ _).ext E1631).wr W1638 (Or.inr (by rw [g1630]; exact (Nat.le_refl _)))).ext E1647).wr W1655 (Or.inr (by rw [g1646]; exact (by rw [W1638.size]; exact (Nat.le_trans (Nat.le_refl _) E1631.1))))).wr W1661 (Or.inr (by rw [g1646]; exact (by rw [W1638.size]; exact (Nat.le_trans (Nat.le_refl _) E1631.1))))).ext E1670).ext E1679).wr W1687 (Or.inr (by rw [g1678]; exact (Nat.le_trans (by rw [W1661.size]; exact (by rw [W1655.size]; exact (Nat.le_trans (by rw [W1638.size]; exact (Nat.le_trans (Nat.le_refl _) E1631.1)) E1647.1))) E1670.1)))).ext E1696).wr W1704 (Or.inr (by rw [g1695]; exact (by rw [W1687.size]; exact (Nat.le_trans (Nat.le_trans (by rw [W1661.size]; exact (by rw [W1655.size]; exact (Nat.le_trans (by rw [W1638.size]; exact (Nat.le_trans (Nat.le_refl _) E1631.1)) E1647.1))) E1670.1) E1679.1))))).wr W1710 (Or.inr (by rw [g1695]; exact (by rw [W1687.size]; exact (Nat.le_trans (Nat.le_trans (by rw [W1661.size]; exact (by rw [W1655.size]; exact (Nat.le_trans (by rw [W1638.size]; exact (Nat.le_trans (Nat.le_refl _) E1631.1)) E1647.1))) E1670.1) E1679.1))))).ext E2527).trans K2542 (allS (Or.inr (by rw [g2526]; exact (by rw [W1710.size]; exact (by rw [W1704.size]; exact (Nat.le_trans (by rw [W1687.size]; exact (Nat.le_trans (Nat.le_trans (by rw [W1661.size]; exact (by rw [W1655.size]; exact (Nat.le_trans (by rw [W1638.size]; exact (Nat.le_trans (Nat.le_refl _) E1631.1)) E1647.1))) E1670.1) E1679.1)) E1696.1))))) all0)).ext E2567).trans K2582 (allS (Or.inr (by rw [g2566]; exact (Nat.le_trans (Nat.le_trans (by rw [W1710.size]; exact (by rw [W1704.size]; exact (Nat.le_trans (by rw [W1687.size]; exact (Nat.le_trans (Nat.le_trans (by rw [W1661.size]; exact (by rw [W1655.size]; exact (Nat.le_trans (by rw [W1638.size]; exact (Nat.le_trans (Nat.le_refl _) E1631.1)) E1647.1))) E1670.1) E1679.1)) E1696.1))) E2527.1) K2542.1))) all0)).ext E2604) all0 (allS ⟨(by rw [g1630]; exact (Nat.le_refl _)), f2635⟩ (allS ⟨(by rw [g1646]; exact (by rw [W1638.size]; exact (Nat.le_trans (Nat.le_refl _) E1631.1))), f2634⟩ (allS ⟨(by rw [g1669]; exact (by rw [W1661.size]; exact (by rw [W1655.size]; exact (Nat.le_trans (by rw [W1638.size]; exact (Nat.le_trans (Nat.le_refl _) E1631.1)) E1647.1)))), f2633⟩ (allS ⟨(by rw [g1678]; exact (Nat.le_trans (by rw [W1661.size]; exact (by rw [W1655.size]; exact (Nat.le_trans (by rw [W1638.size]; exact (Nat.le_trans (Nat.le_refl _) E1631.1)) E1647.1))) E1670.1)), f2632⟩ (allS ⟨(by rw [g1695]; exact (by rw [W1687.size]; exact (Nat.le_trans (Nat.le_trans (by rw [W1661.size]; exact (by rw [W1655.size]; exact (Nat.le_trans (by rw [W1638.size]; exact (Nat.le_trans (Nat.le_refl _) E1631.1)) E1647.1))) E1670.1) E1679.1))), f2631⟩ (allS ⟨(by rw [g2526]; exact (by rw [W1710.size]; exact (by rw [W1704.size]; exact (Nat.le_trans (by rw [W1687.size]; exact (Nat.le_trans (Nat.le_trans (by rw [W1661.size]; exact (by rw [W1655.size]; exact (Nat.le_trans (by rw [W1638.size]; exact (Nat.le_trans (Nat.le_refl _) E1631.1)) E1647.1))) E1670.1) E1679.1)) E1696.1)))), f2630⟩ (allS ⟨(Nat.le_trans (Nat.le_trans (by rw [W1710.size]; exact (by rw [W1704.size]; exact (Nat.le_trans (by rw [W1687.size]; exact (Nat.le_trans (Nat.le_trans (by rw [W1661.size]; exact (by rw [W1655.size]; exact (Nat.le_trans (by rw [W1638.size]; exact (Nat.le_trans (Nat.le_refl _) E1631.1)) E1647.1))) E1670.1) E1679.1)) E1696.1))) E2527.1) g2548), f2629⟩ (allS ⟨(by rw [g2566]; exact (Nat.le_trans (Nat.le_trans (by rw [W1710.size]; exact (by rw [W1704.size]; exact (Nat.le_trans (by rw [W1687.size]; exact (Nat.le_trans (Nat.le_trans (by rw [W1661.size]; exact (by rw [W1655.size]; exact (Nat.le_trans (by rw [W1638.size]; exact (Nat.le_trans (Nat.le_refl _) E1631.1)) E1647.1))) E1670.1) E1679.1)) E1696.1))) E2527.1) K2542.1)), f2628⟩ (allS ⟨(Nat.le_trans (Nat.le_trans (Nat.le_trans (Nat.le_trans (by rw [W1710.size]; exact (by rw [W1704.size]; exact (Nat.le_trans (by rw [W1687.size]; exact (Nat.le_trans (Nat.le_trans (by rw [W1661.size]; exact (by rw [W1655.size]; exact (Nat.le_trans (by rw [W1638.size]; exact (Nat.le_trans (Nat.le_refl _) E1631.1)) E1647.1))) E1670.1) E1679.1)) E1696.1))) E2527.1) K2542.1) E2567.1) g2588), f2627⟩ (allS ⟨(by rw [g2603]; exact (Nat.le_trans (Nat.le_trans (Nat.le_trans (Nat.le_trans (by rw [W1710.size]; exact (by rw [W1704.size]; exact (Nat.le_trans (by rw [W1687.size]; exact (Nat.le_trans (Nat.le_trans (by rw [W1661.size]; exact (by rw [W1655.size]; exact (Nat.le_trans (by rw [W1638.size]; exact (Nat.le_trans (Nat.le_refl _) E1631.1)) E1647.1))) E1670.1) E1679.1)) E1696.1))) E2527.1) K2542.1) E2567.1) K2582.1)), x2605.lt⟩ all0))))))))))
      refine own_callIW CW SW2636 rfl (own_wd hw 40 rfl) (own_wd hw 41 rfl) (own_wd hw 39 rfl) (own_wd hw 42 rfl) (by decide) (own_ns l Z a0 hw hEL wS G1 G3 a2602 a2525 t2545 k2546 (2 : Int32) ([(.int y1607.toInt8.toInt32), (.int y1616.toInt8.toInt32)]) ([y1607, y1616] : List Int32) h2601 n0 f2616 g2618 f2608 f2609 f2612 f2613 f2615 x2605 f2607 O2 O4 P5 rG3 hcd2558 hp2532 (Nat.le_of_ble_eq_true rfl) (by simp) hne2561 (by simp)) all0 1 (by decide) (by decide) [(.ref a2525)] [(.ref a2602)] rfl own_pd7 rfl rfl rfl (Nat.le_of_ble_eq_true rfl) (by decide) (by decide) (by decide +kernel) ?_
      rintro T2637 h2638 v2639 SW2640 hg2641 ⟨rfl, K2619, f2620, f2621⟩
      replace SW2640 : own_SW p l e room_1 s m #[(.int i0), (.int i1), (.int i2), (.int i3), (.int i4)] below meth c n0 Z own_EL "com/example/nearfar_cache/nearfarcache/redis/RedisKeysOfPinLaw" T2637 h2638 [a1628, a1644, a1667, a1676, a1693, a2525, t2545, a2565, t2585, a2602] 14 70 := SW2640
      show own_Go p e below _ T2637 (mkF m 189 #[.val (.int i0), .val (.int i1), .val (.int i2), .val (.int i3), .val (.int i4), .val (.int (2 : Int32)), .val (.int (1 : Int32)), .val (.int y1607), .val (.int y1616), .val (.int (i2 &&& (255 : Int32))), .val (.int (i3 &&& (255 : Int32))), .val (.ref a1628), .val (.ref a1644), .val (.ref a1667), .val (.ref a1676), .val (.ref a1693), .val (.ref a2525), .val (.ref a2565), .unset, .unset] [(.ref a2602)])
      refine own_lift CW SW2640 ?_
      intro vm2642 C S2643 rb2644
      refine own_seg C S2643 [(189, .astore 18, 2), (191, .aload 18, 2), (193, .aload 17, 2)] (by decide +kernel) 195 #[.val (.int i0), .val (.int i1), .val (.int i2), .val (.int i3), .val (.int i4), .val (.int (2 : Int32)), .val (.int (1 : Int32)), .val (.int y1607), .val (.int y1616), .val (.int (i2 &&& (255 : Int32))), .val (.int (i3 &&& (255 : Int32))), .val (.ref a1628), .val (.ref a1644), .val (.ref a1667), .val (.ref a1676), .val (.ref a1693), .val (.ref a2525), .val (.ref a2565), .val (.ref a2602), .unset] [(.ref a2565), (.ref a2602)] rfl ?_
      have f2645 : Old Z n0 h2638 := (f2608.keep K2619 (allS g2618 all0))
      have f2646 : Exa Z h2638 a2525 "java/lang/String" := (f2609.keep K2619)
      have f2647 : a2525 < h2593.size := (Nat.lt_of_lt_of_le (Nat.lt_of_lt_of_le f2610 E2567.1) K2582.1)
      have n2648 : a2525 ≠ a2602 := by rw [g2603]; exact Nat.ne_of_lt f2647
      have f2649 : Fld Z h2638 a2525 "java/lang/String" "value" "[B" (.ref t2545) := (f2612.keep K2619 (ninS n2648 nin0))
      have f2650 : Fld Z h2638 a2525 "java/lang/String" "coder" "B" (.int 0) := (f2613.keep K2619 (ninS n2648 nin0))
      have f2651 : t2545 < h2593.size := (Nat.lt_of_lt_of_le (Nat.lt_of_lt_of_le f2557.lt E2567.1) K2582.1)
      have n2652 : t2545 ≠ a2602 := by rw [g2603]; exact Nat.ne_of_lt f2651
      have f2653 : Arv Z h2638 t2545 k2546 .byte (2 : Int32) ([(.int y1607.toInt8.toInt32), (.int y1616.toInt8.toInt32)]) (.int 0) := (f2615.keep K2619 (ninS n2652 nin0))
      have f2654 : Exa Z h2638 a2565 "java/lang/String" := ((Exa.ext E2604 x2583).keep K2619)
      have f2655 : a2565 < h2593.size := (Nat.lt_of_lt_of_le f2571.lt K2582.1)
      have n2656 : a2565 ≠ a2602 := by rw [g2603]; exact Nat.ne_of_lt f2655
      have f2657 : Fld Z h2638 a2565 "java/lang/String" "value" "[B" (.ref t2585) := ((Fld.ext E2604 f2590).keep K2619 (ninS n2656 nin0))
      have f2658 : Fld Z h2638 a2565 "java/lang/String" "coder" "B" (.int 0) := ((Fld.ext E2604 f2584).keep K2619 (ninS n2656 nin0))
      have n2659 : t2585 ≠ a2602 := by rw [g2603]; exact Nat.ne_of_lt f2597.lt
      have f2660 : Arv Z h2638 t2585 k2586 .byte (1 : Int32) ([(.int ((i2 &&& (255 : Int32)).toInt8.toInt32))]) (.int 0) := ((f2597.ext E2604).keep K2619 (ninS n2659 nin0))
      have f2661 : n0 ≤ h2638.size := (Nat.le_trans f2616 K2619.1)
      have SW2677 : own_SW p l e room_1 s m #[(.int i0), (.int i1), (.int i2), (.int i3), (.int i4)] below meth c n0 Z own_EL "com/example/nearfar_cache/nearfarcache/redis/RedisKeysOfPinLaw" T2637 h2638 [a1628, a1644, a1667, a1676, a1693, a2525, t2545, a2565, t2585, a2602] 14 70 := rb2644 _ _ _ _ [] [] S2643 (Keep.refl _ _) all0 all0
      refine own_callSW CW SW2677 (own_wd hw 113 rfl) (own_wd hw 114 rfl) (own_wd hw 115 rfl) (own_wd hw 116 rfl) (by decide) (own_of21 l Z a0 hw hEL wS G1 G3 a2602 a2525 t2545 k2546 y1607 y1616 a2565 t2585 k2586 (i2 &&& (255 : Int32)) h2638 n0 f2661 f2645 f2620 f2621 f2646 f2649 f2650 f2653 f2654 f2657 f2658 f2660 O2 O4 P5 rG3 p1609.1 p1618.1 ((own_Ch.of i2).1)) all0 0 (by decide) (by decide) [(.ref a2602), (.ref a2565)] [] rfl own_pd28 rfl rfl rfl (Nat.le_of_ble_eq_true rfl) (by decide) (by decide) (by decide +kernel) ?_
      rintro T2678 h2679 v2680 SW2681 hg2682 ⟨a2662, a2663, k2664, rfl, g2665, g2666, K2667, f2668, f2669, f2670, f2671⟩
      replace SW2681 : own_SW p l e room_1 s m #[(.int i0), (.int i1), (.int i2), (.int i3), (.int i4)] below meth c n0 Z own_EL "com/example/nearfar_cache/nearfarcache/redis/RedisKeysOfPinLaw" T2678 h2679 [a1628, a1644, a1667, a1676, a1693, a2525, t2545, a2565, t2585, a2602] 22 214 := SW2681
      show own_Go p e below _ T2678 (mkF m 198 #[.val (.int i0), .val (.int i1), .val (.int i2), .val (.int i3), .val (.int i4), .val (.int (2 : Int32)), .val (.int (1 : Int32)), .val (.int y1607), .val (.int y1616), .val (.int (i2 &&& (255 : Int32))), .val (.int (i3 &&& (255 : Int32))), .val (.ref a1628), .val (.ref a1644), .val (.ref a1667), .val (.ref a1676), .val (.ref a1693), .val (.ref a2525), .val (.ref a2565), .val (.ref a2602), .unset] [(.ref a2662)])
      have hp2683 : ∀ c ∈ ([y1607, y1616, (58 : Int32), (i2 &&& (255 : Int32))] : List Int32), ¬ c < 0 ∧ ¬ (255 : Int32) < c := by
        intro c hc; simp only [List.mem_cons, List.not_mem_nil, or_false] at hc
        rcases hc with rfl | rfl | rfl | rfl
        · exact p1609.1
        · exact p1618.1
        · exact (by decide)
        · exact (own_Ch.of i2).1
      have hcd2684 : StrChars.Road.CodA ([y1607, y1616, (58 : Int32), (i2 &&& (255 : Int32))] : List Int32) 0 (4 : Int32) [(.int y1607.toInt8.toInt32), (.int y1616.toInt8.toInt32), (.int (58 : Int32)), (.int (i2 &&& (255 : Int32)).toInt8.toInt32)] := StrChars.Road.codOf (cs := ([y1607, y1616, (58 : Int32), (i2 &&& (255 : Int32))] : List Int32)) (n := 4) rfl (fun c hc => (hp2683 c hc).2)
      refine own_lift CW SW2681 ?_
      intro vm2685 C S2686 rb2687
      refine own_seg C S2686 [(198, .astore 19, 2), (200, .aload 19, 2)] (by decide +kernel) 202 #[.val (.int i0), .val (.int i1), .val (.int i2), .val (.int i3), .val (.int i4), .val (.int (2 : Int32)), .val (.int (1 : Int32)), .val (.int y1607), .val (.int y1616), .val (.int (i2 &&& (255 : Int32))), .val (.int (i3 &&& (255 : Int32))), .val (.ref a1628), .val (.ref a1644), .val (.ref a1667), .val (.ref a1676), .val (.ref a1693), .val (.ref a2525), .val (.ref a2565), .val (.ref a2602), .val (.ref a2662)] [(.ref a2662)] rfl ?_
      have f2688 : Old Z n0 h2679 := (f2645.keep K2667 all0)
      refine own_callV C S2686 (own_wd hw 236 rfl) (own_wd hw 75 rfl) (own_wd hw 77 rfl) (y' := ⟨"java/lang/String", "length", "()I"⟩) rfl (own_wd hw 77 rfl) (own_wd hw 76 rfl) (by decide) (Q := (fun v h' L => v = some (.int (Int32.ofNat (([y1607, y1616, (58 : Int32), (i2 &&& (255 : Int32))] : List Int32)).length)) ∧ L = [] ∧ h' = h2679)) (StrChars.Road.lenW (W := 0) C.2.2.2.2.2.2.2 (fun d hd => hw d (own_hln d hd)) (kI := 4) (own_wd hw 6 rfl) f2668 f2670 f2669 f2671 hcd2684 (own_up _ hp2683) (O2.ext f2688.2) P5 (Nat.le_of_ble_eq_true rfl) (by decide) (by decide)) (fun _ _ L q => by rw [q.2.1]; exact Fr.nil _) f2668 [] [] rfl own_pd4 rfl rfl rfl (Nat.le_of_ble_eq_true rfl) (by decide) (by decide) (by decide +kernel) ?_
      rintro T2690 h2691 v2692 L2693 S2694 ⟨rfl, -, e2689⟩
      replace S2694 : own_S p l e room_1 (s.setVm vm2685) m #[(.int i0), (.int i1), (.int i2), (.int i3), (.int i4)] below meth c n0 T2690 h2691 22 214 := S2694
      rw [e2689] at S2694; clear e2689
      show own_Go p e below _ T2690 (mkF m 205 #[.val (.int i0), .val (.int i1), .val (.int i2), .val (.int i3), .val (.int i4), .val (.int (2 : Int32)), .val (.int (1 : Int32)), .val (.int y1607), .val (.int y1616), .val (.int (i2 &&& (255 : Int32))), .val (.int (i3 &&& (255 : Int32))), .val (.ref a1628), .val (.ref a1644), .val (.ref a1667), .val (.ref a1676), .val (.ref a1693), .val (.ref a2525), .val (.ref a2565), .val (.ref a2602), .val (.ref a2662)] [(.int (4 : Int32))])
      refine own_seg C S2694 [(205, .iload 5, 2), (207, .iconst 1, 1), (208, .iadd, 1), (209, .iload 6, 2), (211, .iadd, 1)] (by decide +kernel) 212 #[.val (.int i0), .val (.int i1), .val (.int i2), .val (.int i3), .val (.int i4), .val (.int (2 : Int32)), .val (.int (1 : Int32)), .val (.int y1607), .val (.int y1616), .val (.int (i2 &&& (255 : Int32))), .val (.int (i3 &&& (255 : Int32))), .val (.ref a1628), .val (.ref a1644), .val (.ref a1667), .val (.ref a1676), .val (.ref a1693), .val (.ref a2525), .val (.ref a2565), .val (.ref a2602), .val (.ref a2662)] [(.int (((2 : Int32) + (1 : Int32)) + (1 : Int32))), (.int (4 : Int32))] rfl ?_
      refine own_icmp C S2694 (q := .eq) (o := 5) (by decide +kernel) 217 (by decide) (by decide) (fun (q2695 : (4 : Int32) = (((2 : Int32) + (1 : Int32)) + (1 : Int32))) => ?_) (fun (hq : ¬ (4 : Int32) = (((2 : Int32) + (1 : Int32)) + (1 : Int32))) => False.elim (by revert hq; decide))
      refine own_seg C S2694 [(217, .aload 19, 2), (219, .iconst 0, 1)] (by decide +kernel) 220 #[.val (.int i0), .val (.int i1), .val (.int i2), .val (.int i3), .val (.int i4), .val (.int (2 : Int32)), .val (.int (1 : Int32)), .val (.int y1607), .val (.int y1616), .val (.int (i2 &&& (255 : Int32))), .val (.int (i3 &&& (255 : Int32))), .val (.ref a1628), .val (.ref a1644), .val (.ref a1667), .val (.ref a1676), .val (.ref a1693), .val (.ref a2525), .val (.ref a2565), .val (.ref a2602), .val (.ref a2662)] [(.int (0 : Int32)), (.ref a2662)] rfl ?_
      refine own_callV C S2694 (own_wd hw 237 rfl) (own_wd hw 238 rfl) (own_wd hw 240 rfl) (y' := ⟨"java/lang/String", "charAt", "(I)C"⟩) rfl (own_wd hw 240 rfl) (own_wd hw 239 rfl) (by decide) (Q := (fun v h' L => v = some (.int ((([y1607, y1616, (58 : Int32), (i2 &&& (255 : Int32))] : List Int32)).getD 0 0)) ∧ L = [] ∧ h' = h2679)) (StrChars.Road.chN (W := 0) C.2.2.2.2.2.2.2 (fun d hd => hw d (own_hch d hd)) (kI := 4) (own_wd hw 6 rfl) f2668 f2670 f2669 f2671 hcd2684 (own_up _ hp2683) (O2.ext f2688.2) P5 (O4.ext f2688.2) rG3 (Nat.le_of_ble_eq_true rfl) (i := 0) (Nat.le_of_ble_eq_true rfl) rfl (by decide) (by decide)) (fun _ _ L q => by rw [q.2.1]; exact Fr.nil _) f2668 [(.int (0 : Int32))] [] rfl own_pd26 rfl rfl rfl (Nat.le_of_ble_eq_true rfl) (by decide) (by decide) (by decide +kernel) ?_
      rintro T2697 h2698 v2699 L2700 S2701 ⟨rfl, -, e2696⟩
      replace S2701 : own_S p l e room_1 (s.setVm vm2685) m #[(.int i0), (.int i1), (.int i2), (.int i3), (.int i4)] below meth c n0 T2697 h2698 22 214 := S2701
      rw [e2696] at S2701; clear e2696
      show own_Go p e below _ T2697 (mkF m 223 #[.val (.int i0), .val (.int i1), .val (.int i2), .val (.int i3), .val (.int i4), .val (.int (2 : Int32)), .val (.int (1 : Int32)), .val (.int y1607), .val (.int y1616), .val (.int (i2 &&& (255 : Int32))), .val (.int (i3 &&& (255 : Int32))), .val (.ref a1628), .val (.ref a1644), .val (.ref a1667), .val (.ref a1676), .val (.ref a1693), .val (.ref a2525), .val (.ref a2565), .val (.ref a2602), .val (.ref a2662)] [(.int y1607)])
      refine own_seg C S2701 [(223, .iload 7, 2)] (by decide +kernel) 225 #[.val (.int i0), .val (.int i1), .val (.int i2), .val (.int i3), .val (.int i4), .val (.int (2 : Int32)), .val (.int (1 : Int32)), .val (.int y1607), .val (.int y1616), .val (.int (i2 &&& (255 : Int32))), .val (.int (i3 &&& (255 : Int32))), .val (.ref a1628), .val (.ref a1644), .val (.ref a1667), .val (.ref a1676), .val (.ref a1693), .val (.ref a2525), .val (.ref a2565), .val (.ref a2602), .val (.ref a2662)] [(.int y1607), (.int y1607)] rfl ?_
      refine own_icmp C S2701 (q := .eq) (o := 5) (by decide +kernel) 230 (by decide) (by decide) (fun (q2702 : y1607 = y1607) => ?_) (fun (hq : ¬ y1607 = y1607) => False.elim (hq rfl))
      refine own_seg C S2701 [(230, .iload 5, 2), (232, .iconst 2, 1)] (by decide +kernel) 233 #[.val (.int i0), .val (.int i1), .val (.int i2), .val (.int i3), .val (.int i4), .val (.int (2 : Int32)), .val (.int (1 : Int32)), .val (.int y1607), .val (.int y1616), .val (.int (i2 &&& (255 : Int32))), .val (.int (i3 &&& (255 : Int32))), .val (.ref a1628), .val (.ref a1644), .val (.ref a1667), .val (.ref a1676), .val (.ref a1693), .val (.ref a2525), .val (.ref a2565), .val (.ref a2602), .val (.ref a2662)] [(.int (2 : Int32)), (.int (2 : Int32))] rfl ?_
      refine own_icmp C S2701 (q := .ne) (o := 16) (by decide +kernel) 249 (by decide) (by decide) (fun (hq : ¬ (2 : Int32) = (2 : Int32)) => False.elim (by revert hq; decide)) (fun (q2703 : (2 : Int32) = (2 : Int32)) => ?_)
      refine own_seg C S2701 [(236, .aload 19, 2), (238, .iconst 1, 1)] (by decide +kernel) 239 #[.val (.int i0), .val (.int i1), .val (.int i2), .val (.int i3), .val (.int i4), .val (.int (2 : Int32)), .val (.int (1 : Int32)), .val (.int y1607), .val (.int y1616), .val (.int (i2 &&& (255 : Int32))), .val (.int (i3 &&& (255 : Int32))), .val (.ref a1628), .val (.ref a1644), .val (.ref a1667), .val (.ref a1676), .val (.ref a1693), .val (.ref a2525), .val (.ref a2565), .val (.ref a2602), .val (.ref a2662)] [(.int (1 : Int32)), (.ref a2662)] rfl ?_
      refine own_callV C S2701 (own_wd hw 237 rfl) (own_wd hw 238 rfl) (own_wd hw 240 rfl) (y' := ⟨"java/lang/String", "charAt", "(I)C"⟩) rfl (own_wd hw 240 rfl) (own_wd hw 239 rfl) (by decide) (Q := (fun v h' L => v = some (.int ((([y1607, y1616, (58 : Int32), (i2 &&& (255 : Int32))] : List Int32)).getD 1 0)) ∧ L = [] ∧ h' = h2679)) (StrChars.Road.chN (W := 0) C.2.2.2.2.2.2.2 (fun d hd => hw d (own_hch d hd)) (kI := 4) (own_wd hw 6 rfl) f2668 f2670 f2669 f2671 hcd2684 (own_up _ hp2683) (O2.ext f2688.2) P5 (O4.ext f2688.2) rG3 (Nat.le_of_ble_eq_true rfl) (i := 1) (Nat.le_of_ble_eq_true rfl) rfl (by decide) (by decide)) (fun _ _ L q => by rw [q.2.1]; exact Fr.nil _) f2668 [(.int (1 : Int32))] [] rfl own_pd26 rfl rfl rfl (Nat.le_of_ble_eq_true rfl) (by decide) (by decide) (by decide +kernel) ?_
      rintro T2705 h2706 v2707 L2708 S2709 ⟨rfl, -, e2704⟩
      replace S2709 : own_S p l e room_1 (s.setVm vm2685) m #[(.int i0), (.int i1), (.int i2), (.int i3), (.int i4)] below meth c n0 T2705 h2706 22 214 := S2709
      rw [e2704] at S2709; clear e2704
      show own_Go p e below _ T2705 (mkF m 242 #[.val (.int i0), .val (.int i1), .val (.int i2), .val (.int i3), .val (.int i4), .val (.int (2 : Int32)), .val (.int (1 : Int32)), .val (.int y1607), .val (.int y1616), .val (.int (i2 &&& (255 : Int32))), .val (.int (i3 &&& (255 : Int32))), .val (.ref a1628), .val (.ref a1644), .val (.ref a1667), .val (.ref a1676), .val (.ref a1693), .val (.ref a2525), .val (.ref a2565), .val (.ref a2602), .val (.ref a2662)] [(.int y1616)])
      refine own_seg C S2709 [(242, .iload 8, 2)] (by decide +kernel) 244 #[.val (.int i0), .val (.int i1), .val (.int i2), .val (.int i3), .val (.int i4), .val (.int (2 : Int32)), .val (.int (1 : Int32)), .val (.int y1607), .val (.int y1616), .val (.int (i2 &&& (255 : Int32))), .val (.int (i3 &&& (255 : Int32))), .val (.ref a1628), .val (.ref a1644), .val (.ref a1667), .val (.ref a1676), .val (.ref a1693), .val (.ref a2525), .val (.ref a2565), .val (.ref a2602), .val (.ref a2662)] [(.int y1616), (.int y1616)] rfl ?_
      refine own_icmp C S2709 (q := .eq) (o := 5) (by decide +kernel) 249 (by decide) (by decide) (fun (q2710 : y1616 = y1616) => ?_) (fun (hq : ¬ y1616 = y1616) => False.elim (hq rfl))
      refine own_seg C S2709 [(249, .aload 19, 2), (251, .iload 5, 2)] (by decide +kernel) 253 #[.val (.int i0), .val (.int i1), .val (.int i2), .val (.int i3), .val (.int i4), .val (.int (2 : Int32)), .val (.int (1 : Int32)), .val (.int y1607), .val (.int y1616), .val (.int (i2 &&& (255 : Int32))), .val (.int (i3 &&& (255 : Int32))), .val (.ref a1628), .val (.ref a1644), .val (.ref a1667), .val (.ref a1676), .val (.ref a1693), .val (.ref a2525), .val (.ref a2565), .val (.ref a2602), .val (.ref a2662)] [(.int (2 : Int32)), (.ref a2662)] rfl ?_
      refine own_callV C S2709 (own_wd hw 237 rfl) (own_wd hw 238 rfl) (own_wd hw 240 rfl) (y' := ⟨"java/lang/String", "charAt", "(I)C"⟩) rfl (own_wd hw 240 rfl) (own_wd hw 239 rfl) (by decide) (Q := (fun v h' L => v = some (.int ((([y1607, y1616, (58 : Int32), (i2 &&& (255 : Int32))] : List Int32)).getD 2 0)) ∧ L = [] ∧ h' = h2679)) (StrChars.Road.chN (W := 0) C.2.2.2.2.2.2.2 (fun d hd => hw d (own_hch d hd)) (kI := 4) (own_wd hw 6 rfl) f2668 f2670 f2669 f2671 hcd2684 (own_up _ hp2683) (O2.ext f2688.2) P5 (O4.ext f2688.2) rG3 (Nat.le_of_ble_eq_true rfl) (i := 2) (Nat.le_of_ble_eq_true rfl) rfl (by decide) (by decide)) (fun _ _ L q => by rw [q.2.1]; exact Fr.nil _) f2668 [(.int (2 : Int32))] [] rfl own_pd26 rfl rfl rfl (Nat.le_of_ble_eq_true rfl) (by decide) (by decide) (by decide +kernel) ?_
      rintro T2712 h2713 v2714 L2715 S2716 ⟨rfl, -, e2711⟩
      replace S2716 : own_S p l e room_1 (s.setVm vm2685) m #[(.int i0), (.int i1), (.int i2), (.int i3), (.int i4)] below meth c n0 T2712 h2713 22 214 := S2716
      rw [e2711] at S2716; clear e2711
      show own_Go p e below _ T2712 (mkF m 256 #[.val (.int i0), .val (.int i1), .val (.int i2), .val (.int i3), .val (.int i4), .val (.int (2 : Int32)), .val (.int (1 : Int32)), .val (.int y1607), .val (.int y1616), .val (.int (i2 &&& (255 : Int32))), .val (.int (i3 &&& (255 : Int32))), .val (.ref a1628), .val (.ref a1644), .val (.ref a1667), .val (.ref a1676), .val (.ref a1693), .val (.ref a2525), .val (.ref a2565), .val (.ref a2602), .val (.ref a2662)] [(.int (58 : Int32))])
      refine own_seg C S2716 [(256, .bipush 58, 2)] (by decide +kernel) 258 #[.val (.int i0), .val (.int i1), .val (.int i2), .val (.int i3), .val (.int i4), .val (.int (2 : Int32)), .val (.int (1 : Int32)), .val (.int y1607), .val (.int y1616), .val (.int (i2 &&& (255 : Int32))), .val (.int (i3 &&& (255 : Int32))), .val (.ref a1628), .val (.ref a1644), .val (.ref a1667), .val (.ref a1676), .val (.ref a1693), .val (.ref a2525), .val (.ref a2565), .val (.ref a2602), .val (.ref a2662)] [(.int (58 : Int32)), (.int (58 : Int32))] rfl ?_
      refine own_icmp C S2716 (q := .eq) (o := 5) (by decide +kernel) 263 (by decide) (by decide) (fun (q2717 : (58 : Int32) = (58 : Int32)) => ?_) (fun (hq : ¬ (58 : Int32) = (58 : Int32)) => False.elim (by revert hq; decide))
      refine own_seg C S2716 [(263, .iload 6, 2), (265, .iconst 1, 1)] (by decide +kernel) 266 #[.val (.int i0), .val (.int i1), .val (.int i2), .val (.int i3), .val (.int i4), .val (.int (2 : Int32)), .val (.int (1 : Int32)), .val (.int y1607), .val (.int y1616), .val (.int (i2 &&& (255 : Int32))), .val (.int (i3 &&& (255 : Int32))), .val (.ref a1628), .val (.ref a1644), .val (.ref a1667), .val (.ref a1676), .val (.ref a1693), .val (.ref a2525), .val (.ref a2565), .val (.ref a2602), .val (.ref a2662)] [(.int (1 : Int32)), (.int (1 : Int32))] rfl ?_
      refine own_icmp C S2716 (q := .lt) (o := 19) (by decide +kernel) 285 (by decide) (by decide) (fun (hq : (1 : Int32) < (1 : Int32)) => False.elim (by revert hq; decide)) (fun (q2718 : ¬ (1 : Int32) < (1 : Int32)) => ?_)
      refine own_seg C S2716 [(269, .aload 19, 2), (271, .iload 5, 2), (273, .iconst 1, 1), (274, .iadd, 1)] (by decide +kernel) 275 #[.val (.int i0), .val (.int i1), .val (.int i2), .val (.int i3), .val (.int i4), .val (.int (2 : Int32)), .val (.int (1 : Int32)), .val (.int y1607), .val (.int y1616), .val (.int (i2 &&& (255 : Int32))), .val (.int (i3 &&& (255 : Int32))), .val (.ref a1628), .val (.ref a1644), .val (.ref a1667), .val (.ref a1676), .val (.ref a1693), .val (.ref a2525), .val (.ref a2565), .val (.ref a2602), .val (.ref a2662)] [(.int ((2 : Int32) + (1 : Int32))), (.ref a2662)] rfl ?_
      refine own_callV C S2716 (own_wd hw 237 rfl) (own_wd hw 238 rfl) (own_wd hw 240 rfl) (y' := ⟨"java/lang/String", "charAt", "(I)C"⟩) rfl (own_wd hw 240 rfl) (own_wd hw 239 rfl) (by decide) (Q := (fun v h' L => v = some (.int ((([y1607, y1616, (58 : Int32), (i2 &&& (255 : Int32))] : List Int32)).getD 3 0)) ∧ L = [] ∧ h' = h2679)) (StrChars.Road.chN (W := 0) C.2.2.2.2.2.2.2 (fun d hd => hw d (own_hch d hd)) (kI := 4) (own_wd hw 6 rfl) f2668 f2670 f2669 f2671 hcd2684 (own_up _ hp2683) (O2.ext f2688.2) P5 (O4.ext f2688.2) rG3 (Nat.le_of_ble_eq_true rfl) (i := 3) (Nat.le_of_ble_eq_true rfl) rfl (by decide) (by decide)) (fun _ _ L q => by rw [q.2.1]; exact Fr.nil _) f2668 [(.int ((2 : Int32) + (1 : Int32)))] [] rfl own_pd26 rfl rfl rfl (Nat.le_of_ble_eq_true rfl) (by decide) (by decide) (by decide +kernel) ?_
      rintro T2720 h2721 v2722 L2723 S2724 ⟨rfl, -, e2719⟩
      replace S2724 : own_S p l e room_1 (s.setVm vm2685) m #[(.int i0), (.int i1), (.int i2), (.int i3), (.int i4)] below meth c n0 T2720 h2721 22 214 := S2724
      rw [e2719] at S2724; clear e2719
      show own_Go p e below _ T2720 (mkF m 278 #[.val (.int i0), .val (.int i1), .val (.int i2), .val (.int i3), .val (.int i4), .val (.int (2 : Int32)), .val (.int (1 : Int32)), .val (.int y1607), .val (.int y1616), .val (.int (i2 &&& (255 : Int32))), .val (.int (i3 &&& (255 : Int32))), .val (.ref a1628), .val (.ref a1644), .val (.ref a1667), .val (.ref a1676), .val (.ref a1693), .val (.ref a2525), .val (.ref a2565), .val (.ref a2602), .val (.ref a2662)] [(.int (i2 &&& (255 : Int32)))])
      refine own_seg C S2724 [(278, .iload 9, 2)] (by decide +kernel) 280 #[.val (.int i0), .val (.int i1), .val (.int i2), .val (.int i3), .val (.int i4), .val (.int (2 : Int32)), .val (.int (1 : Int32)), .val (.int y1607), .val (.int y1616), .val (.int (i2 &&& (255 : Int32))), .val (.int (i3 &&& (255 : Int32))), .val (.ref a1628), .val (.ref a1644), .val (.ref a1667), .val (.ref a1676), .val (.ref a1693), .val (.ref a2525), .val (.ref a2565), .val (.ref a2602), .val (.ref a2662)] [(.int (i2 &&& (255 : Int32))), (.int (i2 &&& (255 : Int32)))] rfl ?_
      refine own_icmp C S2724 (q := .eq) (o := 5) (by decide +kernel) 285 (by decide) (by decide) (fun (q2725 : (i2 &&& (255 : Int32)) = (i2 &&& (255 : Int32))) => ?_) (fun (hq : ¬ (i2 &&& (255 : Int32)) = (i2 &&& (255 : Int32))) => False.elim (hq rfl))
      refine own_seg C S2724 [(285, .iload 6, 2), (287, .iconst 2, 1)] (by decide +kernel) 288 #[.val (.int i0), .val (.int i1), .val (.int i2), .val (.int i3), .val (.int i4), .val (.int (2 : Int32)), .val (.int (1 : Int32)), .val (.int y1607), .val (.int y1616), .val (.int (i2 &&& (255 : Int32))), .val (.int (i3 &&& (255 : Int32))), .val (.ref a1628), .val (.ref a1644), .val (.ref a1667), .val (.ref a1676), .val (.ref a1693), .val (.ref a2525), .val (.ref a2565), .val (.ref a2602), .val (.ref a2662)] [(.int (2 : Int32)), (.int (1 : Int32))] rfl ?_
      refine own_icmp C S2724 (q := .ne) (o := 19) (by decide +kernel) 307 (by decide) (by decide) (fun (q2726 : ¬ (1 : Int32) = (2 : Int32)) => ?_) (fun (hq : (1 : Int32) = (2 : Int32)) => False.elim (by revert hq; decide))
      refine own_seg C S2724 [(307, .iconst 1, 1)] (by decide +kernel) 308 #[.val (.int i0), .val (.int i1), .val (.int i2), .val (.int i3), .val (.int i4), .val (.int (2 : Int32)), .val (.int (1 : Int32)), .val (.int y1607), .val (.int y1616), .val (.int (i2 &&& (255 : Int32))), .val (.int (i3 &&& (255 : Int32))), .val (.ref a1628), .val (.ref a1644), .val (.ref a1667), .val (.ref a1676), .val (.ref a1693), .val (.ref a2525), .val (.ref a2565), .val (.ref a2602), .val (.ref a2662)] [(.int (1 : Int32))] rfl ?_
      have SW2727 : own_SW p l e room_1 s m #[(.int i0), (.int i1), (.int i2), (.int i3), (.int i4)] below meth c n0 Z own_EL "com/example/nearfar_cache/nearfarcache/redis/RedisKeysOfPinLaw" T2720 h2679 [a1628, a1644, a1667, a1676, a1693, a2525, t2545, a2565, t2585, a2602] 22 214 := rb2687 _ _ _ _ [] [] S2724 (Keep.refl _ _) all0 all0
      refine own_retZW CW SW2727 (by decide +kernel) (by decide) (by decide) (by decide) ?_
      rfl
    · rw [show ((Jvm.Free.XT.ushr i4 (1 : Int32)) % (3 : Int32)) = (2 : Int32) from qk]
      refine own_seg C S1708 [(99, .iload 5, 2), (101, .iconst 1, 1)] (by decide +kernel) 102 #[.val (.int i0), .val (.int i1), .val (.int i2), .val (.int i3), .val (.int i4), .val (.int (2 : Int32)), .val (.int (2 : Int32)), .val (.int y1607), .val (.int y1616), .val (.int (i2 &&& (255 : Int32))), .val (.int (i3 &&& (255 : Int32))), .val (.ref a1628), .val (.ref a1644), .val (.ref a1667), .val (.ref a1676), .val (.ref a1693), .unset, .unset, .unset, .unset] [(.int (1 : Int32)), (.int (2 : Int32))] rfl ?_
      refine own_icmp C S1708 (q := .ne) (o := 17) (by decide +kernel) 119 (by decide) (by decide) (fun (q2728 : ¬ (2 : Int32) = (1 : Int32)) => ?_) (fun (hq : (2 : Int32) = (1 : Int32)) => False.elim (by revert hq; decide))
      refine own_new C S1708 (own_wd hw 5 rfl) (own_wd hw 6 rfl) (own_wd hw 7 rfl) (by decide +kernel) (by decide) (by decide) ?_
      intro T2729 h2731 a2732 S2730 g2733 E2734 x2735 D2736
      have f2737 : Fld Z h2731 a2732 "java/lang/String" "coder" "B" (.int (0 : Int32)) := D2736 (ty := .byte) (Or.inr (own_wd hw 31 rfl)) own_fd1
      have f2738 : Fld Z h2731 a2732 "java/lang/String" "value" "[B" .null := D2736 (ty := (.array .byte)) (Or.inr (own_wd hw 33 rfl)) own_fd0
      refine own_seg C S2730 [(122, .dup, 1), (123, .aload 12, 2)] (by decide +kernel) 125 #[.val (.int i0), .val (.int i1), .val (.int i2), .val (.int i3), .val (.int i4), .val (.int (2 : Int32)), .val (.int (2 : Int32)), .val (.int y1607), .val (.int y1616), .val (.int (i2 &&& (255 : Int32))), .val (.int (i3 &&& (255 : Int32))), .val (.ref a1628), .val (.ref a1644), .val (.ref a1667), .val (.ref a1676), .val (.ref a1693), .unset, .unset, .unset, .unset] [(.ref a1644), (.ref a2732), (.ref a2732)] rfl ?_
      have hp2739 : ∀ c ∈ ([y1607, y1616] : List Int32), ¬ c < 0 ∧ ¬ (255 : Int32) < c := by
        intro c hc; simp only [List.mem_cons, List.not_mem_nil, or_false] at hc
        rcases hc with rfl | rfl
        · exact p1609.1
        · exact p1618.1
      have f2740 : n0 ≤ h2731.size := (Nat.le_trans (by rw [W1710.size]; exact (by rw [W1704.size]; exact (Nat.le_trans f1699 E1696.1))) E2734.1)
      have f2741 : n0 ≤ h1709.size := (by rw [W1710.size]; exact (by rw [W1704.size]; exact (Nat.le_trans f1699 E1696.1)))
      have g2742 : n0 ≤ a2732 := by rw [g2733]; exact f2741
      have f2743 : a1644 < h1666.size := (Nat.lt_of_lt_of_le (by rw [W1661.size]; exact (by rw [W1655.size]; exact f1649.lt)) E1670.1)
      have n2744 : a1644 ≠ a1676 := by rw [g1678]; exact Nat.ne_of_lt f2743
      have f2745 : a1644 < h1686.size := (by rw [W1687.size]; exact (Nat.lt_of_lt_of_le f2743 E1679.1))
      have n2746 : a1644 ≠ a1693 := by rw [g1695]; exact Nat.ne_of_lt f2745
      have f2747 : Arv Z h2731 a1644 k1645 .char (2 : Int32) ([(.int y1607), (.int y1616)]) (.int (0 : Int32)) := (((((((f1663.ext E1670).ext E1679).other W1687 n2744).ext E1696).other W1704 n2746).other W1710 n2746).ext E2734)
      have f2748 : Old Z n0 h2731 := ((((((((((((X00.ext E1631).wr W1638 g1634).ext E1647).wr W1655 g1651).wr W1661 g1651).ext E1670).ext E1679).wr W1687 g1683).ext E1696).wr W1704 g1700).wr W1710 g1700).ext E2734)
      refine own_callI C S2730 rfl (own_wd hw 8 rfl) (own_wd hw 9 rfl) (own_wd hw 10 rfl) (by decide) (StrChars.Road.backV (W := 1) C.2.2.2.2.2.2.2 (fun d hd => hw d (own_hws d hd)) (kI := 4) (own_wd hw 6 rfl) (cs := ([y1607, y1616] : List Int32)) (bs := (([y1607, y1616] : List Int32)).map (fun c => c.toInt8.toInt32)) (n := 2) g2742 f2740 x2735 f2738 f2737 f2747 (O2.ext f2748.2) P5 rfl rfl (by decide) (by decide) hp2739 rfl (by decide) (by decide)) (fun _ _ _ q => q.2.1) [(.ref a1644)] [(.ref a2732)] rfl own_pd27 rfl rfl rfl (Nat.le_of_ble_eq_true rfl) (by decide) (by decide) (by decide +kernel) ?_
      rintro T2759 h2760 v2761 L2762 S2763 ⟨rfl, -, K2749, x2750, f2751, t2752, k2753, g2754, g2755, g2756, f2757, f2758⟩
      replace S2763 : own_S p l e room_1 (s.setVm vm1604) m #[(.int i0), (.int i1), (.int i2), (.int i3), (.int i4)] below meth c n0 T2759 h2760 7 12 := S2763
      have f2764 : Arv Z h2760 t2752 k2753 .byte (2 : Int32) ([(.int y1607.toInt8.toInt32), (.int y1616.toInt8.toInt32)]) (.int 0) := f2758
      have hcd2765 : StrChars.Road.CodA ([y1607, y1616] : List Int32) 0 (2 : Int32) [(.int y1607.toInt8.toInt32), (.int y1616.toInt8.toInt32)] := StrChars.Road.codOf (cs := ([y1607, y1616] : List Int32)) (n := 2) rfl (fun c hc => (hp2739 c hc).2)
      show own_Go p e below _ T2759 (mkF m 128 #[.val (.int i0), .val (.int i1), .val (.int i2), .val (.int i3), .val (.int i4), .val (.int (2 : Int32)), .val (.int (2 : Int32)), .val (.int y1607), .val (.int y1616), .val (.int (i2 &&& (255 : Int32))), .val (.int (i3 &&& (255 : Int32))), .val (.ref a1628), .val (.ref a1644), .val (.ref a1667), .val (.ref a1676), .val (.ref a1693), .unset, .unset, .unset, .unset] [(.ref a2732)])
      refine own_seg C S2763 [(128, .astore 16, 2), (130, .iload 6, 2)] (by decide +kernel) 132 #[.val (.int i0), .val (.int i1), .val (.int i2), .val (.int i3), .val (.int i4), .val (.int (2 : Int32)), .val (.int (2 : Int32)), .val (.int y1607), .val (.int y1616), .val (.int (i2 &&& (255 : Int32))), .val (.int (i3 &&& (255 : Int32))), .val (.ref a1628), .val (.ref a1644), .val (.ref a1667), .val (.ref a1676), .val (.ref a1693), .val (.ref a2732), .unset, .unset, .unset] [(.int (2 : Int32))] rfl ?_
      refine own_if C S2763 (q := .ne) (o := 17) (by decide +kernel) 149 (by decide) (by decide) (fun (q2766 : ¬ (2 : Int32) = (0 : Int32)) => ?_) (fun (hq : (2 : Int32) = (0 : Int32)) => False.elim (by revert hq; decide))
      refine own_seg C S2763 [(149, .iload 6, 2), (151, .iconst 1, 1)] (by decide +kernel) 152 #[.val (.int i0), .val (.int i1), .val (.int i2), .val (.int i3), .val (.int i4), .val (.int (2 : Int32)), .val (.int (2 : Int32)), .val (.int y1607), .val (.int y1616), .val (.int (i2 &&& (255 : Int32))), .val (.int (i3 &&& (255 : Int32))), .val (.ref a1628), .val (.ref a1644), .val (.ref a1667), .val (.ref a1676), .val (.ref a1693), .val (.ref a2732), .unset, .unset, .unset] [(.int (1 : Int32)), (.int (2 : Int32))] rfl ?_
      refine own_icmp C S2763 (q := .ne) (o := 17) (by decide +kernel) 169 (by decide) (by decide) (fun (q2767 : ¬ (2 : Int32) = (1 : Int32)) => ?_) (fun (hq : (2 : Int32) = (1 : Int32)) => False.elim (by revert hq; decide))
      have hne2768 : ∀ c ∈ ([y1607, y1616] : List Int32), ¬ c = (58 : Int32) := by
        intro c hc; simp only [List.mem_cons, List.not_mem_nil, or_false] at hc
        rcases hc with rfl | rfl
        · exact p1610
        · exact p1619
      refine own_new C S2763 (own_wd hw 5 rfl) (own_wd hw 6 rfl) (own_wd hw 7 rfl) (by decide +kernel) (by decide) (by decide) ?_
      intro T2769 h2771 a2772 S2770 g2773 E2774 x2775 D2776
      have f2777 : Fld Z h2771 a2772 "java/lang/String" "coder" "B" (.int (0 : Int32)) := D2776 (ty := .byte) (Or.inr (own_wd hw 31 rfl)) own_fd1
      have f2778 : Fld Z h2771 a2772 "java/lang/String" "value" "[B" .null := D2776 (ty := (.array .byte)) (Or.inr (own_wd hw 33 rfl)) own_fd0
      refine own_seg C S2770 [(172, .dup, 1), (173, .aload 15, 2)] (by decide +kernel) 175 #[.val (.int i0), .val (.int i1), .val (.int i2), .val (.int i3), .val (.int i4), .val (.int (2 : Int32)), .val (.int (2 : Int32)), .val (.int y1607), .val (.int y1616), .val (.int (i2 &&& (255 : Int32))), .val (.int (i3 &&& (255 : Int32))), .val (.ref a1628), .val (.ref a1644), .val (.ref a1667), .val (.ref a1676), .val (.ref a1693), .val (.ref a2732), .unset, .unset, .unset] [(.ref a1693), (.ref a2772), (.ref a2772)] rfl ?_
      have hp2779 : ∀ c ∈ ([(i2 &&& (255 : Int32)), (i3 &&& (255 : Int32))] : List Int32), ¬ c < 0 ∧ ¬ (255 : Int32) < c := by
        intro c hc; simp only [List.mem_cons, List.not_mem_nil, or_false] at hc
        rcases hc with rfl | rfl
        · exact (own_Ch.of i2).1
        · exact (own_Ch.of i3).1
      have f2780 : n0 ≤ h2771.size := (Nat.le_trans (Nat.le_trans f2740 K2749.1) E2774.1)
      have f2781 : n0 ≤ h2760.size := (Nat.le_trans f2740 K2749.1)
      have g2782 : n0 ≤ a2772 := by rw [g2773]; exact f2781
      have f2783 : a1693 < h1709.size := (by rw [W1710.size]; exact (by rw [W1704.size]; exact f1698.lt))
      have n2784 : a1693 ≠ a2732 := by rw [g2733]; exact Nat.ne_of_lt f2783
      have f2785 : Arv Z h2771 a1693 k1694 .char (2 : Int32) ([(.int (i2 &&& (255 : Int32))), (.int (i3 &&& (255 : Int32)))]) (.int (0 : Int32)) := (((f1712.ext E2734).keep K2749 (ninS n2784 nin0)).ext E2774)
      have f2786 : Old Z n0 h2771 := ((f2748.keep K2749 (allS g2742 all0)).ext E2774)
      refine own_callI C S2770 rfl (own_wd hw 8 rfl) (own_wd hw 9 rfl) (own_wd hw 10 rfl) (by decide) (StrChars.Road.backV (W := 1) C.2.2.2.2.2.2.2 (fun d hd => hw d (own_hws d hd)) (kI := 4) (own_wd hw 6 rfl) (cs := ([(i2 &&& (255 : Int32)), (i3 &&& (255 : Int32))] : List Int32)) (bs := (([(i2 &&& (255 : Int32)), (i3 &&& (255 : Int32))] : List Int32)).map (fun c => c.toInt8.toInt32)) (n := 2) g2782 f2780 x2775 f2778 f2777 f2785 (O2.ext f2786.2) P5 rfl rfl (by decide) (by decide) hp2779 rfl (by decide) (by decide)) (fun _ _ _ q => q.2.1) [(.ref a1693)] [(.ref a2772)] rfl own_pd27 rfl rfl rfl (Nat.le_of_ble_eq_true rfl) (by decide) (by decide) (by decide +kernel) ?_
      rintro T2797 h2798 v2799 L2800 S2801 ⟨rfl, -, K2787, x2788, f2789, t2790, k2791, g2792, g2793, g2794, f2795, f2796⟩
      replace S2801 : own_S p l e room_1 (s.setVm vm1604) m #[(.int i0), (.int i1), (.int i2), (.int i3), (.int i4)] below meth c n0 T2797 h2798 9 18 := S2801
      have f2802 : Arv Z h2798 t2790 k2791 .byte (2 : Int32) ([(.int ((i2 &&& (255 : Int32)).toInt8.toInt32)), (.int ((i3 &&& (255 : Int32)).toInt8.toInt32))]) (.int 0) := f2796
      have hcd2803 : StrChars.Road.CodA ([(i2 &&& (255 : Int32)), (i3 &&& (255 : Int32))] : List Int32) 0 (2 : Int32) [(.int ((i2 &&& (255 : Int32)).toInt8.toInt32)), (.int ((i3 &&& (255 : Int32)).toInt8.toInt32))] := StrChars.Road.codOf (cs := ([(i2 &&& (255 : Int32)), (i3 &&& (255 : Int32))] : List Int32)) (n := 2) rfl (fun c hc => (hp2779 c hc).2)
      show own_Go p e below _ T2797 (mkF m 178 #[.val (.int i0), .val (.int i1), .val (.int i2), .val (.int i3), .val (.int i4), .val (.int (2 : Int32)), .val (.int (2 : Int32)), .val (.int y1607), .val (.int y1616), .val (.int (i2 &&& (255 : Int32))), .val (.int (i3 &&& (255 : Int32))), .val (.ref a1628), .val (.ref a1644), .val (.ref a1667), .val (.ref a1676), .val (.ref a1693), .val (.ref a2732), .unset, .unset, .unset] [(.ref a2772)])
      refine own_seg C S2801 [(178, .astore 17, 2)] (by decide +kernel) 180 #[.val (.int i0), .val (.int i1), .val (.int i2), .val (.int i3), .val (.int i4), .val (.int (2 : Int32)), .val (.int (2 : Int32)), .val (.int y1607), .val (.int y1616), .val (.int (i2 &&& (255 : Int32))), .val (.int (i3 &&& (255 : Int32))), .val (.ref a1628), .val (.ref a1644), .val (.ref a1667), .val (.ref a1676), .val (.ref a1693), .val (.ref a2732), .val (.ref a2772), .unset, .unset] [] rfl ?_
      refine own_new C S2801 (own_wd hw 37 rfl) (own_wd hw 38 rfl) (own_wd hw 39 rfl) (by decide +kernel) (by decide) (by decide) ?_
      intro T2804 h2806 a2807 S2805 g2808 E2809 x2810 D2811
      have f2812 : Fld Z h2806 a2807 "com/example/nearfar_cache/nearfarcache/Namespace" "name" "Ljava/lang/String;" .null := D2811 (ty := (.object "java/lang/String")) (Or.inr (own_wd hw 112 rfl)) own_fd3
      refine own_seg C S2805 [(183, .dup, 1), (184, .aload 16, 2)] (by decide +kernel) 186 #[.val (.int i0), .val (.int i1), .val (.int i2), .val (.int i3), .val (.int i4), .val (.int (2 : Int32)), .val (.int (2 : Int32)), .val (.int y1607), .val (.int y1616), .val (.int (i2 &&& (255 : Int32))), .val (.int (i3 &&& (255 : Int32))), .val (.ref a1628), .val (.ref a1644), .val (.ref a1667), .val (.ref a1676), .val (.ref a1693), .val (.ref a2732), .val (.ref a2772), .unset, .unset] [(.ref a2732), (.ref a2807), (.ref a2807)] rfl ?_
      have f2813 : Old Z n0 h2806 := ((f2786.keep K2787 (allS g2782 all0)).ext E2809)
      have f2814 : Exa Z h2806 a2732 "java/lang/String" := (Exa.ext E2809 ((Exa.ext E2774 x2750).keep K2787))
      have f2815 : a2732 < h2760.size := (Nat.lt_of_lt_of_le f2738.lt K2749.1)
      have n2816 : a2732 ≠ a2772 := by rw [g2773]; exact Nat.ne_of_lt f2815
      have f2817 : Fld Z h2806 a2732 "java/lang/String" "value" "[B" (.ref t2752) := (Fld.ext E2809 ((Fld.ext E2774 f2757).keep K2787 (ninS n2816 nin0)))
      have f2818 : Fld Z h2806 a2732 "java/lang/String" "coder" "B" (.int 0) := (Fld.ext E2809 ((Fld.ext E2774 f2751).keep K2787 (ninS n2816 nin0)))
      have n2819 : t2752 ≠ a2772 := by rw [g2773]; exact Nat.ne_of_lt f2764.lt
      have f2820 : Arv Z h2806 t2752 k2753 .byte (2 : Int32) ([(.int y1607.toInt8.toInt32), (.int y1616.toInt8.toInt32)]) (.int 0) := (((f2764.ext E2774).keep K2787 (ninS n2819 nin0)).ext E2809)
      have f2821 : n0 ≤ h2806.size := (Nat.le_trans (Nat.le_trans f2780 K2787.1) E2809.1)
      have f2822 : n0 ≤ h2798.size := (Nat.le_trans f2780 K2787.1)
      have g2823 : n0 ≤ a2807 := by rw [g2808]; exact f2822
      have f2832 : t2790 < h2806.size := (Nat.lt_of_lt_of_le f2802.lt E2809.1)
      have f2833 : a2772 < h2806.size := (Nat.lt_of_lt_of_le (Nat.lt_of_lt_of_le f2778.lt K2787.1) E2809.1)
      have f2834 : t2752 < h2806.size := (Nat.lt_of_lt_of_le (Nat.lt_of_lt_of_le (Nat.lt_of_lt_of_le f2764.lt E2774.1) K2787.1) E2809.1)
      have f2835 : a2732 < h2806.size := (Nat.lt_of_lt_of_le (Nat.lt_of_lt_of_le (Nat.lt_of_lt_of_le f2815 E2774.1) K2787.1) E2809.1)
      have f2836 : a1693 < h2806.size := (Nat.lt_of_lt_of_le (Nat.lt_of_lt_of_le (Nat.lt_of_lt_of_le (Nat.lt_of_lt_of_le (Nat.lt_of_lt_of_le f2783 E2734.1) K2749.1) E2774.1) K2787.1) E2809.1)
      have f2837 : a1676 < h2806.size := (Nat.lt_of_lt_of_le (Nat.lt_of_lt_of_le (Nat.lt_of_lt_of_le (Nat.lt_of_lt_of_le (Nat.lt_of_lt_of_le (by rw [W1710.size]; exact (by rw [W1704.size]; exact (Nat.lt_of_lt_of_le (by rw [W1687.size]; exact f1681.lt) E1696.1))) E2734.1) K2749.1) E2774.1) K2787.1) E2809.1)
      have f2838 : a1667 < h2806.size := (Nat.lt_of_lt_of_le (Nat.lt_of_lt_of_le (Nat.lt_of_lt_of_le (Nat.lt_of_lt_of_le (Nat.lt_of_lt_of_le (by rw [W1710.size]; exact (by rw [W1704.size]; exact (Nat.lt_of_lt_of_le (by rw [W1687.size]; exact (Nat.lt_of_lt_of_le f1672.lt E1679.1)) E1696.1))) E2734.1) K2749.1) E2774.1) K2787.1) E2809.1)
      have f2839 : a1644 < h2806.size := (Nat.lt_of_lt_of_le (Nat.lt_of_lt_of_le (Nat.lt_of_lt_of_le (Nat.lt_of_lt_of_le (Nat.lt_of_lt_of_le (by rw [W1710.size]; exact (by rw [W1704.size]; exact (Nat.lt_of_lt_of_le f2745 E1696.1))) E2734.1) K2749.1) E2774.1) K2787.1) E2809.1)
      have f2840 : a1628 < h2806.size := (Nat.lt_of_lt_of_le (Nat.lt_of_lt_of_le (Nat.lt_of_lt_of_le (Nat.lt_of_lt_of_le (Nat.lt_of_lt_of_le (by rw [W1710.size]; exact (by rw [W1704.size]; exact (Nat.lt_of_lt_of_le (by rw [W1687.size]; exact (Nat.lt_of_lt_of_le (Nat.lt_of_lt_of_le (by rw [W1661.size]; exact (by rw [W1655.size]; exact (Nat.lt_of_lt_of_le (by rw [W1638.size]; exact f1633.lt) E1647.1))) E1670.1) E1679.1)) E1696.1))) E2734.1) K2749.1) E2774.1) K2787.1) E2809.1)
      have SW2841 : own_SW p l e room_1 s m #[(.int i0), (.int i1), (.int i2), (.int i3), (.int i4)] below meth c n0 Z own_EL "com/example/nearfar_cache/nearfarcache/redis/RedisKeysOfPinLaw" T2804 h2806 [a1628, a1644, a1667, a1676, a1693, a2732, t2752, a2772, t2790, a2807] 10 19 := rb1606 _ _ _ _ [] [a1628, a1644, a1667, a1676, a1693, a2732, t2752, a2772, t2790, a2807] S2805 (((((((((((((((((Keep.refl _ _).ext E1631).wr W1638 (Or.inr (by rw [g1630]; exact (Nat.le_refl _)))).ext E1647).wr W1655 (Or.inr (by rw [g1646]; exact (by rw [W1638.size]; exact (Nat.le_trans (Nat.le_refl _) E1631.1))))).wr W1661 (Or.inr (by rw [g1646]; exact (by rw [W1638.size]; exact (Nat.le_trans (Nat.le_refl _) E1631.1))))).ext E1670).ext E1679).wr W1687 (Or.inr (by rw [g1678]; exact (Nat.le_trans (by rw [W1661.size]; exact (by rw [W1655.size]; exact (Nat.le_trans (by rw [W1638.size]; exact (Nat.le_trans (Nat.le_refl _) E1631.1)) E1647.1))) E1670.1)))).ext E1696).wr W1704 (Or.inr (by rw [g1695]; exact (by rw [W1687.size]; exact (Nat.le_trans (Nat.le_trans (by rw [W1661.size]; exact (by rw [W1655.size]; exact (Nat.le_trans (by rw [W1638.size]; exact (Nat.le_trans (Nat.le_refl _) E1631.1)) E1647.1))) E1670.1) E1679.1))))).wr W1710 (Or.inr (by rw [g1695]; exact (by rw [W1687.size]; exact (Nat.le_trans (Nat.le_trans (by rw [W1661.size]; exact (by rw [W1655.size]; exact (Nat.le_trans (by rw [W1638.size]; exact (Nat.le_trans (Nat.le_refl _) E1631.1)) E1647.1))) E1670.1) E1679.1))))).ext E2734).trans K2749 (allS (Or.inr (by rw [g2733]; exact (by rw [W1710.size]; exact (by rw [W1704.size]; exact (Nat.le_trans (by rw [W1687.size]; exact (Nat.le_trans (Nat.le_trans (by rw [W1661.size]; exact (by rw [W1655.size]; exact (Nat.le_trans (by rw [W1638.size]; exact (Nat.le_trans (Nat.le_refl _) E1631.1)) E1647.1))) E1670.1) E1679.1)) E1696.1))))) all0)).ext E2774).trans K2787 (allS (Or.inr (by rw [g2773]; exact (Nat.le_trans (Nat.le_trans (by rw [W1710.size]; exact (by rw [W1704.size]; exact (Nat.le_trans (by rw [W1687.size]; exact (Nat.le_trans (Nat.le_trans (by rw [W1661.size]; exact (by rw [W1655.size]; exact (Nat.le_trans (by rw [W1638.size]; exact (Nat.le_trans (Nat.le_refl _) E1631.1)) E1647.1))) E1670.1) E1679.1)) E1696.1))) E2734.1) K2749.1))) all0)).ext E2809) all0 (allS ⟨(by rw [g1630]; exact (Nat.le_refl _)), f2840⟩ (allS ⟨(by rw [g1646]; exact (by rw [W1638.size]; exact (Nat.le_trans (Nat.le_refl _) E1631.1))), f2839⟩ (allS ⟨(by rw [g1669]; exact (by rw [W1661.size]; exact (by rw [W1655.size]; exact (Nat.le_trans (by rw [W1638.size]; exact (Nat.le_trans (Nat.le_refl _) E1631.1)) E1647.1)))), f2838⟩ (allS ⟨(by rw [g1678]; exact (Nat.le_trans (by rw [W1661.size]; exact (by rw [W1655.size]; exact (Nat.le_trans (by rw [W1638.size]; exact (Nat.le_trans (Nat.le_refl _) E1631.1)) E1647.1))) E1670.1)), f2837⟩ (allS ⟨(by rw [g1695]; exact (by rw [W1687.size]; exact (Nat.le_trans (Nat.le_trans (by rw [W1661.size]; exact (by rw [W1655.size]; exact (Nat.le_trans (by rw [W1638.size]; exact (Nat.le_trans (Nat.le_refl _) E1631.1)) E1647.1))) E1670.1) E1679.1))), f2836⟩ (allS ⟨(by rw [g2733]; exact (by rw [W1710.size]; exact (by rw [W1704.size]; exact (Nat.le_trans (by rw [W1687.size]; exact (Nat.le_trans (Nat.le_trans (by rw [W1661.size]; exact (by rw [W1655.size]; exact (Nat.le_trans (by rw [W1638.size]; exact (Nat.le_trans (Nat.le_refl _) E1631.1)) E1647.1))) E1670.1) E1679.1)) E1696.1)))), f2835⟩ (allS ⟨(Nat.le_trans (Nat.le_trans (by rw [W1710.size]; exact (by rw [W1704.size]; exact (Nat.le_trans (by rw [W1687.size]; exact (Nat.le_trans (Nat.le_trans (by rw [W1661.size]; exact (by rw [W1655.size]; exact (Nat.le_trans (by rw [W1638.size]; exact (Nat.le_trans (Nat.le_refl _) E1631.1)) E1647.1))) E1670.1) E1679.1)) E1696.1))) E2734.1) g2755), f2834⟩ (allS ⟨(by rw [g2773]; exact (Nat.le_trans (Nat.le_trans (by rw [W1710.size]; exact (by rw [W1704.size]; exact (Nat.le_trans (by rw [W1687.size]; exact (Nat.le_trans (Nat.le_trans (by rw [W1661.size]; exact (by rw [W1655.size]; exact (Nat.le_trans (by rw [W1638.size]; exact (Nat.le_trans (Nat.le_refl _) E1631.1)) E1647.1))) E1670.1) E1679.1)) E1696.1))) E2734.1) K2749.1)), f2833⟩ (allS ⟨(Nat.le_trans (Nat.le_trans (Nat.le_trans (Nat.le_trans (by rw [W1710.size]; exact (by rw [W1704.size]; exact (Nat.le_trans (by rw [W1687.size]; exact (Nat.le_trans (Nat.le_trans (by rw [W1661.size]; exact (by rw [W1655.size]; exact (Nat.le_trans (by rw [W1638.size]; exact (Nat.le_trans (Nat.le_refl _) E1631.1)) E1647.1))) E1670.1) E1679.1)) E1696.1))) E2734.1) K2749.1) E2774.1) g2793), f2832⟩ (allS ⟨(by rw [g2808]; exact (Nat.le_trans (Nat.le_trans (Nat.le_trans (Nat.le_trans (by rw [W1710.size]; exact (by rw [W1704.size]; exact (Nat.le_trans (by rw [W1687.size]; exact (Nat.le_trans (Nat.le_trans (by rw [W1661.size]; exact (by rw [W1655.size]; exact (Nat.le_trans (by rw [W1638.size]; exact (Nat.le_trans (Nat.le_refl _) E1631.1)) E1647.1))) E1670.1) E1679.1)) E1696.1))) E2734.1) K2749.1) E2774.1) K2787.1)), x2810.lt⟩ all0))))))))))
      refine own_callIW CW SW2841 rfl (own_wd hw 40 rfl) (own_wd hw 41 rfl) (own_wd hw 39 rfl) (own_wd hw 42 rfl) (by decide) (own_ns l Z a0 hw hEL wS G1 G3 a2807 a2732 t2752 k2753 (2 : Int32) ([(.int y1607.toInt8.toInt32), (.int y1616.toInt8.toInt32)]) ([y1607, y1616] : List Int32) h2806 n0 f2821 g2823 f2813 f2814 f2817 f2818 f2820 x2810 f2812 O2 O4 P5 rG3 hcd2765 hp2739 (Nat.le_of_ble_eq_true rfl) (by simp) hne2768 (by simp)) all0 1 (by decide) (by decide) [(.ref a2732)] [(.ref a2807)] rfl own_pd7 rfl rfl rfl (Nat.le_of_ble_eq_true rfl) (by decide) (by decide) (by decide +kernel) ?_
      rintro T2842 h2843 v2844 SW2845 hg2846 ⟨rfl, K2824, f2825, f2826⟩
      replace SW2845 : own_SW p l e room_1 s m #[(.int i0), (.int i1), (.int i2), (.int i3), (.int i4)] below meth c n0 Z own_EL "com/example/nearfar_cache/nearfarcache/redis/RedisKeysOfPinLaw" T2842 h2843 [a1628, a1644, a1667, a1676, a1693, a2732, t2752, a2772, t2790, a2807] 14 71 := SW2845
      show own_Go p e below _ T2842 (mkF m 189 #[.val (.int i0), .val (.int i1), .val (.int i2), .val (.int i3), .val (.int i4), .val (.int (2 : Int32)), .val (.int (2 : Int32)), .val (.int y1607), .val (.int y1616), .val (.int (i2 &&& (255 : Int32))), .val (.int (i3 &&& (255 : Int32))), .val (.ref a1628), .val (.ref a1644), .val (.ref a1667), .val (.ref a1676), .val (.ref a1693), .val (.ref a2732), .val (.ref a2772), .unset, .unset] [(.ref a2807)])
      refine own_lift CW SW2845 ?_
      intro vm2847 C S2848 rb2849
      refine own_seg C S2848 [(189, .astore 18, 2), (191, .aload 18, 2), (193, .aload 17, 2)] (by decide +kernel) 195 #[.val (.int i0), .val (.int i1), .val (.int i2), .val (.int i3), .val (.int i4), .val (.int (2 : Int32)), .val (.int (2 : Int32)), .val (.int y1607), .val (.int y1616), .val (.int (i2 &&& (255 : Int32))), .val (.int (i3 &&& (255 : Int32))), .val (.ref a1628), .val (.ref a1644), .val (.ref a1667), .val (.ref a1676), .val (.ref a1693), .val (.ref a2732), .val (.ref a2772), .val (.ref a2807), .unset] [(.ref a2772), (.ref a2807)] rfl ?_
      have f2850 : Old Z n0 h2843 := (f2813.keep K2824 (allS g2823 all0))
      have f2851 : Exa Z h2843 a2732 "java/lang/String" := (f2814.keep K2824)
      have f2852 : a2732 < h2798.size := (Nat.lt_of_lt_of_le (Nat.lt_of_lt_of_le f2815 E2774.1) K2787.1)
      have n2853 : a2732 ≠ a2807 := by rw [g2808]; exact Nat.ne_of_lt f2852
      have f2854 : Fld Z h2843 a2732 "java/lang/String" "value" "[B" (.ref t2752) := (f2817.keep K2824 (ninS n2853 nin0))
      have f2855 : Fld Z h2843 a2732 "java/lang/String" "coder" "B" (.int 0) := (f2818.keep K2824 (ninS n2853 nin0))
      have f2856 : t2752 < h2798.size := (Nat.lt_of_lt_of_le (Nat.lt_of_lt_of_le f2764.lt E2774.1) K2787.1)
      have n2857 : t2752 ≠ a2807 := by rw [g2808]; exact Nat.ne_of_lt f2856
      have f2858 : Arv Z h2843 t2752 k2753 .byte (2 : Int32) ([(.int y1607.toInt8.toInt32), (.int y1616.toInt8.toInt32)]) (.int 0) := (f2820.keep K2824 (ninS n2857 nin0))
      have f2859 : Exa Z h2843 a2772 "java/lang/String" := ((Exa.ext E2809 x2788).keep K2824)
      have f2860 : a2772 < h2798.size := (Nat.lt_of_lt_of_le f2778.lt K2787.1)
      have n2861 : a2772 ≠ a2807 := by rw [g2808]; exact Nat.ne_of_lt f2860
      have f2862 : Fld Z h2843 a2772 "java/lang/String" "value" "[B" (.ref t2790) := ((Fld.ext E2809 f2795).keep K2824 (ninS n2861 nin0))
      have f2863 : Fld Z h2843 a2772 "java/lang/String" "coder" "B" (.int 0) := ((Fld.ext E2809 f2789).keep K2824 (ninS n2861 nin0))
      have n2864 : t2790 ≠ a2807 := by rw [g2808]; exact Nat.ne_of_lt f2802.lt
      have f2865 : Arv Z h2843 t2790 k2791 .byte (2 : Int32) ([(.int ((i2 &&& (255 : Int32)).toInt8.toInt32)), (.int ((i3 &&& (255 : Int32)).toInt8.toInt32))]) (.int 0) := ((f2802.ext E2809).keep K2824 (ninS n2864 nin0))
      have f2866 : n0 ≤ h2843.size := (Nat.le_trans f2821 K2824.1)
      have SW2882 : own_SW p l e room_1 s m #[(.int i0), (.int i1), (.int i2), (.int i3), (.int i4)] below meth c n0 Z own_EL "com/example/nearfar_cache/nearfarcache/redis/RedisKeysOfPinLaw" T2842 h2843 [a1628, a1644, a1667, a1676, a1693, a2732, t2752, a2772, t2790, a2807] 14 71 := rb2849 _ _ _ _ [] [] S2848 (Keep.refl _ _) all0 all0
      refine own_callSW CW SW2882 (own_wd hw 113 rfl) (own_wd hw 114 rfl) (own_wd hw 115 rfl) (own_wd hw 116 rfl) (by decide) (own_of22 l Z a0 hw hEL wS G1 G3 a2807 a2732 t2752 k2753 y1607 y1616 a2772 t2790 k2791 (i2 &&& (255 : Int32)) (i3 &&& (255 : Int32)) h2843 n0 f2866 f2850 f2825 f2826 f2851 f2854 f2855 f2858 f2859 f2862 f2863 f2865 O2 O4 P5 rG3 p1609.1 p1618.1 ((own_Ch.of i2).1) ((own_Ch.of i3).1)) all0 0 (by decide) (by decide) [(.ref a2807), (.ref a2772)] [] rfl own_pd28 rfl rfl rfl (Nat.le_of_ble_eq_true rfl) (by decide) (by decide) (by decide +kernel) ?_
      rintro T2883 h2884 v2885 SW2886 hg2887 ⟨a2867, a2868, k2869, rfl, g2870, g2871, K2872, f2873, f2874, f2875, f2876⟩
      replace SW2886 : own_SW p l e room_1 s m #[(.int i0), (.int i1), (.int i2), (.int i3), (.int i4)] below meth c n0 Z own_EL "com/example/nearfar_cache/nearfarcache/redis/RedisKeysOfPinLaw" T2883 h2884 [a1628, a1644, a1667, a1676, a1693, a2732, t2752, a2772, t2790, a2807] 22 215 := SW2886
      show own_Go p e below _ T2883 (mkF m 198 #[.val (.int i0), .val (.int i1), .val (.int i2), .val (.int i3), .val (.int i4), .val (.int (2 : Int32)), .val (.int (2 : Int32)), .val (.int y1607), .val (.int y1616), .val (.int (i2 &&& (255 : Int32))), .val (.int (i3 &&& (255 : Int32))), .val (.ref a1628), .val (.ref a1644), .val (.ref a1667), .val (.ref a1676), .val (.ref a1693), .val (.ref a2732), .val (.ref a2772), .val (.ref a2807), .unset] [(.ref a2867)])
      have hp2888 : ∀ c ∈ ([y1607, y1616, (58 : Int32), (i2 &&& (255 : Int32)), (i3 &&& (255 : Int32))] : List Int32), ¬ c < 0 ∧ ¬ (255 : Int32) < c := by
        intro c hc; simp only [List.mem_cons, List.not_mem_nil, or_false] at hc
        rcases hc with rfl | rfl | rfl | rfl | rfl
        · exact p1609.1
        · exact p1618.1
        · exact (by decide)
        · exact (own_Ch.of i2).1
        · exact (own_Ch.of i3).1
      have hcd2889 : StrChars.Road.CodA ([y1607, y1616, (58 : Int32), (i2 &&& (255 : Int32)), (i3 &&& (255 : Int32))] : List Int32) 0 (5 : Int32) [(.int y1607.toInt8.toInt32), (.int y1616.toInt8.toInt32), (.int (58 : Int32)), (.int (i2 &&& (255 : Int32)).toInt8.toInt32), (.int (i3 &&& (255 : Int32)).toInt8.toInt32)] := StrChars.Road.codOf (cs := ([y1607, y1616, (58 : Int32), (i2 &&& (255 : Int32)), (i3 &&& (255 : Int32))] : List Int32)) (n := 5) rfl (fun c hc => (hp2888 c hc).2)
      refine own_lift CW SW2886 ?_
      intro vm2890 C S2891 rb2892
      refine own_seg C S2891 [(198, .astore 19, 2), (200, .aload 19, 2)] (by decide +kernel) 202 #[.val (.int i0), .val (.int i1), .val (.int i2), .val (.int i3), .val (.int i4), .val (.int (2 : Int32)), .val (.int (2 : Int32)), .val (.int y1607), .val (.int y1616), .val (.int (i2 &&& (255 : Int32))), .val (.int (i3 &&& (255 : Int32))), .val (.ref a1628), .val (.ref a1644), .val (.ref a1667), .val (.ref a1676), .val (.ref a1693), .val (.ref a2732), .val (.ref a2772), .val (.ref a2807), .val (.ref a2867)] [(.ref a2867)] rfl ?_
      have f2893 : Old Z n0 h2884 := (f2850.keep K2872 all0)
      refine own_callV C S2891 (own_wd hw 236 rfl) (own_wd hw 75 rfl) (own_wd hw 77 rfl) (y' := ⟨"java/lang/String", "length", "()I"⟩) rfl (own_wd hw 77 rfl) (own_wd hw 76 rfl) (by decide) (Q := (fun v h' L => v = some (.int (Int32.ofNat (([y1607, y1616, (58 : Int32), (i2 &&& (255 : Int32)), (i3 &&& (255 : Int32))] : List Int32)).length)) ∧ L = [] ∧ h' = h2884)) (StrChars.Road.lenW (W := 0) C.2.2.2.2.2.2.2 (fun d hd => hw d (own_hln d hd)) (kI := 4) (own_wd hw 6 rfl) f2873 f2875 f2874 f2876 hcd2889 (own_up _ hp2888) (O2.ext f2893.2) P5 (Nat.le_of_ble_eq_true rfl) (by decide) (by decide)) (fun _ _ L q => by rw [q.2.1]; exact Fr.nil _) f2873 [] [] rfl own_pd4 rfl rfl rfl (Nat.le_of_ble_eq_true rfl) (by decide) (by decide) (by decide +kernel) ?_
      rintro T2895 h2896 v2897 L2898 S2899 ⟨rfl, -, e2894⟩
      replace S2899 : own_S p l e room_1 (s.setVm vm2890) m #[(.int i0), (.int i1), (.int i2), (.int i3), (.int i4)] below meth c n0 T2895 h2896 22 215 := S2899
      rw [e2894] at S2899; clear e2894
      show own_Go p e below _ T2895 (mkF m 205 #[.val (.int i0), .val (.int i1), .val (.int i2), .val (.int i3), .val (.int i4), .val (.int (2 : Int32)), .val (.int (2 : Int32)), .val (.int y1607), .val (.int y1616), .val (.int (i2 &&& (255 : Int32))), .val (.int (i3 &&& (255 : Int32))), .val (.ref a1628), .val (.ref a1644), .val (.ref a1667), .val (.ref a1676), .val (.ref a1693), .val (.ref a2732), .val (.ref a2772), .val (.ref a2807), .val (.ref a2867)] [(.int (5 : Int32))])
      refine own_seg C S2899 [(205, .iload 5, 2), (207, .iconst 1, 1), (208, .iadd, 1), (209, .iload 6, 2), (211, .iadd, 1)] (by decide +kernel) 212 #[.val (.int i0), .val (.int i1), .val (.int i2), .val (.int i3), .val (.int i4), .val (.int (2 : Int32)), .val (.int (2 : Int32)), .val (.int y1607), .val (.int y1616), .val (.int (i2 &&& (255 : Int32))), .val (.int (i3 &&& (255 : Int32))), .val (.ref a1628), .val (.ref a1644), .val (.ref a1667), .val (.ref a1676), .val (.ref a1693), .val (.ref a2732), .val (.ref a2772), .val (.ref a2807), .val (.ref a2867)] [(.int (((2 : Int32) + (1 : Int32)) + (2 : Int32))), (.int (5 : Int32))] rfl ?_
      refine own_icmp C S2899 (q := .eq) (o := 5) (by decide +kernel) 217 (by decide) (by decide) (fun (q2900 : (5 : Int32) = (((2 : Int32) + (1 : Int32)) + (2 : Int32))) => ?_) (fun (hq : ¬ (5 : Int32) = (((2 : Int32) + (1 : Int32)) + (2 : Int32))) => False.elim (by revert hq; decide))
      refine own_seg C S2899 [(217, .aload 19, 2), (219, .iconst 0, 1)] (by decide +kernel) 220 #[.val (.int i0), .val (.int i1), .val (.int i2), .val (.int i3), .val (.int i4), .val (.int (2 : Int32)), .val (.int (2 : Int32)), .val (.int y1607), .val (.int y1616), .val (.int (i2 &&& (255 : Int32))), .val (.int (i3 &&& (255 : Int32))), .val (.ref a1628), .val (.ref a1644), .val (.ref a1667), .val (.ref a1676), .val (.ref a1693), .val (.ref a2732), .val (.ref a2772), .val (.ref a2807), .val (.ref a2867)] [(.int (0 : Int32)), (.ref a2867)] rfl ?_
      refine own_callV C S2899 (own_wd hw 237 rfl) (own_wd hw 238 rfl) (own_wd hw 240 rfl) (y' := ⟨"java/lang/String", "charAt", "(I)C"⟩) rfl (own_wd hw 240 rfl) (own_wd hw 239 rfl) (by decide) (Q := (fun v h' L => v = some (.int ((([y1607, y1616, (58 : Int32), (i2 &&& (255 : Int32)), (i3 &&& (255 : Int32))] : List Int32)).getD 0 0)) ∧ L = [] ∧ h' = h2884)) (StrChars.Road.chN (W := 0) C.2.2.2.2.2.2.2 (fun d hd => hw d (own_hch d hd)) (kI := 4) (own_wd hw 6 rfl) f2873 f2875 f2874 f2876 hcd2889 (own_up _ hp2888) (O2.ext f2893.2) P5 (O4.ext f2893.2) rG3 (Nat.le_of_ble_eq_true rfl) (i := 0) (Nat.le_of_ble_eq_true rfl) rfl (by decide) (by decide)) (fun _ _ L q => by rw [q.2.1]; exact Fr.nil _) f2873 [(.int (0 : Int32))] [] rfl own_pd26 rfl rfl rfl (Nat.le_of_ble_eq_true rfl) (by decide) (by decide) (by decide +kernel) ?_
      rintro T2902 h2903 v2904 L2905 S2906 ⟨rfl, -, e2901⟩
      replace S2906 : own_S p l e room_1 (s.setVm vm2890) m #[(.int i0), (.int i1), (.int i2), (.int i3), (.int i4)] below meth c n0 T2902 h2903 22 215 := S2906
      rw [e2901] at S2906; clear e2901
      show own_Go p e below _ T2902 (mkF m 223 #[.val (.int i0), .val (.int i1), .val (.int i2), .val (.int i3), .val (.int i4), .val (.int (2 : Int32)), .val (.int (2 : Int32)), .val (.int y1607), .val (.int y1616), .val (.int (i2 &&& (255 : Int32))), .val (.int (i3 &&& (255 : Int32))), .val (.ref a1628), .val (.ref a1644), .val (.ref a1667), .val (.ref a1676), .val (.ref a1693), .val (.ref a2732), .val (.ref a2772), .val (.ref a2807), .val (.ref a2867)] [(.int y1607)])
      refine own_seg C S2906 [(223, .iload 7, 2)] (by decide +kernel) 225 #[.val (.int i0), .val (.int i1), .val (.int i2), .val (.int i3), .val (.int i4), .val (.int (2 : Int32)), .val (.int (2 : Int32)), .val (.int y1607), .val (.int y1616), .val (.int (i2 &&& (255 : Int32))), .val (.int (i3 &&& (255 : Int32))), .val (.ref a1628), .val (.ref a1644), .val (.ref a1667), .val (.ref a1676), .val (.ref a1693), .val (.ref a2732), .val (.ref a2772), .val (.ref a2807), .val (.ref a2867)] [(.int y1607), (.int y1607)] rfl ?_
      refine own_icmp C S2906 (q := .eq) (o := 5) (by decide +kernel) 230 (by decide) (by decide) (fun (q2907 : y1607 = y1607) => ?_) (fun (hq : ¬ y1607 = y1607) => False.elim (hq rfl))
      refine own_seg C S2906 [(230, .iload 5, 2), (232, .iconst 2, 1)] (by decide +kernel) 233 #[.val (.int i0), .val (.int i1), .val (.int i2), .val (.int i3), .val (.int i4), .val (.int (2 : Int32)), .val (.int (2 : Int32)), .val (.int y1607), .val (.int y1616), .val (.int (i2 &&& (255 : Int32))), .val (.int (i3 &&& (255 : Int32))), .val (.ref a1628), .val (.ref a1644), .val (.ref a1667), .val (.ref a1676), .val (.ref a1693), .val (.ref a2732), .val (.ref a2772), .val (.ref a2807), .val (.ref a2867)] [(.int (2 : Int32)), (.int (2 : Int32))] rfl ?_
      refine own_icmp C S2906 (q := .ne) (o := 16) (by decide +kernel) 249 (by decide) (by decide) (fun (hq : ¬ (2 : Int32) = (2 : Int32)) => False.elim (by revert hq; decide)) (fun (q2908 : (2 : Int32) = (2 : Int32)) => ?_)
      refine own_seg C S2906 [(236, .aload 19, 2), (238, .iconst 1, 1)] (by decide +kernel) 239 #[.val (.int i0), .val (.int i1), .val (.int i2), .val (.int i3), .val (.int i4), .val (.int (2 : Int32)), .val (.int (2 : Int32)), .val (.int y1607), .val (.int y1616), .val (.int (i2 &&& (255 : Int32))), .val (.int (i3 &&& (255 : Int32))), .val (.ref a1628), .val (.ref a1644), .val (.ref a1667), .val (.ref a1676), .val (.ref a1693), .val (.ref a2732), .val (.ref a2772), .val (.ref a2807), .val (.ref a2867)] [(.int (1 : Int32)), (.ref a2867)] rfl ?_
      refine own_callV C S2906 (own_wd hw 237 rfl) (own_wd hw 238 rfl) (own_wd hw 240 rfl) (y' := ⟨"java/lang/String", "charAt", "(I)C"⟩) rfl (own_wd hw 240 rfl) (own_wd hw 239 rfl) (by decide) (Q := (fun v h' L => v = some (.int ((([y1607, y1616, (58 : Int32), (i2 &&& (255 : Int32)), (i3 &&& (255 : Int32))] : List Int32)).getD 1 0)) ∧ L = [] ∧ h' = h2884)) (StrChars.Road.chN (W := 0) C.2.2.2.2.2.2.2 (fun d hd => hw d (own_hch d hd)) (kI := 4) (own_wd hw 6 rfl) f2873 f2875 f2874 f2876 hcd2889 (own_up _ hp2888) (O2.ext f2893.2) P5 (O4.ext f2893.2) rG3 (Nat.le_of_ble_eq_true rfl) (i := 1) (Nat.le_of_ble_eq_true rfl) rfl (by decide) (by decide)) (fun _ _ L q => by rw [q.2.1]; exact Fr.nil _) f2873 [(.int (1 : Int32))] [] rfl own_pd26 rfl rfl rfl (Nat.le_of_ble_eq_true rfl) (by decide) (by decide) (by decide +kernel) ?_
      rintro T2910 h2911 v2912 L2913 S2914 ⟨rfl, -, e2909⟩
      replace S2914 : own_S p l e room_1 (s.setVm vm2890) m #[(.int i0), (.int i1), (.int i2), (.int i3), (.int i4)] below meth c n0 T2910 h2911 22 215 := S2914
      rw [e2909] at S2914; clear e2909
      show own_Go p e below _ T2910 (mkF m 242 #[.val (.int i0), .val (.int i1), .val (.int i2), .val (.int i3), .val (.int i4), .val (.int (2 : Int32)), .val (.int (2 : Int32)), .val (.int y1607), .val (.int y1616), .val (.int (i2 &&& (255 : Int32))), .val (.int (i3 &&& (255 : Int32))), .val (.ref a1628), .val (.ref a1644), .val (.ref a1667), .val (.ref a1676), .val (.ref a1693), .val (.ref a2732), .val (.ref a2772), .val (.ref a2807), .val (.ref a2867)] [(.int y1616)])
      refine own_seg C S2914 [(242, .iload 8, 2)] (by decide +kernel) 244 #[.val (.int i0), .val (.int i1), .val (.int i2), .val (.int i3), .val (.int i4), .val (.int (2 : Int32)), .val (.int (2 : Int32)), .val (.int y1607), .val (.int y1616), .val (.int (i2 &&& (255 : Int32))), .val (.int (i3 &&& (255 : Int32))), .val (.ref a1628), .val (.ref a1644), .val (.ref a1667), .val (.ref a1676), .val (.ref a1693), .val (.ref a2732), .val (.ref a2772), .val (.ref a2807), .val (.ref a2867)] [(.int y1616), (.int y1616)] rfl ?_
      refine own_icmp C S2914 (q := .eq) (o := 5) (by decide +kernel) 249 (by decide) (by decide) (fun (q2915 : y1616 = y1616) => ?_) (fun (hq : ¬ y1616 = y1616) => False.elim (hq rfl))
      refine own_seg C S2914 [(249, .aload 19, 2), (251, .iload 5, 2)] (by decide +kernel) 253 #[.val (.int i0), .val (.int i1), .val (.int i2), .val (.int i3), .val (.int i4), .val (.int (2 : Int32)), .val (.int (2 : Int32)), .val (.int y1607), .val (.int y1616), .val (.int (i2 &&& (255 : Int32))), .val (.int (i3 &&& (255 : Int32))), .val (.ref a1628), .val (.ref a1644), .val (.ref a1667), .val (.ref a1676), .val (.ref a1693), .val (.ref a2732), .val (.ref a2772), .val (.ref a2807), .val (.ref a2867)] [(.int (2 : Int32)), (.ref a2867)] rfl ?_
      refine own_callV C S2914 (own_wd hw 237 rfl) (own_wd hw 238 rfl) (own_wd hw 240 rfl) (y' := ⟨"java/lang/String", "charAt", "(I)C"⟩) rfl (own_wd hw 240 rfl) (own_wd hw 239 rfl) (by decide) (Q := (fun v h' L => v = some (.int ((([y1607, y1616, (58 : Int32), (i2 &&& (255 : Int32)), (i3 &&& (255 : Int32))] : List Int32)).getD 2 0)) ∧ L = [] ∧ h' = h2884)) (StrChars.Road.chN (W := 0) C.2.2.2.2.2.2.2 (fun d hd => hw d (own_hch d hd)) (kI := 4) (own_wd hw 6 rfl) f2873 f2875 f2874 f2876 hcd2889 (own_up _ hp2888) (O2.ext f2893.2) P5 (O4.ext f2893.2) rG3 (Nat.le_of_ble_eq_true rfl) (i := 2) (Nat.le_of_ble_eq_true rfl) rfl (by decide) (by decide)) (fun _ _ L q => by rw [q.2.1]; exact Fr.nil _) f2873 [(.int (2 : Int32))] [] rfl own_pd26 rfl rfl rfl (Nat.le_of_ble_eq_true rfl) (by decide) (by decide) (by decide +kernel) ?_
      rintro T2917 h2918 v2919 L2920 S2921 ⟨rfl, -, e2916⟩
      replace S2921 : own_S p l e room_1 (s.setVm vm2890) m #[(.int i0), (.int i1), (.int i2), (.int i3), (.int i4)] below meth c n0 T2917 h2918 22 215 := S2921
      rw [e2916] at S2921; clear e2916
      show own_Go p e below _ T2917 (mkF m 256 #[.val (.int i0), .val (.int i1), .val (.int i2), .val (.int i3), .val (.int i4), .val (.int (2 : Int32)), .val (.int (2 : Int32)), .val (.int y1607), .val (.int y1616), .val (.int (i2 &&& (255 : Int32))), .val (.int (i3 &&& (255 : Int32))), .val (.ref a1628), .val (.ref a1644), .val (.ref a1667), .val (.ref a1676), .val (.ref a1693), .val (.ref a2732), .val (.ref a2772), .val (.ref a2807), .val (.ref a2867)] [(.int (58 : Int32))])
      refine own_seg C S2921 [(256, .bipush 58, 2)] (by decide +kernel) 258 #[.val (.int i0), .val (.int i1), .val (.int i2), .val (.int i3), .val (.int i4), .val (.int (2 : Int32)), .val (.int (2 : Int32)), .val (.int y1607), .val (.int y1616), .val (.int (i2 &&& (255 : Int32))), .val (.int (i3 &&& (255 : Int32))), .val (.ref a1628), .val (.ref a1644), .val (.ref a1667), .val (.ref a1676), .val (.ref a1693), .val (.ref a2732), .val (.ref a2772), .val (.ref a2807), .val (.ref a2867)] [(.int (58 : Int32)), (.int (58 : Int32))] rfl ?_
      refine own_icmp C S2921 (q := .eq) (o := 5) (by decide +kernel) 263 (by decide) (by decide) (fun (q2922 : (58 : Int32) = (58 : Int32)) => ?_) (fun (hq : ¬ (58 : Int32) = (58 : Int32)) => False.elim (by revert hq; decide))
      refine own_seg C S2921 [(263, .iload 6, 2), (265, .iconst 1, 1)] (by decide +kernel) 266 #[.val (.int i0), .val (.int i1), .val (.int i2), .val (.int i3), .val (.int i4), .val (.int (2 : Int32)), .val (.int (2 : Int32)), .val (.int y1607), .val (.int y1616), .val (.int (i2 &&& (255 : Int32))), .val (.int (i3 &&& (255 : Int32))), .val (.ref a1628), .val (.ref a1644), .val (.ref a1667), .val (.ref a1676), .val (.ref a1693), .val (.ref a2732), .val (.ref a2772), .val (.ref a2807), .val (.ref a2867)] [(.int (1 : Int32)), (.int (2 : Int32))] rfl ?_
      refine own_icmp C S2921 (q := .lt) (o := 19) (by decide +kernel) 285 (by decide) (by decide) (fun (hq : (2 : Int32) < (1 : Int32)) => False.elim (by revert hq; decide)) (fun (q2923 : ¬ (2 : Int32) < (1 : Int32)) => ?_)
      refine own_seg C S2921 [(269, .aload 19, 2), (271, .iload 5, 2), (273, .iconst 1, 1), (274, .iadd, 1)] (by decide +kernel) 275 #[.val (.int i0), .val (.int i1), .val (.int i2), .val (.int i3), .val (.int i4), .val (.int (2 : Int32)), .val (.int (2 : Int32)), .val (.int y1607), .val (.int y1616), .val (.int (i2 &&& (255 : Int32))), .val (.int (i3 &&& (255 : Int32))), .val (.ref a1628), .val (.ref a1644), .val (.ref a1667), .val (.ref a1676), .val (.ref a1693), .val (.ref a2732), .val (.ref a2772), .val (.ref a2807), .val (.ref a2867)] [(.int ((2 : Int32) + (1 : Int32))), (.ref a2867)] rfl ?_
      refine own_callV C S2921 (own_wd hw 237 rfl) (own_wd hw 238 rfl) (own_wd hw 240 rfl) (y' := ⟨"java/lang/String", "charAt", "(I)C"⟩) rfl (own_wd hw 240 rfl) (own_wd hw 239 rfl) (by decide) (Q := (fun v h' L => v = some (.int ((([y1607, y1616, (58 : Int32), (i2 &&& (255 : Int32)), (i3 &&& (255 : Int32))] : List Int32)).getD 3 0)) ∧ L = [] ∧ h' = h2884)) (StrChars.Road.chN (W := 0) C.2.2.2.2.2.2.2 (fun d hd => hw d (own_hch d hd)) (kI := 4) (own_wd hw 6 rfl) f2873 f2875 f2874 f2876 hcd2889 (own_up _ hp2888) (O2.ext f2893.2) P5 (O4.ext f2893.2) rG3 (Nat.le_of_ble_eq_true rfl) (i := 3) (Nat.le_of_ble_eq_true rfl) rfl (by decide) (by decide)) (fun _ _ L q => by rw [q.2.1]; exact Fr.nil _) f2873 [(.int ((2 : Int32) + (1 : Int32)))] [] rfl own_pd26 rfl rfl rfl (Nat.le_of_ble_eq_true rfl) (by decide) (by decide) (by decide +kernel) ?_
      rintro T2925 h2926 v2927 L2928 S2929 ⟨rfl, -, e2924⟩
      replace S2929 : own_S p l e room_1 (s.setVm vm2890) m #[(.int i0), (.int i1), (.int i2), (.int i3), (.int i4)] below meth c n0 T2925 h2926 22 215 := S2929
      rw [e2924] at S2929; clear e2924
      show own_Go p e below _ T2925 (mkF m 278 #[.val (.int i0), .val (.int i1), .val (.int i2), .val (.int i3), .val (.int i4), .val (.int (2 : Int32)), .val (.int (2 : Int32)), .val (.int y1607), .val (.int y1616), .val (.int (i2 &&& (255 : Int32))), .val (.int (i3 &&& (255 : Int32))), .val (.ref a1628), .val (.ref a1644), .val (.ref a1667), .val (.ref a1676), .val (.ref a1693), .val (.ref a2732), .val (.ref a2772), .val (.ref a2807), .val (.ref a2867)] [(.int (i2 &&& (255 : Int32)))])
      refine own_seg C S2929 [(278, .iload 9, 2)] (by decide +kernel) 280 #[.val (.int i0), .val (.int i1), .val (.int i2), .val (.int i3), .val (.int i4), .val (.int (2 : Int32)), .val (.int (2 : Int32)), .val (.int y1607), .val (.int y1616), .val (.int (i2 &&& (255 : Int32))), .val (.int (i3 &&& (255 : Int32))), .val (.ref a1628), .val (.ref a1644), .val (.ref a1667), .val (.ref a1676), .val (.ref a1693), .val (.ref a2732), .val (.ref a2772), .val (.ref a2807), .val (.ref a2867)] [(.int (i2 &&& (255 : Int32))), (.int (i2 &&& (255 : Int32)))] rfl ?_
      refine own_icmp C S2929 (q := .eq) (o := 5) (by decide +kernel) 285 (by decide) (by decide) (fun (q2930 : (i2 &&& (255 : Int32)) = (i2 &&& (255 : Int32))) => ?_) (fun (hq : ¬ (i2 &&& (255 : Int32)) = (i2 &&& (255 : Int32))) => False.elim (hq rfl))
      refine own_seg C S2929 [(285, .iload 6, 2), (287, .iconst 2, 1)] (by decide +kernel) 288 #[.val (.int i0), .val (.int i1), .val (.int i2), .val (.int i3), .val (.int i4), .val (.int (2 : Int32)), .val (.int (2 : Int32)), .val (.int y1607), .val (.int y1616), .val (.int (i2 &&& (255 : Int32))), .val (.int (i3 &&& (255 : Int32))), .val (.ref a1628), .val (.ref a1644), .val (.ref a1667), .val (.ref a1676), .val (.ref a1693), .val (.ref a2732), .val (.ref a2772), .val (.ref a2807), .val (.ref a2867)] [(.int (2 : Int32)), (.int (2 : Int32))] rfl ?_
      refine own_icmp C S2929 (q := .ne) (o := 19) (by decide +kernel) 307 (by decide) (by decide) (fun (hq : ¬ (2 : Int32) = (2 : Int32)) => False.elim (by revert hq; decide)) (fun (q2931 : (2 : Int32) = (2 : Int32)) => ?_)
      refine own_seg C S2929 [(291, .aload 19, 2), (293, .iload 5, 2), (295, .iconst 2, 1), (296, .iadd, 1)] (by decide +kernel) 297 #[.val (.int i0), .val (.int i1), .val (.int i2), .val (.int i3), .val (.int i4), .val (.int (2 : Int32)), .val (.int (2 : Int32)), .val (.int y1607), .val (.int y1616), .val (.int (i2 &&& (255 : Int32))), .val (.int (i3 &&& (255 : Int32))), .val (.ref a1628), .val (.ref a1644), .val (.ref a1667), .val (.ref a1676), .val (.ref a1693), .val (.ref a2732), .val (.ref a2772), .val (.ref a2807), .val (.ref a2867)] [(.int ((2 : Int32) + (2 : Int32))), (.ref a2867)] rfl ?_
      refine own_callV C S2929 (own_wd hw 237 rfl) (own_wd hw 238 rfl) (own_wd hw 240 rfl) (y' := ⟨"java/lang/String", "charAt", "(I)C"⟩) rfl (own_wd hw 240 rfl) (own_wd hw 239 rfl) (by decide) (Q := (fun v h' L => v = some (.int ((([y1607, y1616, (58 : Int32), (i2 &&& (255 : Int32)), (i3 &&& (255 : Int32))] : List Int32)).getD 4 0)) ∧ L = [] ∧ h' = h2884)) (StrChars.Road.chN (W := 0) C.2.2.2.2.2.2.2 (fun d hd => hw d (own_hch d hd)) (kI := 4) (own_wd hw 6 rfl) f2873 f2875 f2874 f2876 hcd2889 (own_up _ hp2888) (O2.ext f2893.2) P5 (O4.ext f2893.2) rG3 (Nat.le_of_ble_eq_true rfl) (i := 4) (Nat.le_of_ble_eq_true rfl) rfl (by decide) (by decide)) (fun _ _ L q => by rw [q.2.1]; exact Fr.nil _) f2873 [(.int ((2 : Int32) + (2 : Int32)))] [] rfl own_pd26 rfl rfl rfl (Nat.le_of_ble_eq_true rfl) (by decide) (by decide) (by decide +kernel) ?_
      rintro T2933 h2934 v2935 L2936 S2937 ⟨rfl, -, e2932⟩
      replace S2937 : own_S p l e room_1 (s.setVm vm2890) m #[(.int i0), (.int i1), (.int i2), (.int i3), (.int i4)] below meth c n0 T2933 h2934 22 215 := S2937
      rw [e2932] at S2937; clear e2932
      show own_Go p e below _ T2933 (mkF m 300 #[.val (.int i0), .val (.int i1), .val (.int i2), .val (.int i3), .val (.int i4), .val (.int (2 : Int32)), .val (.int (2 : Int32)), .val (.int y1607), .val (.int y1616), .val (.int (i2 &&& (255 : Int32))), .val (.int (i3 &&& (255 : Int32))), .val (.ref a1628), .val (.ref a1644), .val (.ref a1667), .val (.ref a1676), .val (.ref a1693), .val (.ref a2732), .val (.ref a2772), .val (.ref a2807), .val (.ref a2867)] [(.int (i3 &&& (255 : Int32)))])
      refine own_seg C S2937 [(300, .iload 10, 2)] (by decide +kernel) 302 #[.val (.int i0), .val (.int i1), .val (.int i2), .val (.int i3), .val (.int i4), .val (.int (2 : Int32)), .val (.int (2 : Int32)), .val (.int y1607), .val (.int y1616), .val (.int (i2 &&& (255 : Int32))), .val (.int (i3 &&& (255 : Int32))), .val (.ref a1628), .val (.ref a1644), .val (.ref a1667), .val (.ref a1676), .val (.ref a1693), .val (.ref a2732), .val (.ref a2772), .val (.ref a2807), .val (.ref a2867)] [(.int (i3 &&& (255 : Int32))), (.int (i3 &&& (255 : Int32)))] rfl ?_
      refine own_icmp C S2937 (q := .eq) (o := 5) (by decide +kernel) 307 (by decide) (by decide) (fun (q2938 : (i3 &&& (255 : Int32)) = (i3 &&& (255 : Int32))) => ?_) (fun (hq : ¬ (i3 &&& (255 : Int32)) = (i3 &&& (255 : Int32))) => False.elim (hq rfl))
      refine own_seg C S2937 [(307, .iconst 1, 1)] (by decide +kernel) 308 #[.val (.int i0), .val (.int i1), .val (.int i2), .val (.int i3), .val (.int i4), .val (.int (2 : Int32)), .val (.int (2 : Int32)), .val (.int y1607), .val (.int y1616), .val (.int (i2 &&& (255 : Int32))), .val (.int (i3 &&& (255 : Int32))), .val (.ref a1628), .val (.ref a1644), .val (.ref a1667), .val (.ref a1676), .val (.ref a1693), .val (.ref a2732), .val (.ref a2772), .val (.ref a2807), .val (.ref a2867)] [(.int (1 : Int32))] rfl ?_
      have SW2939 : own_SW p l e room_1 s m #[(.int i0), (.int i1), (.int i2), (.int i3), (.int i4)] below meth c n0 Z own_EL "com/example/nearfar_cache/nearfarcache/redis/RedisKeysOfPinLaw" T2933 h2884 [a1628, a1644, a1667, a1676, a1693, a2732, t2752, a2772, t2790, a2807] 22 215 := rb2892 _ _ _ _ [] [] S2937 (Keep.refl _ _) all0 all0
      refine own_retZW CW SW2939 (by decide +kernel) (by decide) (by decide) (by decide) ?_
      rfl
theorem own_sAt : ∀ a ∈ Bundle.stringAtoms, a ∈ tables_1 := by decide +kernel
set_option maxRecDepth 65536 in
theorem own_ELok {Z : State} {a0 : Array Value} (hw : ∀ d ∈ tables_1, d.before a0 Z = true) : EW Z a0 own_EL := (EW.cons (own_wd hw 49 rfl) (by decide) (EW.cons (own_wd hw 101 rfl) (by decide) (EW.cons (own_wd hw 117 rfl) (by decide) (EW.cons (own_wd hw 119 rfl) (by decide) (EW.cons (own_wd hw 34 rfl) (by decide) EW.nil)))))
set_option maxRecDepth 65536 in
set_option maxHeartbeats 40000000 in
theorem comes_1 {Post : Tables → Env → Array Value → State → Outcome → State → Prop} (hpost : ∀ tb e args s v u, (limb_1_1.after args s (.returned v) u = true ∧ limb_1_2.after args s (.returned v) u = true ∧ True) → Jvm.D.FramedW s (.returned v) u (Jvm.fieldLocs frame_1_writes args s ++ Jvm.arrayLocs frame_1_arrays args s ++ Jvm.staticLocs frame_1_statics s) 48 5312 → Post tb e args s (.returned v) u) :
    ArmFor flags0 classFile x code maxLocals ret World_1 tables_1 room_1 Calls_1 rest_1 Pre_1 Post := by
  intro l hfl _ _ p e ha hc hk s m args below hf hA hF happ hP
  obtain ⟨hcalls, hrest, hpre⟩ := hP
  obtain ⟨-, -, -, hnamed, -, -, -, hat⟩ := (Spec.applies_iff hf).mp happ
  obtain ⟨hg, hn⟩ := and_e (Cond.before_iff.mp (show (Jvm.Cond.and given_1 narrow_1).before args s = true from hpre))
  obtain ⟨hcount, hk0⟩ := and_e hg
  obtain ⟨ha0, hk1⟩ := and_e hk0
  obtain ⟨ha1, hk2⟩ := and_e hk1
  obtain ⟨ha2, hk3⟩ := and_e hk2
  obtain ⟨ha3, hk4⟩ := and_e hk3
  obtain ⟨w0, w1, w2, w3, w4, rfl⟩ : ∃ w0 w1 w2 w3 w4 : Value, args = #[w0, w1, w2, w3, w4] := by
    have hs : args.size = 5 := by simpa [Cond.value, given_1] using hcount
    obtain ⟨L⟩ := args
    match L, hs with
    | [w0, w1, w2, w3, w4], _ => exact ⟨w0, w1, w2, w3, w4, rfl⟩
  have hw := fun d (hd : d ∈ tables_1) => atoms_spec (ws := Jvm.Cond.code x code maxLocals ret :: tables_1) hat d (List.mem_cons_of_mem _ hd)
  obtain ⟨i0, ei0⟩ := is_v ha0
  obtain rfl : w0 = (.int i0) := Option.some.inj ei0
  obtain ⟨i1, ei1⟩ := is_v ha1
  obtain rfl : w1 = (.int i1) := Option.some.inj ei1
  obtain ⟨i2, ei2⟩ := is_v ha2
  obtain rfl : w2 = (.int i2) := Option.some.inj ei2
  obtain ⟨i3, ei3⟩ := is_v ha3
  obtain rfl : w3 = (.int i3) := Option.some.inj ei3
  obtain ⟨i4, ei4⟩ := is_v hk4
  obtain rfl : w4 = (.int i4) := Option.some.inj ei4
  obtain ⟨hsets, hown0⟩ := atoms_of _ (rest_1_c_eq ▸ (show rest_1_c.before _ s = true from hrest))
  have nz := not_v (Cond.before_iff.mp (hsets _ (List.mem_of_getElem? (i := 2) rfl)))
  obtain ⟨g1, eg1⟩ := is_v (Cond.before_iff.mp (hsets _ (List.mem_of_getElem? (i := 1) rfl)))
  have O2 : Sta s s.heap "java/lang/String" "COMPACT_STRINGS" "Z" (.int g1) := Sta.start eg1 (Or.inl (hsets _ (List.mem_of_getElem? (i := 0) rfl)))
  obtain ⟨g3, eg3, rg3⟩ := isR_v (Cond.before_iff.mp (hsets _ (List.mem_of_getElem? (i := 8) rfl)))
  have O4 : Sta s s.heap "jdk/internal/util/Preconditions" "SIOOBE_FORMATTER" "Ljava/util/function/BiFunction;" g3 := Sta.start eg3 (Or.inl (hsets _ (List.mem_of_getElem? (i := 7) rfl)))
  have P5 : ¬ (g1 = (0 : Int32)) := gotF (Cond.eq_ints eg1 (Term.int_eval (0))) nz
  have hEL : EW s _ own_EL := own_ELok hw
  have wS : ∀ a ∈ Bundle.stringAtoms, a.before _ s = true := fun a ha => hw a (own_sAt a ha)
  have hCH : CHv s own_EL s.vm s.heap := CHv.start hEL (fun p hp => hcalls.1 p hp) (hsets _ (List.mem_of_getElem? (i := 2) rfl)) (own_wd hw 23 rfl) (own_wd hw 6 rfl)
  obtain ⟨n, o, g1, g2, g3, _, L, rfl, ⟨rfl, N⟩, -, hq⟩ := own_law l s _ hw hEL wS  g1 g3 i0 i1 i2 i3 i4 s.heap s.heap.size (Nat.le_refl _) (Old.start s) O2 O4 P5 rg3 tables_1 p e ha hc hk s m _ below hf ((Spec.applies_iff_loose hf).mp happ).1 ⟨rfl, State.Warmed39.refl s, rfl, hCH, all0⟩ trivial
  refine ⟨n, _, g1, g2, g3, hpost _ _ _ _ _ _ ⟨Cond.after_iff.mpr rfl, Cond.after_iff.mpr (eq_i res_at (Term.int_eval (1)) rfl), trivial⟩ ⟨hq.1, hq.2.1, hq.2.2.1, (hq.2.2.2.sift fun y hy => Or.inr (N y hy)).mono (by decide) (by decide)⟩⟩
theorem main_1_1 : Claimed_1_1 := comes_1 fun _ _ _ _ _ _ h hF => ⟨h.1, hF⟩
theorem main_1_2 : Claimed_1_2 := comes_1 fun _ _ _ _ _ _ h hF => ⟨h.2.1, hF⟩
end Jvm.Pilot.@@N@@
namespace Jvm.Pilot.@@N@@
open Jvm Jvm.ClassFile Sem Op Lib Jvm.Free Jvm.Stand Jvm.Pilot.@@N@@.Jvm.D
/-! MADE BY PROGRAM (witnessworld.py) out of the Statement's table words and the real class files: 29 classes; the members and pool entries that the words name. The judged class is class 1, her method 2. -/
namespace start1
open Jvm.ClassFile
def u (s : String) : CpInfo := .utf8 (stringToUtf16 s)
/-- a pool by its gaps: so many unusable entries, then the entry; so many at the end -/
def gap : Nat → List CpInfo → List CpInfo
  | 0, r => r
  | n + 1, r => .unusable :: gap n r
def poolList (es : List (Nat × CpInfo)) (last : Nat) : List CpInfo := es.foldr (fun e r => gap e.1 (e.2 :: r)) (gap last [])
def pool (es : List (Nat × CpInfo)) (last : Nat) : Array CpInfo := ⟨poolList es last⟩
def fileOf (pool : Array CpInfo) (this : Nat) (attrs : Array Attribute := #[]) (ms : Array MethodInfo := #[]) (fl : Nat := 33) (sup : Nat := 0) (ifs : Array Nat := #[]) (fds : Array FieldInfo := #[]) : ClassFile where
  minorVersion := 0
  majorVersion := 65
  constantPool := pool
  accessFlags := fl
  thisClass := this
  superClass := sup
  interfaces := ifs
  fields := fds
  methods := ms
  attributes := attrs
def plain (name : String) (sup : Option ClassId) : Class where
  name := name
  kind := .ordinary
  loader := none
  accessFlags := 33
  super := sup
  interfaces := #[]
  cf := none
  fields := #[]
  methods := #[]
  instanceTypes := #[]
  staticTypes := #[]
  resolved := #[]
  callSites := []
  init := .initialized
  statics := none
  mirror := none

def pool0 : Array CpInfo := pool [(5, u "<init>"), (0, u "()V"), (1, .class_ 10), (1, u "java/lang/Object")] 113

def k0c0 : Code := { maxStack := 0, maxLocals := 1, code := object_method_1_code, exceptionTable := #[], attributes := #[] }
def k0m0 : Method := { name := "<init>", desc := "()V", sig := { parameters := [], returnType := none }, accessFlags := 1, code := some k0c0 }
/-- java/lang/Object -/
def k0 : Class := { plain "java/lang/Object" none with
  accessFlags := 33
  interfaces := #[]
  cf := some (fileOf pool0 8 #[] #[{ accessFlags := 1, nameIndex := 5, descriptorIndex := 6, attributes := #[] }] 33 0 #[] #[])
  fields := #[]
  methods := #[k0m0]
  instanceTypes := #[]
  staticTypes := #[]
  resolved := Array.replicate 124 none
  statics := none }

def pool1 : Array CpInfo := pool [(2, .class_ 4), (1, u "java/lang/Object"), (0, u "<init>"), (0, u "()V"), (0, .methodref 8 9), (0, .class_ 10), (0, .nameAndType 11 12), (0, u "com/example/nearfar_cache/nearfarcache/redis/RedisKeysOfPinLaw"), (0, u "nameChar"), (0, u "(I)C"), (0, .class_ 14), (0, u "java/lang/String"), (0, .methodref 13 16), (0, .nameAndType 5 17), (0, u "([C)V"), (0, .class_ 19), (0, u "com/example/nearfar_cache/nearfarcache/Namespace"), (0, .methodref 18 21), (0, .nameAndType 5 22), (0, u "(Ljava/lang/String;)V"), (0, .methodref 24 25), (0, .class_ 26), (0, .nameAndType 27 28), (0, u "com/example/nearfar_cache/nearfarcache/redis/RedisKeys"), (0, u "of"), (0, u "(Lcom/example/nearfar_cache/nearfarcache/Namespace;Ljava/lang/String;)Ljava/lang/String;"), (0, .methodref 13 30), (0, .nameAndType 31 32), (0, u "length"), (0, u "()I"), (0, .methodref 13 34), (0, .nameAndType 35 12), (0, u "charAt"), (3, u "law"), (0, u "(IIIII)Z")] 4

def k1m0 : Method := { name := "<init>", desc := "()V", sig := { parameters := [], returnType := none }, accessFlags := 2, code := none }
def k1c1 : Code := { maxStack := 2, maxLocals := 2, code := method_2_code, exceptionTable := #[], attributes := #[] }
def k1m1 : Method := { name := "nameChar", desc := "(I)C", sig := { parameters := [.int], returnType := some .char }, accessFlags := 10, code := some k1c1 }
def k1c2 : Code := { maxStack := 4, maxLocals := 20, code := code, exceptionTable := #[], attributes := #[] }
def k1m2 : Method := { name := "law", desc := "(IIIII)Z", sig := { parameters := [.int, .int, .int, .int, .int], returnType := some .boolean }, accessFlags := 9, code := some k1c2 }
/-- com/example/nearfar_cache/nearfarcache/redis/RedisKeysOfPinLaw -/
def k1 : Class := { plain "com/example/nearfar_cache/nearfarcache/redis/RedisKeysOfPinLaw" (some 0) with
  accessFlags := 49
  interfaces := #[]
  cf := some (fileOf pool1 8 #[] #[{ accessFlags := 2, nameIndex := 5, descriptorIndex := 6, attributes := #[] }, { accessFlags := 10, nameIndex := 11, descriptorIndex := 12, attributes := #[] }, { accessFlags := 9, nameIndex := 39, descriptorIndex := 40, attributes := #[] }] 49 2 #[] #[])
  fields := #[]
  methods := #[k1m0, k1m1, k1m2]
  instanceTypes := #[]
  staticTypes := #[]
  resolved := Array.replicate 45 none
  statics := none }

def pool2 : Array CpInfo := pool [(1, .class_ 2), (0, u "java/io/Serializable"), (0, .class_ 4), (0, u "java/lang/Object")] 2

/-- java/io/Serializable -/
def k2 : Class := { plain "java/io/Serializable" (some 0) with
  accessFlags := 1537
  interfaces := #[]
  cf := some (fileOf pool2 1 #[] #[] 1537 3 #[] #[])
  fields := #[]
  methods := #[]
  instanceTypes := #[]
  staticTypes := #[]
  resolved := Array.replicate 7 none
  statics := none }

def pool3 : Array CpInfo := pool [(1, .class_ 2), (0, u "java/lang/Comparable"), (0, .class_ 4), (0, u "java/lang/Object")] 7

/-- java/lang/Comparable -/
def k3 : Class := { plain "java/lang/Comparable" (some 0) with
  accessFlags := 1537
  interfaces := #[]
  cf := some (fileOf pool3 1 #[] #[] 1537 3 #[] #[])
  fields := #[]
  methods := #[]
  instanceTypes := #[]
  staticTypes := #[]
  resolved := Array.replicate 12 none
  statics := none }

def pool4 : Array CpInfo := pool [(2, .class_ 4), (1, u "java/lang/CharSequence"), (42, .class_ 48), (0, u "java/lang/CharSequence$1CodePointIterator"), (10, .class_ 60), (0, u "java/lang/CharSequence$1CharIterator"), (5, .class_ 67), (0, u "java/lang/Object")] 63

/-- java/lang/CharSequence -/
def k4 : Class := { plain "java/lang/CharSequence" (some 0) with
  accessFlags := 1537
  interfaces := #[]
  cf := some (fileOf pool4 2 #[.nestMembers #[47, 59]] #[] 1537 66 #[] #[])
  fields := #[]
  methods := #[]
  instanceTypes := #[]
  staticTypes := #[]
  resolved := Array.replicate 131 none
  statics := none }

def pool5 : Array CpInfo := pool [(1, .class_ 2), (0, u "java/lang/constant/Constable"), (0, .class_ 4), (0, u "java/lang/Object")] 6

/-- java/lang/constant/Constable -/
def k5 : Class := { plain "java/lang/constant/Constable" (some 0) with
  accessFlags := 1537
  interfaces := #[]
  cf := some (fileOf pool5 1 #[] #[] 1537 3 #[] #[])
  fields := #[]
  methods := #[]
  instanceTypes := #[]
  staticTypes := #[]
  resolved := Array.replicate 11 none
  statics := none }

def pool6 : Array CpInfo := pool [(1, .class_ 2), (0, u "java/lang/constant/ConstantDesc"), (0, .class_ 4), (0, u "java/lang/Object")] 32

/-- java/lang/constant/ConstantDesc -/
def k6 : Class := { plain "java/lang/constant/ConstantDesc" (some 0) with
  accessFlags := 1537
  interfaces := #[]
  cf := some (fileOf pool6 1 #[] #[] 1537 3 #[] #[])
  fields := #[]
  methods := #[]
  instanceTypes := #[]
  staticTypes := #[]
  resolved := Array.replicate 37 none
  statics := none }

def pool7 : Array CpInfo := pool [(1, .methodref 2 3), (0, .class_ 4), (0, .nameAndType 5 6), (0, u "java/lang/Object"), (0, u "<init>"), (0, u "()V"), (0, .string 8), (0, u ""), (0, .fieldref 10 11), (0, .class_ 12), (0, .nameAndType 13 14), (0, u "java/lang/String"), (0, u "value"), (0, u "[B"), (0, .fieldref 10 16), (0, .nameAndType 17 18), (0, u "coder"), (0, u "B"), (2, u "hash"), (0, u "I"), (2, u "hashIsZero"), (0, u "Z"), (0, .methodref 10 28), (0, .nameAndType 5 29), (0, u "([CIILjava/lang/Void;)V"), (8, .fieldref 10 39), (0, .nameAndType 40 26), (0, u "COMPACT_STRINGS"), (1, .class_ 44), (1, u "java/lang/StringUTF16"), (0, u "compress"), (1, .methodref 42 48), (0, .nameAndType 49 50), (0, u "coderFromArrayLen"), (0, u "([BI)B"), (3, .methodref 55 56), (0, .class_ 57), (0, .nameAndType 58 59), (0, u "java/util/Arrays"), (0, u "copyOfRange"), (0, u "([BII)[B"), (47, .class_ 109), (1, u "java/lang/StringLatin1"), (32, u "()Z"), (34, .methodref 42 178), (0, .nameAndType 45 179), (0, u "([CII)[B"), (13, .class_ 195), (1, u "java/lang/System"), (16, .methodref 193 213), (0, .nameAndType 214 215), (0, u "arraycopy"), (0, u "(Ljava/lang/Object;ILjava/lang/Object;II)V"), (118, u "()I"), (0, .methodref 10 336), (0, .nameAndType 17 337), (0, u "()B"), (2, u "()[B"), (22, u "([BI)C"), (27, u "(II)V"), (35, u "(I)C"), (61, .methodref 10 490), (0, .nameAndType 5 491), (0, u "(Ljava/lang/AbstractStringBuilder;Ljava/lang/Void;)V"), (0, .methodref 10 493), (0, .nameAndType 494 142), (0, u "isLatin1"), (0, .methodref 107 496), (0, .nameAndType 497 363), (0, u "charAt"), (3, u "checkIndex"), (3, .methodref 10 506), (0, .nameAndType 507 334), (0, u "length"), (24, u "getBytes"), (8, .methodref 107 542), (0, .nameAndType 543 544), (0, u "equals"), (0, u "([B[B)Z"), (4, .methodref 550 506), (0, .class_ 551), (0, u "java/lang/AbstractStringBuilder"), (0, .methodref 550 553), (0, .nameAndType 554 340), (0, u "getValue"), (18, u "(Ljava/lang/Object;)Z"), (1, .class_ 576), (0, u "java/lang/CharSequence"), (22, u "CASE_INSENSITIVE_ORDER"), (0, u "Ljava/util/Comparator;"), (32, .methodref 10 634), (0, .nameAndType 635 636), (0, u "indexOf"), (0, u "(II)I"), (0, .methodref 107 638), (0, .nameAndType 635 639), (0, u "([BIII)I"), (52, u "isEmpty"), (72, u "(I)I"), (55, u "([BIB)V"), (188, u "([C)V"), (36, .methodref 550 493), (5, .fieldref 1054 1055), (0, .class_ 1056), (0, .nameAndType 1057 1058), (0, u "jdk/internal/util/Preconditions"), (0, u "SIOOBE_FORMATTER"), (0, u "Ljava/util/function/BiFunction;"), (0, .methodref 1054 1060), (0, .nameAndType 501 1061), (0, u "(IILjava/util/function/BiFunction;)I"), (39, u "serialPersistentFields"), (0, u "[Ljava/io/ObjectStreamField;"), (0, .class_ 1104), (0, u "java/lang/String$CaseInsensitiveComparator"), (1, .class_ 1107), (0, u "java/io/Serializable"), (0, .class_ 1109), (0, u "java/lang/Comparable"), (0, .class_ 1111), (0, u "java/lang/constant/Constable"), (0, .class_ 1113), (0, u "java/lang/constant/ConstantDesc"), (2, u "serialVersionUID"), (0, u "J"), (3, u "REPL"), (0, u "C"), (2, u "LATIN1"), (1, u "UTF16"), (105, u "(Ljava/lang/StringBuilder;)V")] 217

def k7m0 : Method := { name := "<init>", desc := "()V", sig := { parameters := [], returnType := none }, accessFlags := 1, code := none }
def k7c1 : Code := { maxStack := 5, maxLocals := 2, code := jdk_42_method_3_code, exceptionTable := #[], attributes := #[] }
def k7m1 : Method := { name := "<init>", desc := "([C)V", sig := { parameters := [(.array .char)], returnType := none }, accessFlags := 1, code := some k7c1 }
def k7c2 : Code := { maxStack := 3, maxLocals := 2, code := jdk_42_method_53_code, exceptionTable := #[], attributes := #[] }
def k7m2 : Method := { name := "<init>", desc := "(Ljava/lang/StringBuilder;)V", sig := { parameters := [(.object "java/lang/StringBuilder")], returnType := none }, accessFlags := 1, code := some k7c2 }
def k7c3 : Code := { maxStack := 2, maxLocals := 1, code := jdk_42_method_54_code, exceptionTable := #[], attributes := #[] }
def k7m3 : Method := { name := "length", desc := "()I", sig := { parameters := [], returnType := some .int }, accessFlags := 1, code := some k7c3 }
def k7c4 : Code := { maxStack := 1, maxLocals := 1, code := jdk_42_method_55_code, exceptionTable := #[], attributes := #[] }
def k7m4 : Method := { name := "isEmpty", desc := "()Z", sig := { parameters := [], returnType := some .boolean }, accessFlags := 1, code := some k7c4 }
def k7c5 : Code := { maxStack := 2, maxLocals := 2, code := jdk_42_method_56_code, exceptionTable := #[], attributes := #[] }
def k7m5 : Method := { name := "charAt", desc := "(I)C", sig := { parameters := [.int], returnType := some .char }, accessFlags := 1, code := some k7c5 }
def k7c6 : Code := { maxStack := 2, maxLocals := 3, code := jdk_42_method_66_code, exceptionTable := #[], attributes := #[] }
def k7m6 : Method := { name := "equals", desc := "(Ljava/lang/Object;)Z", sig := { parameters := [(.object "java/lang/Object")], returnType := some .boolean }, accessFlags := 1, code := some k7c6 }
def k7c7 : Code := { maxStack := 3, maxLocals := 2, code := jdk_42_method_79_code, exceptionTable := #[], attributes := #[] }
def k7m7 : Method := { name := "indexOf", desc := "(I)I", sig := { parameters := [.int], returnType := some .int }, accessFlags := 1, code := some k7c7 }
def k7c8 : Code := { maxStack := 4, maxLocals := 3, code := jdk_42_method_80_code, exceptionTable := #[], attributes := #[] }
def k7m8 : Method := { name := "indexOf", desc := "(II)I", sig := { parameters := [.int, .int], returnType := some .int }, accessFlags := 1, code := some k7c8 }
def k7c9 : Code := { maxStack := 5, maxLocals := 4, code := jdk_42_method_147_code, exceptionTable := #[], attributes := #[] }
def k7m9 : Method := { name := "getBytes", desc := "([BIB)V", sig := { parameters := [(.array .byte), .int, .byte], returnType := none }, accessFlags := 0, code := some k7c9 }
def k7c10 : Code := { maxStack := 4, maxLocals := 6, code := jdk_42_method_149_code, exceptionTable := #[], attributes := #[] }
def k7m10 : Method := { name := "<init>", desc := "([CIILjava/lang/Void;)V", sig := { parameters := [(.array .char), .int, .int, (.object "java/lang/Void")], returnType := none }, accessFlags := 2, code := some k7c10 }
def k7c11 : Code := { maxStack := 5, maxLocals := 5, code := jdk_42_method_150_code, exceptionTable := #[], attributes := #[] }
def k7m11 : Method := { name := "<init>", desc := "(Ljava/lang/AbstractStringBuilder;Ljava/lang/Void;)V", sig := { parameters := [(.object "java/lang/AbstractStringBuilder"), (.object "java/lang/Void")], returnType := none }, accessFlags := 0, code := some k7c11 }
def k7c12 : Code := { maxStack := 1, maxLocals := 1, code := jdk_42_method_152_code, exceptionTable := #[], attributes := #[] }
def k7m12 : Method := { name := "coder", desc := "()B", sig := { parameters := [], returnType := some .byte }, accessFlags := 0, code := some k7c12 }
def k7c13 : Code := { maxStack := 1, maxLocals := 1, code := jdk_42_method_154_code, exceptionTable := #[], attributes := #[] }
def k7m13 : Method := { name := "isLatin1", desc := "()Z", sig := { parameters := [], returnType := some .boolean }, accessFlags := 0, code := some k7c13 }
def k7c14 : Code := { maxStack := 3, maxLocals := 2, code := jdk_42_method_155_code, exceptionTable := #[], attributes := #[] }
def k7m14 : Method := { name := "checkIndex", desc := "(II)V", sig := { parameters := [.int, .int], returnType := none }, accessFlags := 8, code := some k7c14 }
/-- java/lang/String -/
def k7 : Class := { plain "java/lang/String" (some 0) with
  accessFlags := 49
  interfaces := #[2, 3, 4, 5, 6]
  cf := some (fileOf pool7 10 #[.nestMembers #[1103]] #[{ accessFlags := 1, nameIndex := 5, descriptorIndex := 6, attributes := #[] }, { accessFlags := 1, nameIndex := 5, descriptorIndex := 1010, attributes := #[] }, { accessFlags := 1, nameIndex := 5, descriptorIndex := 1233, attributes := #[] }, { accessFlags := 1, nameIndex := 507, descriptorIndex := 334, attributes := #[] }, { accessFlags := 1, nameIndex := 692, descriptorIndex := 142, attributes := #[] }, { accessFlags := 1, nameIndex := 497, descriptorIndex := 427, attributes := #[] }, { accessFlags := 1, nameIndex := 543, descriptorIndex := 573, attributes := #[] }, { accessFlags := 1, nameIndex := 635, descriptorIndex := 765, attributes := #[] }, { accessFlags := 1, nameIndex := 635, descriptorIndex := 636, attributes := #[] }, { accessFlags := 0, nameIndex := 532, descriptorIndex := 821, attributes := #[] }, { accessFlags := 2, nameIndex := 5, descriptorIndex := 29, attributes := #[] }, { accessFlags := 0, nameIndex := 5, descriptorIndex := 491, attributes := #[] }, { accessFlags := 0, nameIndex := 17, descriptorIndex := 337, attributes := #[] }, { accessFlags := 0, nameIndex := 494, descriptorIndex := 142, attributes := #[] }, { accessFlags := 8, nameIndex := 501, descriptorIndex := 391, attributes := #[] }] 49 2 #[1106, 1108, 575, 1110, 1112] #[{ accessFlags := 18, nameIndex := 13, descriptorIndex := 14, attributes := #[] }, { accessFlags := 18, nameIndex := 17, descriptorIndex := 18, attributes := #[] }, { accessFlags := 2, nameIndex := 21, descriptorIndex := 22, attributes := #[] }, { accessFlags := 2, nameIndex := 25, descriptorIndex := 26, attributes := #[] }, { accessFlags := 26, nameIndex := 1116, descriptorIndex := 1117, attributes := #[] }, { accessFlags := 24, nameIndex := 40, descriptorIndex := 26, attributes := #[] }, { accessFlags := 26, nameIndex := 1101, descriptorIndex := 1102, attributes := #[] }, { accessFlags := 26, nameIndex := 1121, descriptorIndex := 1122, attributes := #[] }, { accessFlags := 25, nameIndex := 599, descriptorIndex := 600, attributes := #[] }, { accessFlags := 24, nameIndex := 1125, descriptorIndex := 18, attributes := #[] }, { accessFlags := 24, nameIndex := 1127, descriptorIndex := 18, attributes := #[] }])
  fields := #[{ name := "value", type := (.array .byte), accessFlags := 18, slot := 0, constantValue := 0 }, { name := "coder", type := .byte, accessFlags := 18, slot := 1, constantValue := 0 }, { name := "hash", type := .int, accessFlags := 2, slot := 2, constantValue := 0 }, { name := "hashIsZero", type := .boolean, accessFlags := 2, slot := 3, constantValue := 0 }, { name := "serialVersionUID", type := .long, accessFlags := 26, slot := 0, constantValue := 0 }, { name := "COMPACT_STRINGS", type := .boolean, accessFlags := 24, slot := 1, constantValue := 0 }, { name := "serialPersistentFields", type := (.array (.object "java/io/ObjectStreamField")), accessFlags := 26, slot := 2, constantValue := 0 }, { name := "REPL", type := .char, accessFlags := 26, slot := 3, constantValue := 0 }, { name := "CASE_INSENSITIVE_ORDER", type := (.object "java/util/Comparator"), accessFlags := 25, slot := 4, constantValue := 0 }, { name := "LATIN1", type := .byte, accessFlags := 24, slot := 5, constantValue := 0 }, { name := "UTF16", type := .byte, accessFlags := 24, slot := 6, constantValue := 0 }]
  methods := #[k7m0, k7m1, k7m2, k7m3, k7m4, k7m5, k7m6, k7m7, k7m8, k7m9, k7m10, k7m11, k7m12, k7m13, k7m14]
  instanceTypes := #[(.array .byte), .byte, .int, .boolean]
  staticTypes := #[.long, .boolean, (.array (.object "java/io/ObjectStreamField")), .char, (.object "java/util/Comparator"), .byte, .byte]
  resolved := Array.replicate 1451 none
  statics := some 0 }

def pool8 : Array CpInfo := pool [(6, .class_ 8), (1, u "java/lang/Object"), (0, u "<init>"), (0, u "()V"), (1, .class_ 14), (1, u "java/lang/StringUTF16"), (31, u "$assertionsDisabled"), (0, u "Z"), (13, u "HI_BYTE_SHIFT"), (0, u "I"), (2, u "LO_BYTE_SHIFT"), (49, .methodref 12 116), (0, .nameAndType 117 118), (0, u "compress"), (0, u "([CI[BII)I"), (3, u "([CII)[B"), (138, u "coderFromArrayLen"), (0, u "([BI)B"), (106, .class_ 371), (1, u "java/lang/StringUTF16$LinesSpliterator"), (58, u "MAX_LENGTH"), (196, .class_ 628), (0, u "java/lang/StringUTF16$CodePointsSpliterator"), (0, .class_ 630), (0, u "java/lang/StringUTF16$CharsSpliterator")] 4

def k8m0 : Method := { name := "<init>", desc := "()V", sig := { parameters := [], returnType := none }, accessFlags := 0, code := none }
def k8c1 : Code := { maxStack := 2, maxLocals := 2, code := jdk_52_method_15_code, exceptionTable := #[], attributes := #[] }
def k8m1 : Method := { name := "coderFromArrayLen", desc := "([BI)B", sig := { parameters := [(.array .byte), .int], returnType := some .byte }, accessFlags := 8, code := some k8c1 }
def k8c2 : Code := { maxStack := 5, maxLocals := 6, code := jdk_52_method_16_code, exceptionTable := #[], attributes := #[] }
def k8m2 : Method := { name := "compress", desc := "([CII)[B", sig := { parameters := [(.array .char), .int, .int], returnType := some (.array .byte) }, accessFlags := 9, code := some k8c2 }
def k8c3 : Code := { maxStack := 3, maxLocals := 7, code := jdk_52_method_21_code, exceptionTable := #[], attributes := #[] }
def k8m3 : Method := { name := "compress", desc := "([CI[BII)I", sig := { parameters := [(.array .char), .int, (.array .byte), .int, .int], returnType := some .int }, accessFlags := 9, code := some k8c3 }
/-- java/lang/StringUTF16 -/
def k8 : Class := { plain "java/lang/StringUTF16" (some 0) with
  accessFlags := 48
  interfaces := #[]
  cf := some (fileOf pool8 12 #[.nestMembers #[627, 629, 369]] #[{ accessFlags := 0, nameIndex := 9, descriptorIndex := 10, attributes := #[] }, { accessFlags := 8, nameIndex := 261, descriptorIndex := 262, attributes := #[] }, { accessFlags := 9, nameIndex := 117, descriptorIndex := 122, attributes := #[] }, { accessFlags := 9, nameIndex := 117, descriptorIndex := 118, attributes := #[] }] 48 6 #[] #[{ accessFlags := 26, nameIndex := 61, descriptorIndex := 62, attributes := #[] }, { accessFlags := 26, nameIndex := 65, descriptorIndex := 62, attributes := #[] }, { accessFlags := 24, nameIndex := 430, descriptorIndex := 62, attributes := #[] }, { accessFlags := 4120, nameIndex := 46, descriptorIndex := 47, attributes := #[] }])
  fields := #[{ name := "HI_BYTE_SHIFT", type := .int, accessFlags := 26, slot := 0, constantValue := 0 }, { name := "LO_BYTE_SHIFT", type := .int, accessFlags := 26, slot := 1, constantValue := 0 }, { name := "MAX_LENGTH", type := .int, accessFlags := 24, slot := 2, constantValue := 0 }, { name := "$assertionsDisabled", type := .boolean, accessFlags := 4120, slot := 3, constantValue := 0 }]
  methods := #[k8m0, k8m1, k8m2, k8m3]
  instanceTypes := #[]
  staticTypes := #[.int, .int, .int, .boolean]
  resolved := Array.replicate 635 none
  statics := none }

def pool9 : Array CpInfo := pool [(1, .methodref 2 3), (0, .class_ 4), (0, .nameAndType 5 6), (0, u "java/lang/Object"), (0, u "<init>"), (0, u "()V"), (0, .class_ 8), (0, u "java/lang/Record")] 13

def k9c0 : Code := { maxStack := 1, maxLocals := 1, code := jdk_30_method_1_code, exceptionTable := #[], attributes := #[] }
def k9m0 : Method := { name := "<init>", desc := "()V", sig := { parameters := [], returnType := none }, accessFlags := 4, code := some k9c0 }
/-- java/lang/Record -/
def k9 : Class := { plain "java/lang/Record" (some 0) with
  accessFlags := 1057
  interfaces := #[]
  cf := some (fileOf pool9 7 #[] #[{ accessFlags := 4, nameIndex := 5, descriptorIndex := 6, attributes := #[] }] 1057 2 #[] #[])
  fields := #[]
  methods := #[k9m0]
  instanceTypes := #[]
  staticTypes := #[]
  resolved := Array.replicate 22 none
  statics := none }

def pool10 : Array CpInfo := pool [(1, .methodref 2 3), (0, .class_ 4), (0, .nameAndType 5 6), (0, u "java/lang/Record"), (0, u "<init>"), (0, u "()V"), (0, .string 8), (0, u "name"), (0, .methodref 10 11), (0, .class_ 12), (0, .nameAndType 13 14), (0, u "java/util/Objects"), (0, u "requireNonNull"), (0, u "(Ljava/lang/Object;Ljava/lang/String;)Ljava/lang/Object;"), (0, .methodref 16 17), (0, .class_ 18), (0, .nameAndType 19 20), (0, u "java/lang/String"), (0, u "isEmpty"), (0, u "()Z"), (6, u "(Ljava/lang/String;)V"), (0, .class_ 29), (0, u "com/example/nearfar_cache/nearfarcache/Namespace"), (0, .methodref 16 31), (0, .nameAndType 32 33), (0, u "indexOf"), (0, u "(I)I"), (12, u "()Ljava/lang/String;"), (0, .string 48), (0, u "nearfar"), (0, .methodref 16 50), (0, .nameAndType 51 52), (0, u "equals"), (0, u "(Ljava/lang/Object;)Z"), (2, .fieldref 28 56), (0, .nameAndType 8 57), (0, u "Ljava/lang/String;"), (10, u "SEPARATOR"), (0, u "C"), (2, u "RESERVED")] 23

def k10c0 : Code := { maxStack := 4, maxLocals := 2, code := prog_19_method_1_code, exceptionTable := #[], attributes := #[] }
def k10m0 : Method := { name := "<init>", desc := "(Ljava/lang/String;)V", sig := { parameters := [(.object "java/lang/String")], returnType := none }, accessFlags := 1, code := some k10c0 }
def k10c1 : Code := { maxStack := 1, maxLocals := 1, code := prog_19_method_5_code, exceptionTable := #[], attributes := #[] }
def k10m1 : Method := { name := "name", desc := "()Ljava/lang/String;", sig := { parameters := [], returnType := some (.object "java/lang/String") }, accessFlags := 1, code := some k10c1 }
/-- com/example/nearfar_cache/nearfarcache/Namespace -/
def k10 : Class := { plain "com/example/nearfar_cache/nearfarcache/Namespace" (some 9) with
  accessFlags := 49
  interfaces := #[]
  cf := some (fileOf pool10 28 #[] #[{ accessFlags := 1, nameIndex := 5, descriptorIndex := 27, attributes := #[] }, { accessFlags := 1, nameIndex := 8, descriptorIndex := 46, attributes := #[] }] 49 2 #[] #[{ accessFlags := 18, nameIndex := 8, descriptorIndex := 57, attributes := #[] }, { accessFlags := 25, nameIndex := 68, descriptorIndex := 69, attributes := #[] }, { accessFlags := 25, nameIndex := 72, descriptorIndex := 57, attributes := #[] }])
  fields := #[{ name := "name", type := (.object "java/lang/String"), accessFlags := 18, slot := 0, constantValue := 0 }, { name := "SEPARATOR", type := .char, accessFlags := 25, slot := 0, constantValue := 0 }, { name := "RESERVED", type := (.object "java/lang/String"), accessFlags := 25, slot := 1, constantValue := 0 }]
  methods := #[k10m0, k10m1]
  instanceTypes := #[(.object "java/lang/String")]
  staticTypes := #[.char, (.object "java/lang/String")]
  resolved := Array.replicate 96 none
  statics := none }

def pool11 : Array CpInfo := pool [(2, .class_ 4), (1, u "java/lang/Object"), (0, u "<init>"), (0, u "()V"), (35, .class_ 44), (1, u "java/util/Objects"), (0, u "requireNonNull"), (48, u "(Ljava/lang/Object;Ljava/lang/String;)Ljava/lang/Object;")] 89

def k11m0 : Method := { name := "<init>", desc := "()V", sig := { parameters := [], returnType := none }, accessFlags := 2, code := none }
def k11c1 : Code := { maxStack := 3, maxLocals := 2, code := jdk_31_method_11_code, exceptionTable := #[], attributes := #[] }
def k11m1 : Method := { name := "requireNonNull", desc := "(Ljava/lang/Object;Ljava/lang/String;)Ljava/lang/Object;", sig := { parameters := [(.object "java/lang/Object"), (.object "java/lang/String")], returnType := some (.object "java/lang/Object") }, accessFlags := 9, code := some k11c1 }
/-- java/util/Objects -/
def k11 : Class := { plain "java/util/Objects" (some 0) with
  accessFlags := 49
  interfaces := #[]
  cf := some (fileOf pool11 42 #[] #[{ accessFlags := 2, nameIndex := 5, descriptorIndex := 6, attributes := #[] }, { accessFlags := 9, nameIndex := 45, descriptorIndex := 94, attributes := #[] }] 49 2 #[] #[])
  fields := #[]
  methods := #[k11m0, k11m1]
  instanceTypes := #[]
  staticTypes := #[]
  resolved := Array.replicate 184 none
  statics := none }

def pool12 : Array CpInfo := pool [(1, .class_ 2), (0, u "java/lang/String"), (1, .class_ 6), (1, u "java/lang/Object"), (0, u "<init>"), (0, u "()V"), (0, .methodref 1 10), (0, .nameAndType 11 12), (0, u "checkIndex"), (0, u "(II)V"), (1, .class_ 16), (1, u "java/lang/StringLatin1"), (21, .methodref 39 40), (0, .class_ 41), (0, .nameAndType 42 43), (0, u "java/lang/Math"), (0, u "min"), (0, u "(II)I"), (9, u "([BI)C"), (34, .methodref 14 89), (0, .nameAndType 90 91), (0, u "canEncode"), (0, u "(I)Z"), (0, .methodref 39 93), (0, .nameAndType 94 43), (0, u "max"), (0, .methodref 14 96), (0, .nameAndType 97 98), (0, u "indexOfChar"), (0, u "([BIII)I"), (2, u "indexOf"), (3, u "(C)Z"), (15, u "$assertionsDisabled"), (0, u "Z"), (98, .class_ 223), (1, u "java/lang/StringLatin1$LinesSpliterator"), (28, u "charAt"), (28, u "equals"), (0, u "([B[B)Z"), (107, .class_ 391), (0, u "java/lang/StringLatin1$CharsSpliterator")] 3

def k12m0 : Method := { name := "<init>", desc := "()V", sig := { parameters := [], returnType := none }, accessFlags := 0, code := none }
def k12c1 : Code := { maxStack := 2, maxLocals := 2, code := jdk_43_method_2_code, exceptionTable := #[], attributes := #[] }
def k12m1 : Method := { name := "charAt", desc := "([BI)C", sig := { parameters := [(.array .byte), .int], returnType := some .char }, accessFlags := 9, code := some k12c1 }
def k12c2 : Code := { maxStack := 2, maxLocals := 1, code := jdk_43_method_3_code, exceptionTable := #[], attributes := #[] }
def k12m2 : Method := { name := "canEncode", desc := "(C)Z", sig := { parameters := [.char], returnType := some .boolean }, accessFlags := 9, code := some k12c2 }
def k12c3 : Code := { maxStack := 2, maxLocals := 1, code := jdk_43_method_4_code, exceptionTable := #[], attributes := #[] }
def k12m3 : Method := { name := "canEncode", desc := "(I)Z", sig := { parameters := [.int], returnType := some .boolean }, accessFlags := 9, code := some k12c3 }
def k12c4 : Code := { maxStack := 3, maxLocals := 3, code := jdk_43_method_13_code, exceptionTable := #[], attributes := #[] }
def k12m4 : Method := { name := "equals", desc := "([B[B)Z", sig := { parameters := [(.array .byte), (.array .byte)], returnType := some .boolean }, accessFlags := 9, code := some k12c4 }
def k12c5 : Code := { maxStack := 4, maxLocals := 4, code := jdk_43_method_22_code, exceptionTable := #[], attributes := #[] }
def k12m5 : Method := { name := "indexOf", desc := "([BIII)I", sig := { parameters := [(.array .byte), .int, .int, .int], returnType := some .int }, accessFlags := 9, code := some k12c5 }
def k12c6 : Code := { maxStack := 2, maxLocals := 6, code := jdk_43_method_23_code, exceptionTable := #[], attributes := #[] }
def k12m6 : Method := { name := "indexOfChar", desc := "([BIII)I", sig := { parameters := [(.array .byte), .int, .int, .int], returnType := some .int }, accessFlags := 10, code := some k12c6 }
/-- java/lang/StringLatin1 -/
def k12 : Class := { plain "java/lang/StringLatin1" (some 0) with
  accessFlags := 48
  interfaces := #[]
  cf := some (fileOf pool12 14 #[.nestMembers #[390, 221]] #[{ accessFlags := 0, nameIndex := 7, descriptorIndex := 8, attributes := #[] }, { accessFlags := 9, nameIndex := 252, descriptorIndex := 53, attributes := #[] }, { accessFlags := 9, nameIndex := 90, descriptorIndex := 105, attributes := #[] }, { accessFlags := 9, nameIndex := 90, descriptorIndex := 91, attributes := #[] }, { accessFlags := 9, nameIndex := 281, descriptorIndex := 282, attributes := #[] }, { accessFlags := 9, nameIndex := 101, descriptorIndex := 98, attributes := #[] }, { accessFlags := 10, nameIndex := 97, descriptorIndex := 98, attributes := #[] }] 48 4 #[] #[{ accessFlags := 4120, nameIndex := 121, descriptorIndex := 122, attributes := #[] }])
  fields := #[{ name := "$assertionsDisabled", type := .boolean, accessFlags := 4120, slot := 0, constantValue := 0 }]
  methods := #[k12m0, k12m1, k12m2, k12m3, k12m4, k12m5, k12m6]
  instanceTypes := #[]
  staticTypes := #[.boolean]
  resolved := Array.replicate 395 none
  statics := none }

def pool13 : Array CpInfo := pool [(1, .class_ 2), (0, u "java/lang/Math"), (1, .class_ 6), (1, u "java/lang/Object"), (0, u "<init>"), (0, u "()V"), (89, .class_ 100), (1, u "java/lang/Math$RandomNumberGeneratorHolder"), (71, u "negativeZeroFloatBits"), (0, u "J"), (2, u "negativeZeroDoubleBits"), (21, u "max"), (2, u "min"), (43, u "$assertionsDisabled"), (0, u "Z"), (88, u "(II)I"), (2, u "twoToTheDoubleScaleDown"), (0, u "D"), (4, u "twoToTheDoubleScaleUp"), (9, u "E"), (3, u "PI"), (2, u "TAU"), (2, u "DEGREES_TO_RADIANS"), (0, u "RADIANS_TO_DEGREES")] 94

def k13m0 : Method := { name := "<init>", desc := "()V", sig := { parameters := [], returnType := none }, accessFlags := 2, code := none }
def k13c1 : Code := { maxStack := 2, maxLocals := 2, code := jdk_29_method_65_code, exceptionTable := #[], attributes := #[] }
def k13m1 : Method := { name := "max", desc := "(II)I", sig := { parameters := [.int, .int], returnType := some .int }, accessFlags := 9, code := some k13c1 }
def k13c2 : Code := { maxStack := 2, maxLocals := 2, code := jdk_29_method_69_code, exceptionTable := #[], attributes := #[] }
def k13m2 : Method := { name := "min", desc := "(II)I", sig := { parameters := [.int, .int], returnType := some .int }, accessFlags := 9, code := some k13c2 }
/-- java/lang/Math -/
def k13 : Class := { plain "java/lang/Math" (some 0) with
  accessFlags := 49
  interfaces := #[]
  cf := some (fileOf pool13 1 #[.nestMembers #[98]] #[{ accessFlags := 2, nameIndex := 7, descriptorIndex := 8, attributes := #[] }, { accessFlags := 9, nameIndex := 198, descriptorIndex := 335, attributes := #[] }, { accessFlags := 9, nameIndex := 201, descriptorIndex := 335, attributes := #[] }] 49 4 #[] #[{ accessFlags := 25, nameIndex := 354, descriptorIndex := 339, attributes := #[] }, { accessFlags := 25, nameIndex := 358, descriptorIndex := 339, attributes := #[] }, { accessFlags := 25, nameIndex := 361, descriptorIndex := 339, attributes := #[] }, { accessFlags := 26, nameIndex := 364, descriptorIndex := 339, attributes := #[] }, { accessFlags := 26, nameIndex := 365, descriptorIndex := 339, attributes := #[] }, { accessFlags := 26, nameIndex := 172, descriptorIndex := 173, attributes := #[] }, { accessFlags := 26, nameIndex := 176, descriptorIndex := 173, attributes := #[] }, { accessFlags := 8, nameIndex := 344, descriptorIndex := 339, attributes := #[] }, { accessFlags := 8, nameIndex := 338, descriptorIndex := 339, attributes := #[] }, { accessFlags := 4120, nameIndex := 245, descriptorIndex := 246, attributes := #[] }])
  fields := #[{ name := "E", type := .double, accessFlags := 25, slot := 0, constantValue := 0 }, { name := "PI", type := .double, accessFlags := 25, slot := 1, constantValue := 0 }, { name := "TAU", type := .double, accessFlags := 25, slot := 2, constantValue := 0 }, { name := "DEGREES_TO_RADIANS", type := .double, accessFlags := 26, slot := 3, constantValue := 0 }, { name := "RADIANS_TO_DEGREES", type := .double, accessFlags := 26, slot := 4, constantValue := 0 }, { name := "negativeZeroFloatBits", type := .long, accessFlags := 26, slot := 5, constantValue := 0 }, { name := "negativeZeroDoubleBits", type := .long, accessFlags := 26, slot := 6, constantValue := 0 }, { name := "twoToTheDoubleScaleUp", type := .double, accessFlags := 8, slot := 7, constantValue := 0 }, { name := "twoToTheDoubleScaleDown", type := .double, accessFlags := 8, slot := 8, constantValue := 0 }, { name := "$assertionsDisabled", type := .boolean, accessFlags := 4120, slot := 9, constantValue := 0 }]
  methods := #[k13m0, k13m1, k13m2]
  instanceTypes := #[]
  staticTypes := #[.double, .double, .double, .double, .double, .long, .long, .double, .double, .boolean]
  resolved := Array.replicate 460 none
  statics := none }

def pool14 : Array CpInfo := pool [(2, .class_ 4), (0, .nameAndType 5 6), (0, u "java/lang/Object"), (0, u "<init>"), (0, u "()V"), (0, .string 8), (0, u "namespace"), (0, .methodref 10 11), (0, .class_ 12), (0, .nameAndType 13 14), (0, u "java/util/Objects"), (0, u "requireNonNull"), (0, u "(Ljava/lang/Object;Ljava/lang/String;)Ljava/lang/Object;"), (0, .string 16), (0, u "key"), (0, .class_ 18), (0, u "java/lang/StringBuilder"), (0, .methodref 17 3), (0, .methodref 21 22), (0, .class_ 23), (0, .nameAndType 24 25), (0, u "com/example/nearfar_cache/nearfarcache/Namespace"), (0, u "name"), (0, u "()Ljava/lang/String;"), (0, .methodref 17 27), (0, .nameAndType 28 29), (0, u "append"), (0, u "(Ljava/lang/String;)Ljava/lang/StringBuilder;"), (0, .methodref 17 31), (0, .nameAndType 28 32), (0, u "(C)Ljava/lang/StringBuilder;"), (0, .methodref 17 34), (0, .nameAndType 35 25), (0, u "toString"), (0, .class_ 37), (0, u "com/example/nearfar_cache/nearfarcache/redis/RedisKeys"), (4, u "of"), (0, u "(Lcom/example/nearfar_cache/nearfarcache/Namespace;Ljava/lang/String;)Ljava/lang/String;"), (2, u "FILLS_PREFIX"), (0, u "Ljava/lang/String;"), (1, u "INVALIDATION_CHANNEL_PREFIX")] 7

def k14m0 : Method := { name := "<init>", desc := "()V", sig := { parameters := [], returnType := none }, accessFlags := 2, code := none }
def k14c1 : Code := { maxStack := 2, maxLocals := 2, code := prog_26_method_2_code, exceptionTable := #[], attributes := #[] }
def k14m1 : Method := { name := "of", desc := "(Lcom/example/nearfar_cache/nearfarcache/Namespace;Ljava/lang/String;)Ljava/lang/String;", sig := { parameters := [(.object "com/example/nearfar_cache/nearfarcache/Namespace"), (.object "java/lang/String")], returnType := some (.object "java/lang/String") }, accessFlags := 9, code := some k14c1 }
/-- com/example/nearfar_cache/nearfarcache/redis/RedisKeys -/
def k14 : Class := { plain "com/example/nearfar_cache/nearfarcache/redis/RedisKeys" (some 0) with
  accessFlags := 49
  interfaces := #[]
  cf := some (fileOf pool14 36 #[] #[{ accessFlags := 2, nameIndex := 5, descriptorIndex := 6, attributes := #[] }, { accessFlags := 9, nameIndex := 42, descriptorIndex := 43, attributes := #[] }] 49 2 #[] #[{ accessFlags := 26, nameIndex := 46, descriptorIndex := 47, attributes := #[] }, { accessFlags := 26, nameIndex := 49, descriptorIndex := 47, attributes := #[] }])
  fields := #[{ name := "FILLS_PREFIX", type := (.object "java/lang/String"), accessFlags := 26, slot := 0, constantValue := 0 }, { name := "INVALIDATION_CHANNEL_PREFIX", type := (.object "java/lang/String"), accessFlags := 26, slot := 1, constantValue := 0 }]
  methods := #[k14m0, k14m1]
  instanceTypes := #[]
  staticTypes := #[(.object "java/lang/String"), (.object "java/lang/String")]
  resolved := Array.replicate 57 none
  statics := none }

def pool15 : Array CpInfo := pool [(1, .class_ 2), (0, u "java/lang/Appendable"), (0, .class_ 4), (0, u "java/lang/Object")] 9

/-- java/lang/Appendable -/
def k15 : Class := { plain "java/lang/Appendable" (some 0) with
  accessFlags := 1537
  interfaces := #[]
  cf := some (fileOf pool15 1 #[] #[] 1537 3 #[] #[])
  fields := #[]
  methods := #[]
  instanceTypes := #[]
  staticTypes := #[]
  resolved := Array.replicate 14 none
  statics := none }

def pool16 : Array CpInfo := pool [(1, .class_ 2), (0, u "java/lang/String"), (0, .methodref 4 5), (0, .class_ 6), (0, .nameAndType 7 8), (0, u "java/lang/Object"), (0, u "<init>"), (0, u "()V"), (1, .class_ 12), (1, u "java/lang/AbstractStringBuilder"), (0, u "EMPTYVALUE"), (0, u "[B"), (0, .fieldref 10 16), (0, .nameAndType 17 14), (0, u "value"), (0, .fieldref 1 19), (0, .nameAndType 20 21), (0, u "COMPACT_STRINGS"), (0, u "Z"), (0, .fieldref 10 23), (0, .nameAndType 24 25), (0, u "coder"), (0, u "B"), (6, .methodref 1 33), (0, .nameAndType 34 35), (0, u "length"), (0, u "()I"), (4, .methodref 1 41), (0, .nameAndType 24 42), (0, u "()B"), (2, u "append"), (0, u "(Ljava/lang/String;)Ljava/lang/AbstractStringBuilder;"), (1, .class_ 49), (0, u "java/lang/CharSequence"), (19, u "(Ljava/lang/String;)V"), (5, u "maybeLatin1"), (3, .fieldref 10 80), (0, .nameAndType 81 82), (0, u "count"), (0, u "I"), (0, .methodref 10 84), (0, .nameAndType 85 86), (0, u "isLatin1"), (0, u "()Z"), (1, .class_ 90), (1, u "java/lang/StringLatin1"), (9, .methodref 10 101), (0, .nameAndType 102 103), (0, u "ensureCapacityInternal"), (0, u "(I)V"), (87, .methodref 88 192), (0, .nameAndType 193 194), (0, u "canEncode"), (0, u "(C)Z"), (13, .methodref 10 209), (0, .nameAndType 210 211), (0, u "putStringAt"), (0, u "(ILjava/lang/String;)V"), (5, u "inflateIfNeededFor"), (2, .nameAndType 221 222), (0, u "getBytes"), (0, u "([BIB)V"), (69, u "(C)Ljava/lang/AbstractStringBuilder;"), (104, .methodref 10 398), (0, .nameAndType 217 69), (0, .methodref 1 220), (3, u "()[B"), (40, .class_ 445), (0, u "java/lang/Appendable"), (106, u "getValue")] 56

def k16m0 : Method := { name := "<init>", desc := "()V", sig := { parameters := [], returnType := none }, accessFlags := 0, code := none }
def k16c1 : Code := { maxStack := 2, maxLocals := 2, code := jdk_68_method_2_code, exceptionTable := #[], attributes := #[] }
def k16m1 : Method := { name := "<init>", desc := "(I)V", sig := { parameters := [.int], returnType := none }, accessFlags := 0, code := some k16c1 }
def k16c2 : Code := { maxStack := 1, maxLocals := 1, code := jdk_68_method_6_code, exceptionTable := #[], attributes := #[] }
def k16m2 : Method := { name := "length", desc := "()I", sig := { parameters := [], returnType := some .int }, accessFlags := 1, code := some k16c2 }
def k16c3 : Code := { maxStack := 4, maxLocals := 3, code := jdk_68_method_9_code, exceptionTable := #[], attributes := #[] }
def k16m3 : Method := { name := "ensureCapacityInternal", desc := "(I)V", sig := { parameters := [.int], returnType := none }, accessFlags := 2, code := some k16c3 }
def k16c4 : Code := { maxStack := 3, maxLocals := 3, code := jdk_68_method_22_code, exceptionTable := #[], attributes := #[] }
def k16m4 : Method := { name := "append", desc := "(Ljava/lang/String;)Ljava/lang/AbstractStringBuilder;", sig := { parameters := [(.object "java/lang/String")], returnType := some (.object "java/lang/AbstractStringBuilder") }, accessFlags := 1, code := some k16c4 }
def k16c5 : Code := { maxStack := 5, maxLocals := 2, code := jdk_68_method_31_code, exceptionTable := #[], attributes := #[] }
def k16m5 : Method := { name := "append", desc := "(C)Ljava/lang/AbstractStringBuilder;", sig := { parameters := [.char], returnType := some (.object "java/lang/AbstractStringBuilder") }, accessFlags := 1, code := some k16c5 }
def k16c6 : Code := { maxStack := 1, maxLocals := 1, code := jdk_68_method_64_code, exceptionTable := #[], attributes := #[] }
def k16m6 : Method := { name := "getValue", desc := "()[B", sig := { parameters := [], returnType := some (.array .byte) }, accessFlags := 16, code := some k16c6 }
def k16c7 : Code := { maxStack := 1, maxLocals := 1, code := jdk_68_method_68_code, exceptionTable := #[], attributes := #[] }
def k16m7 : Method := { name := "isLatin1", desc := "()Z", sig := { parameters := [], returnType := some .boolean }, accessFlags := 16, code := some k16c7 }
def k16c8 : Code := { maxStack := 2, maxLocals := 2, code := jdk_68_method_71_code, exceptionTable := #[], attributes := #[] }
def k16m8 : Method := { name := "inflateIfNeededFor", desc := "(Ljava/lang/String;)V", sig := { parameters := [(.object "java/lang/String")], returnType := none }, accessFlags := 2, code := some k16c8 }
def k16c9 : Code := { maxStack := 4, maxLocals := 3, code := jdk_68_method_73_code, exceptionTable := #[], attributes := #[] }
def k16m9 : Method := { name := "putStringAt", desc := "(ILjava/lang/String;)V", sig := { parameters := [.int, (.object "java/lang/String")], returnType := none }, accessFlags := 2, code := some k16c9 }
/-- java/lang/AbstractStringBuilder -/
def k16 : Class := { plain "java/lang/AbstractStringBuilder" (some 0) with
  accessFlags := 1056
  interfaces := #[15, 4]
  cf := some (fileOf pool16 10 #[] #[{ accessFlags := 0, nameIndex := 7, descriptorIndex := 8, attributes := #[] }, { accessFlags := 0, nameIndex := 7, descriptorIndex := 103, attributes := #[] }, { accessFlags := 1, nameIndex := 34, descriptorIndex := 35, attributes := #[] }, { accessFlags := 2, nameIndex := 102, descriptorIndex := 103, attributes := #[] }, { accessFlags := 1, nameIndex := 45, descriptorIndex := 46, attributes := #[] }, { accessFlags := 1, nameIndex := 45, descriptorIndex := 292, attributes := #[] }, { accessFlags := 16, nameIndex := 552, descriptorIndex := 403, attributes := #[] }, { accessFlags := 16, nameIndex := 85, descriptorIndex := 86, attributes := #[] }, { accessFlags := 2, nameIndex := 217, descriptorIndex := 69, attributes := #[] }, { accessFlags := 2, nameIndex := 210, descriptorIndex := 211, attributes := #[] }] 1056 4 #[444, 48] #[{ accessFlags := 0, nameIndex := 17, descriptorIndex := 14, attributes := #[] }, { accessFlags := 0, nameIndex := 24, descriptorIndex := 25, attributes := #[] }, { accessFlags := 0, nameIndex := 75, descriptorIndex := 21, attributes := #[] }, { accessFlags := 0, nameIndex := 81, descriptorIndex := 82, attributes := #[] }, { accessFlags := 26, nameIndex := 13, descriptorIndex := 14, attributes := #[] }])
  fields := #[{ name := "value", type := (.array .byte), accessFlags := 0, slot := 0, constantValue := 0 }, { name := "coder", type := .byte, accessFlags := 0, slot := 1, constantValue := 0 }, { name := "maybeLatin1", type := .boolean, accessFlags := 0, slot := 2, constantValue := 0 }, { name := "count", type := .int, accessFlags := 0, slot := 3, constantValue := 0 }, { name := "EMPTYVALUE", type := (.array .byte), accessFlags := 26, slot := 0, constantValue := 0 }]
  methods := #[k16m0, k16m1, k16m2, k16m3, k16m4, k16m5, k16m6, k16m7, k16m8, k16m9]
  instanceTypes := #[(.array .byte), .byte, .boolean, .int]
  staticTypes := #[(.array .byte)]
  resolved := Array.replicate 609 none
  statics := none }

def pool17 : Array CpInfo := pool [(1, .methodref 2 3), (0, .class_ 4), (0, .nameAndType 5 6), (0, u "java/lang/AbstractStringBuilder"), (0, u "<init>"), (0, u "(I)V"), (11, .class_ 20), (1, u "java/lang/String"), (3, .class_ 26), (1, u "java/lang/StringBuilder"), (0, u "append"), (0, u "(Ljava/lang/String;)Ljava/lang/StringBuilder;"), (0, .methodref 2 30), (0, .nameAndType 27 31), (0, u "(Ljava/lang/String;)Ljava/lang/AbstractStringBuilder;"), (18, .methodref 2 51), (0, .nameAndType 27 52), (0, u "(C)Ljava/lang/AbstractStringBuilder;"), (84, .methodref 18 138), (0, .nameAndType 5 139), (0, u "(Ljava/lang/StringBuilder;)V"), (5, u "()V"), (10, u "()I"), (129, u "(C)Ljava/lang/StringBuilder;"), (56, .methodref 2 344), (0, .nameAndType 345 156), (0, u "length"), (3, .class_ 350), (0, u "java/lang/Appendable"), (0, .class_ 352), (0, u "java/io/Serializable"), (0, .class_ 354), (0, u "java/lang/Comparable"), (0, .class_ 356), (0, u "java/lang/CharSequence"), (0, u "serialVersionUID"), (0, u "J"), (40, u "toString"), (0, u "()Ljava/lang/String;")] 21

def k17c0 : Code := { maxStack := 2, maxLocals := 1, code := jdk_67_method_1_code, exceptionTable := #[], attributes := #[] }
def k17m0 : Method := { name := "<init>", desc := "()V", sig := { parameters := [], returnType := none }, accessFlags := 1, code := some k17c0 }
def k17c1 : Code := { maxStack := 2, maxLocals := 2, code := jdk_67_method_7_code, exceptionTable := #[], attributes := #[] }
def k17m1 : Method := { name := "append", desc := "(Ljava/lang/String;)Ljava/lang/StringBuilder;", sig := { parameters := [(.object "java/lang/String")], returnType := some (.object "java/lang/StringBuilder") }, accessFlags := 1, code := some k17c1 }
def k17c2 : Code := { maxStack := 2, maxLocals := 2, code := jdk_67_method_14_code, exceptionTable := #[], attributes := #[] }
def k17m2 : Method := { name := "append", desc := "(C)Ljava/lang/StringBuilder;", sig := { parameters := [.char], returnType := some (.object "java/lang/StringBuilder") }, accessFlags := 1, code := some k17c2 }
def k17c3 : Code := { maxStack := 3, maxLocals := 1, code := jdk_67_method_42_code, exceptionTable := #[], attributes := #[] }
def k17m3 : Method := { name := "toString", desc := "()Ljava/lang/String;", sig := { parameters := [], returnType := some (.object "java/lang/String") }, accessFlags := 1, code := some k17c3 }
def k17c4 : Code := { maxStack := 1, maxLocals := 1, code := jdk_67_method_93_code, exceptionTable := #[], attributes := #[] }
def k17m4 : Method := { name := "length", desc := "()I", sig := { parameters := [], returnType := some .int }, accessFlags := 4161, code := some k17c4 }
/-- java/lang/StringBuilder -/
def k17 : Class := { plain "java/lang/StringBuilder" (some 16) with
  accessFlags := 49
  interfaces := #[15, 2, 3, 4]
  cf := some (fileOf pool17 24 #[] #[{ accessFlags := 1, nameIndex := 5, descriptorIndex := 145, attributes := #[] }, { accessFlags := 1, nameIndex := 27, descriptorIndex := 28, attributes := #[] }, { accessFlags := 1, nameIndex := 27, descriptorIndex := 286, attributes := #[] }, { accessFlags := 1, nameIndex := 399, descriptorIndex := 400, attributes := #[] }, { accessFlags := 4161, nameIndex := 345, descriptorIndex := 156, attributes := #[] }] 49 2 #[349, 351, 353, 355] #[{ accessFlags := 24, nameIndex := 357, descriptorIndex := 358, attributes := #[] }])
  fields := #[{ name := "serialVersionUID", type := .long, accessFlags := 24, slot := 0, constantValue := 0 }]
  methods := #[k17m0, k17m1, k17m2, k17m3, k17m4]
  instanceTypes := #[(.array .byte), .byte, .boolean, .int]
  staticTypes := #[.long]
  resolved := Array.replicate 422 none
  statics := none }

def pool18 : Array CpInfo := pool [(2, .class_ 4), (1, u "java/lang/Object"), (0, u "<init>"), (0, u "()V"), (1, .class_ 10), (1, u "java/lang/System"), (0, u "allowSecurityManager"), (0, u "I"), (16, u "cons"), (0, u "Ljava/io/Console;"), (77, .class_ 110), (1, u "java/lang/System$CallersHolder"), (43, u "initialErrStream"), (0, u "Ljava/io/PrintStream;"), (19, u "security"), (0, u "Ljava/lang/SecurityManager;"), (31, .class_ 209), (0, u "java/lang/System$1"), (7, u "props"), (0, u "Ljava/util/Properties;"), (2, u "lineSeparator"), (0, u "Ljava/lang/String;"), (96, .class_ 321), (1, u "java/lang/System$LoggerFinder"), (5, .class_ 328), (0, u "java/lang/System$Logger"), (67, u "err"), (2, u "out"), (91, u "notSupportedJnuEncoding"), (15, u "in"), (17, u "initialIn"), (0, u "Ljava/io/InputStream;"), (35, u "bootLayer"), (0, u "Ljava/lang/ModuleLayer;"), (99, .class_ 664), (0, u "java/lang/System$2"), (9, u "NEVER"), (2, u "MAYBE"), (49, u "arraycopy"), (0, u "(Ljava/lang/Object;ILjava/lang/Object;II)V"), (72, .class_ 802), (0, u "java/lang/System$Logger$Level")] 31

def k18m0 : Method := { name := "<init>", desc := "()V", sig := { parameters := [], returnType := none }, accessFlags := 2, code := none }
def k18m1 : Method := { name := "arraycopy", desc := "(Ljava/lang/Object;ILjava/lang/Object;II)V", sig := { parameters := [(.object "java/lang/Object"), .int, (.object "java/lang/Object"), .int, .int], returnType := none }, accessFlags := 265, code := none }
/-- java/lang/System -/
def k18 : Class := { plain "java/lang/System" (some 0) with
  accessFlags := 49
  interfaces := #[]
  cf := some (fileOf pool18 8 #[.nestMembers #[319, 327, 801, 108, 663, 208]] #[{ accessFlags := 2, nameIndex := 5, descriptorIndex := 6, attributes := #[] }, { accessFlags := 265, nameIndex := 727, descriptorIndex := 728, attributes := #[] }] 49 2 #[] #[{ accessFlags := 25, nameIndex := 507, descriptorIndex := 526, attributes := #[] }, { accessFlags := 25, nameIndex := 399, descriptorIndex := 155, attributes := #[] }, { accessFlags := 25, nameIndex := 396, descriptorIndex := 155, attributes := #[] }, { accessFlags := 10, nameIndex := 525, descriptorIndex := 526, attributes := #[] }, { accessFlags := 26, nameIndex := 674, descriptorIndex := 12, attributes := #[] }, { accessFlags := 26, nameIndex := 677, descriptorIndex := 12, attributes := #[] }, { accessFlags := 10, nameIndex := 11, descriptorIndex := 12, attributes := #[] }, { accessFlags := 74, nameIndex := 175, descriptorIndex := 176, attributes := #[] }, { accessFlags := 10, nameIndex := 491, descriptorIndex := 222, attributes := #[] }, { accessFlags := 74, nameIndex := 29, descriptorIndex := 30, attributes := #[] }, { accessFlags := 74, nameIndex := 154, descriptorIndex := 155, attributes := #[] }, { accessFlags := 10, nameIndex := 217, descriptorIndex := 218, attributes := #[] }, { accessFlags := 10, nameIndex := 221, descriptorIndex := 222, attributes := #[] }, { accessFlags := 8, nameIndex := 562, descriptorIndex := 563, attributes := #[] }])
  fields := #[{ name := "in", type := (.object "java/io/InputStream"), accessFlags := 25, slot := 0, constantValue := 0 }, { name := "out", type := (.object "java/io/PrintStream"), accessFlags := 25, slot := 1, constantValue := 0 }, { name := "err", type := (.object "java/io/PrintStream"), accessFlags := 25, slot := 2, constantValue := 0 }, { name := "initialIn", type := (.object "java/io/InputStream"), accessFlags := 10, slot := 3, constantValue := 0 }, { name := "NEVER", type := .int, accessFlags := 26, slot := 4, constantValue := 0 }, { name := "MAYBE", type := .int, accessFlags := 26, slot := 5, constantValue := 0 }, { name := "allowSecurityManager", type := .int, accessFlags := 10, slot := 6, constantValue := 0 }, { name := "security", type := (.object "java/lang/SecurityManager"), accessFlags := 74, slot := 7, constantValue := 0 }, { name := "notSupportedJnuEncoding", type := (.object "java/lang/String"), accessFlags := 10, slot := 8, constantValue := 0 }, { name := "cons", type := (.object "java/io/Console"), accessFlags := 74, slot := 9, constantValue := 0 }, { name := "initialErrStream", type := (.object "java/io/PrintStream"), accessFlags := 74, slot := 10, constantValue := 0 }, { name := "props", type := (.object "java/util/Properties"), accessFlags := 10, slot := 11, constantValue := 0 }, { name := "lineSeparator", type := (.object "java/lang/String"), accessFlags := 10, slot := 12, constantValue := 0 }, { name := "bootLayer", type := (.object "java/lang/ModuleLayer"), accessFlags := 8, slot := 13, constantValue := 0 }]
  methods := #[k18m0, k18m1]
  instanceTypes := #[]
  staticTypes := #[(.object "java/io/InputStream"), (.object "java/io/PrintStream"), (.object "java/io/PrintStream"), (.object "java/io/InputStream"), .int, .int, .int, (.object "java/lang/SecurityManager"), (.object "java/lang/String"), (.object "java/io/Console"), (.object "java/io/PrintStream"), (.object "java/util/Properties"), (.object "java/lang/String"), (.object "java/lang/ModuleLayer")]
  resolved := Array.replicate 834 none
  statics := none }

def pool19 : Array CpInfo := pool [(2, .class_ 4), (1, u "java/lang/Object"), (0, u "<init>"), (0, u "()V"), (7, .class_ 16), (1, u "java/util/Arrays"), (57, .class_ 76), (1, u "java/util/Arrays$NaturalOrder"), (36, .class_ 115), (1, u "java/util/Arrays$LegacyMergeSort"), (1, u "Z"), (21, u "copyOfRange"), (10, .methodref 151 152), (0, .class_ 153), (0, .nameAndType 154 155), (0, u "java/lang/System"), (0, u "arraycopy"), (0, u "(Ljava/lang/Object;ILjava/lang/Object;II)V"), (148, .methodref 305 306), (0, .class_ 307), (0, .nameAndType 308 309), (0, u "java/lang/Math"), (0, u "min"), (0, u "(II)I"), (29, .methodref 14 340), (0, .nameAndType 341 342), (0, u "copyOfRangeByte"), (0, u "([BII)[B"), (0, .methodref 14 344), (0, .nameAndType 345 346), (0, u "checkLength"), (0, u "(II)V"), (28, .class_ 376), (0, u "java/util/Arrays$ArrayList"), (68, u "$assertionsDisabled"), (269, u "MIN_ARRAY_SORT_GRAN"), (0, u "I"), (2, u "INSERTIONSORT_THRESHOLD"), (255, .class_ 976), (0, u "java/util/Arrays$ArrayItr")] 52

def k19m0 : Method := { name := "<init>", desc := "()V", sig := { parameters := [], returnType := none }, accessFlags := 2, code := none }
def k19c1 : Code := { maxStack := 4, maxLocals := 2, code := jdk_65_method_131_code, exceptionTable := #[], attributes := #[] }
def k19m1 : Method := { name := "checkLength", desc := "(II)V", sig := { parameters := [.int, .int], returnType := none }, accessFlags := 10, code := some k19c1 }
def k19c2 : Code := { maxStack := 3, maxLocals := 3, code := jdk_65_method_132_code, exceptionTable := #[], attributes := #[] }
def k19m2 : Method := { name := "copyOfRange", desc := "([BII)[B", sig := { parameters := [(.array .byte), .int, .int], returnType := some (.array .byte) }, accessFlags := 9, code := some k19c2 }
def k19c3 : Code := { maxStack := 6, maxLocals := 5, code := jdk_65_method_133_code, exceptionTable := #[], attributes := #[] }
def k19m3 : Method := { name := "copyOfRangeByte", desc := "([BII)[B", sig := { parameters := [(.array .byte), .int, .int], returnType := some (.array .byte) }, accessFlags := 10, code := some k19c3 }
/-- java/util/Arrays -/
def k19 : Class := { plain "java/util/Arrays" (some 0) with
  accessFlags := 49
  interfaces := #[]
  cf := some (fileOf pool19 14 #[.nestMembers #[975, 375, 113, 74]] #[{ accessFlags := 2, nameIndex := 5, descriptorIndex := 6, attributes := #[] }, { accessFlags := 10, nameIndex := 345, descriptorIndex := 346, attributes := #[] }, { accessFlags := 9, nameIndex := 139, descriptorIndex := 342, attributes := #[] }, { accessFlags := 10, nameIndex := 341, descriptorIndex := 342, attributes := #[] }] 49 2 #[] #[{ accessFlags := 26, nameIndex := 715, descriptorIndex := 716, attributes := #[] }, { accessFlags := 26, nameIndex := 719, descriptorIndex := 716, attributes := #[] }, { accessFlags := 4120, nameIndex := 445, descriptorIndex := 117, attributes := #[] }])
  fields := #[{ name := "MIN_ARRAY_SORT_GRAN", type := .int, accessFlags := 26, slot := 0, constantValue := 0 }, { name := "INSERTIONSORT_THRESHOLD", type := .int, accessFlags := 26, slot := 1, constantValue := 0 }, { name := "$assertionsDisabled", type := .boolean, accessFlags := 4120, slot := 2, constantValue := 0 }]
  methods := #[k19m0, k19m1, k19m2, k19m3]
  instanceTypes := #[]
  staticTypes := #[.int, .int, .boolean]
  resolved := Array.replicate 1029 none
  statics := none }

def pool20 : Array CpInfo := pool [(2, .class_ 4), (1, u "java/lang/Object"), (0, u "<init>"), (0, u "()V"), (17, .class_ 26), (1, u "jdk/internal/util/Preconditions"), (6, u "checkIndex"), (21, .class_ 56), (0, u "jdk/internal/util/Preconditions$4"), (57, .class_ 115), (0, u "jdk/internal/util/Preconditions$1"), (7, u "SIOOBE_FORMATTER"), (0, u "Ljava/util/function/BiFunction;"), (0, .class_ 126), (0, u "jdk/internal/util/Preconditions$2"), (3, u "AIOOBE_FORMATTER"), (0, .class_ 132), (0, u "jdk/internal/util/Preconditions$3"), (3, u "IOOBE_FORMATTER"), (41, u "(IILjava/util/function/BiFunction;)I")] 15

def k20m0 : Method := { name := "<init>", desc := "()V", sig := { parameters := [], returnType := none }, accessFlags := 1, code := none }
def k20c1 : Code := { maxStack := 3, maxLocals := 3, code := jdk_41_method_11_code, exceptionTable := #[], attributes := #[] }
def k20m1 : Method := { name := "checkIndex", desc := "(IILjava/util/function/BiFunction;)I", sig := { parameters := [.int, .int, (.object "java/util/function/BiFunction")], returnType := some .int }, accessFlags := 9, code := some k20c1 }
/-- jdk/internal/util/Preconditions -/
def k20 : Class := { plain "jdk/internal/util/Preconditions" (some 0) with
  accessFlags := 33
  interfaces := #[]
  cf := some (fileOf pool20 24 #[.nestMembers #[55, 131, 125, 114]] #[{ accessFlags := 1, nameIndex := 5, descriptorIndex := 6, attributes := #[] }, { accessFlags := 9, nameIndex := 33, descriptorIndex := 178, attributes := #[] }] 33 2 #[] #[{ accessFlags := 25, nameIndex := 123, descriptorIndex := 124, attributes := #[] }, { accessFlags := 25, nameIndex := 130, descriptorIndex := 124, attributes := #[] }, { accessFlags := 25, nameIndex := 136, descriptorIndex := 124, attributes := #[] }])
  fields := #[{ name := "SIOOBE_FORMATTER", type := (.object "java/util/function/BiFunction"), accessFlags := 25, slot := 0, constantValue := 0 }, { name := "AIOOBE_FORMATTER", type := (.object "java/util/function/BiFunction"), accessFlags := 25, slot := 1, constantValue := 0 }, { name := "IOOBE_FORMATTER", type := (.object "java/util/function/BiFunction"), accessFlags := 25, slot := 2, constantValue := 0 }]
  methods := #[k20m0, k20m1]
  instanceTypes := #[]
  staticTypes := #[(.object "java/util/function/BiFunction"), (.object "java/util/function/BiFunction"), (.object "java/util/function/BiFunction")]
  resolved := Array.replicate 194 none
  statics := some 1 }

def pool21 : Array CpInfo := pool [(9, u "<init>"), (6, .class_ 18), (1, u "java/lang/Object"), (0, u "()V"), (1, .class_ 23), (1, u "jdk/internal/util/ArraysSupport"), (0, u "LOG2_ARRAY_LONG_INDEX_SCALE"), (0, u "I"), (2, u "U"), (0, u "Ljdk/internal/misc/Unsafe;"), (8, u "BIG_ENDIAN"), (0, u "Z"), (8, u "LOG2_BYTE_BIT_SIZE"), (4, u "LOG2_ARRAY_INT_INDEX_SCALE"), (54, u "JLA"), (0, u "Ljdk/internal/access/JavaLangAccess;"), (11, u "LOG2_ARRAY_BOOLEAN_INDEX_SCALE"), (9, u "LOG2_ARRAY_BYTE_INDEX_SCALE"), (5, u "LOG2_ARRAY_CHAR_INDEX_SCALE"), (5, u "LOG2_ARRAY_SHORT_INDEX_SCALE"), (18, u "LOG2_ARRAY_FLOAT_INDEX_SCALE"), (24, u "LOG2_ARRAY_DOUBLE_INDEX_SCALE"), (89, u "T_BOOLEAN"), (2, u "T_CHAR"), (1, u "T_FLOAT"), (1, u "T_DOUBLE"), (1, u "T_BYTE"), (1, u "T_SHORT"), (1, u "T_INT"), (1, u "T_LONG"), (1, u "SOFT_MAX_ARRAY_LENGTH")] 83

def k21m0 : Method := { name := "<init>", desc := "()V", sig := { parameters := [], returnType := none }, accessFlags := 2, code := none }
/-- jdk/internal/util/ArraysSupport -/
def k21 : Class := { plain "jdk/internal/util/ArraysSupport" (some 0) with
  accessFlags := 33
  interfaces := #[]
  cf := some (fileOf pool21 21 #[] #[{ accessFlags := 2, nameIndex := 9, descriptorIndex := 19, attributes := #[] }] 33 16 #[] #[{ accessFlags := 24, nameIndex := 28, descriptorIndex := 29, attributes := #[] }, { accessFlags := 26, nameIndex := 38, descriptorIndex := 39, attributes := #[] }, { accessFlags := 25, nameIndex := 121, descriptorIndex := 25, attributes := #[] }, { accessFlags := 25, nameIndex := 131, descriptorIndex := 25, attributes := #[] }, { accessFlags := 25, nameIndex := 137, descriptorIndex := 25, attributes := #[] }, { accessFlags := 25, nameIndex := 143, descriptorIndex := 25, attributes := #[] }, { accessFlags := 25, nameIndex := 53, descriptorIndex := 25, attributes := #[] }, { accessFlags := 25, nameIndex := 24, descriptorIndex := 25, attributes := #[] }, { accessFlags := 25, nameIndex := 162, descriptorIndex := 25, attributes := #[] }, { accessFlags := 25, nameIndex := 187, descriptorIndex := 25, attributes := #[] }, { accessFlags := 26, nameIndex := 48, descriptorIndex := 25, attributes := #[] }, { accessFlags := 25, nameIndex := 277, descriptorIndex := 25, attributes := #[] }, { accessFlags := 25, nameIndex := 280, descriptorIndex := 25, attributes := #[] }, { accessFlags := 25, nameIndex := 282, descriptorIndex := 25, attributes := #[] }, { accessFlags := 25, nameIndex := 284, descriptorIndex := 25, attributes := #[] }, { accessFlags := 25, nameIndex := 286, descriptorIndex := 25, attributes := #[] }, { accessFlags := 25, nameIndex := 288, descriptorIndex := 25, attributes := #[] }, { accessFlags := 25, nameIndex := 290, descriptorIndex := 25, attributes := #[] }, { accessFlags := 25, nameIndex := 292, descriptorIndex := 25, attributes := #[] }, { accessFlags := 26, nameIndex := 108, descriptorIndex := 109, attributes := #[] }, { accessFlags := 25, nameIndex := 294, descriptorIndex := 25, attributes := #[] }])
  fields := #[{ name := "U", type := (.object "jdk/internal/misc/Unsafe"), accessFlags := 24, slot := 0, constantValue := 0 }, { name := "BIG_ENDIAN", type := .boolean, accessFlags := 26, slot := 1, constantValue := 0 }, { name := "LOG2_ARRAY_BOOLEAN_INDEX_SCALE", type := .int, accessFlags := 25, slot := 2, constantValue := 0 }, { name := "LOG2_ARRAY_BYTE_INDEX_SCALE", type := .int, accessFlags := 25, slot := 3, constantValue := 0 }, { name := "LOG2_ARRAY_CHAR_INDEX_SCALE", type := .int, accessFlags := 25, slot := 4, constantValue := 0 }, { name := "LOG2_ARRAY_SHORT_INDEX_SCALE", type := .int, accessFlags := 25, slot := 5, constantValue := 0 }, { name := "LOG2_ARRAY_INT_INDEX_SCALE", type := .int, accessFlags := 25, slot := 6, constantValue := 0 }, { name := "LOG2_ARRAY_LONG_INDEX_SCALE", type := .int, accessFlags := 25, slot := 7, constantValue := 0 }, { name := "LOG2_ARRAY_FLOAT_INDEX_SCALE", type := .int, accessFlags := 25, slot := 8, constantValue := 0 }, { name := "LOG2_ARRAY_DOUBLE_INDEX_SCALE", type := .int, accessFlags := 25, slot := 9, constantValue := 0 }, { name := "LOG2_BYTE_BIT_SIZE", type := .int, accessFlags := 26, slot := 10, constantValue := 0 }, { name := "T_BOOLEAN", type := .int, accessFlags := 25, slot := 11, constantValue := 0 }, { name := "T_CHAR", type := .int, accessFlags := 25, slot := 12, constantValue := 0 }, { name := "T_FLOAT", type := .int, accessFlags := 25, slot := 13, constantValue := 0 }, { name := "T_DOUBLE", type := .int, accessFlags := 25, slot := 14, constantValue := 0 }, { name := "T_BYTE", type := .int, accessFlags := 25, slot := 15, constantValue := 0 }, { name := "T_SHORT", type := .int, accessFlags := 25, slot := 16, constantValue := 0 }, { name := "T_INT", type := .int, accessFlags := 25, slot := 17, constantValue := 0 }, { name := "T_LONG", type := .int, accessFlags := 25, slot := 18, constantValue := 0 }, { name := "JLA", type := (.object "jdk/internal/access/JavaLangAccess"), accessFlags := 26, slot := 19, constantValue := 0 }, { name := "SOFT_MAX_ARRAY_LENGTH", type := .int, accessFlags := 25, slot := 20, constantValue := 0 }]
  methods := #[k21m0]
  instanceTypes := #[]
  staticTypes := #[(.object "jdk/internal/misc/Unsafe"), .boolean, .int, .int, .int, .int, .int, .int, .int, .int, .int, .int, .int, .int, .int, .int, .int, .int, .int, (.object "jdk/internal/access/JavaLangAccess"), .int]
  resolved := Array.replicate 378 none
  statics := none }

def pool22 : Array CpInfo := pool [(1, u "java/lang/Cloneable"), (0, .class_ 1), (0, u "java/lang/Object"), (0, .class_ 3)] 3

/-- java/lang/Cloneable -/
def k22 : Class := { plain "java/lang/Cloneable" (some 0) with
  accessFlags := 1537
  interfaces := #[]
  cf := some (fileOf pool22 2 #[] #[] 1537 4 #[] #[])
  fields := #[]
  methods := #[]
  instanceTypes := #[]
  staticTypes := #[]
  resolved := Array.replicate 8 none
  statics := none }

/-- the primitive byte -/
def k23 : Class := { plain "byte" none with kind := .primitive 'B', accessFlags := 0x411 }
/-- [B -/
def k24 : Class := { plain "[B" (some 0) with kind := .array 23 .byte, interfaces := #[22, 2], accessFlags := 1041 }

/-- the primitive char -/
def k25 : Class := { plain "char" none with kind := .primitive 'C', accessFlags := 0x411 }
/-- [C -/
def k26 : Class := { plain "[C" (some 0) with kind := .array 25 .char, interfaces := #[22, 2], accessFlags := 1041 }

/-- the primitive int -/
def k27 : Class := { plain "int" none with kind := .primitive 'I', accessFlags := 0x411 }
/-- [I -/
def k28 : Class := { plain "[I" (some 0) with kind := .array 27 .int, interfaces := #[22, 2], accessFlags := 1041 }

def heap : Heap := #[{ cls := 7, slots := #[.long 0, .int 1, .null, .int 0, .null, .int 0, .int 0], vm := .statics 7 },
  { cls := 20, slots := #[.null, .null, .null], vm := .statics 20 }]
def classes : Array Class := #[k0, k1, k2, k3, k4, k5, k6, k7, k8, k9, k10, k11, k12, k13, k14, k15, k16, k17, k18, k19, k20, k21, k22, k23, k24, k25, k26, k27, k28]
def interned : List (Array UInt16 × Addr) := []
def slotsUsed : Nat := 10
def theMethod : MethodId := ⟨1, 2⟩
def args0 : Array Value := #[.int 97, .int 98, .int 99, .int 100, .int 3]
def aboutOver (below : List Frame) : State where
  vm := { classes := classes, interned := interned.toArray }
  heap := heap
  slotsUsed := slotsUsed
  threads := #[{ frames := .invoking theMethod args0 :: below }]
def below0 : List Frame := [.native { method := ⟨0, 0⟩, args := #[] }]
def about1 : State := aboutOver below0
def p0 : Program := .bare "" "" ""
def e0 : Env := launch0.env 0 0 0
theorem w_frames : about1.frames = Frame.invoking theMethod args0 :: below0 := rfl
set_option maxRecDepth 65536 in
theorem w_args : argsFit about1.vm theMethod args0 = true := by decide +kernel
set_option maxRecDepth 65536 in
theorem w_heap : heapFits about1 = true := by decide +kernel
set_option maxRecDepth 65536 in
theorem w_runnable : about1.curStatus? = some .runnable := by decide +kernel
set_option maxRecDepth 65536 in
theorem w_alone : about1.alone = true := by decide +kernel
set_option maxRecDepth 65536 in
theorem w_named : about1.methodNamed? x = some theMethod := by decide +kernel
set_option maxRecDepth 65536 in
theorem w_hears : about1.hears theMethod below0 = true := by decide +kernel
set_option maxRecDepth 65536 in
theorem w_ripe : about1.ripe theMethod args0 below0 = true := by decide +kernel
theorem w_running : about1.status = .running := rfl
set_option maxRecDepth 65536 in
theorem w_room : about1.hasRoom e0.platform room_1 = true :=
  launch0.hasRoom_least _ room_1 (by decide +kernel) (by decide +kernel) (by decide +kernel) (by decide +kernel) (by decide +kernel) (by decide +kernel)
theorem allAtoms_all (ts : List Jvm.Cond) (a : Array Jvm.Value) (st : Jvm.State) : (allAtoms ts).before a st = ts.all (fun c => c.before a st) := by
  induction ts with
  | nil => rfl
  | cons c t ih =>
    show (Jvm.Cond.and c (allAtoms t)).before a st = _
    rw [Jvm.Cond.before_and, ih, List.all_cons]
def words1 : List Jvm.Cond := Jvm.Cond.code x code maxLocals ret :: tables_1
/-- a 'code' word, met by the world's own term for the bytes: nothing is compared byte by byte -/
theorem code_word {y : MethodName} {bytes : ByteArray} {mx : Nat} {rt : Option FieldType} {a : Array Value} {s : State} {m : MethodId} {meth : Method} {c : Code} (h1 : s.methodNamed? y = some m) (h2 : s.vm.method? m = some meth) (h3 : meth.code = some c) (h4 : c.code = bytes)
    (h5 : (c.maxLocals == mx && c.exceptionTable.isEmpty && decide (c.maxStack ≤ mostOperands) && decide (meth.sig.returnType = rt) && !meth.locks && decide (parseMethodDescriptor y.desc = some meth.sig)) = true) : (Jvm.Cond.code y bytes mx rt).before a s = true := by
  simp only [Bool.and_eq_true, beq_iff_eq, Bool.not_eq_true', decide_eq_true_eq] at h5
  obtain ⟨⟨⟨⟨⟨g1, g2⟩, g3⟩, g4⟩, g5⟩, g6⟩ := h5
  simp [Cond.before, Cond.holds, Cond.value, h1, h2, h3, h4, g1, g2, g3, g4, g5, g6]
def isCode : Jvm.Cond → Bool
  | .code _ _ _ _ => true
  | _ => false
theorem all_split {L : List Jvm.Cond} {P : Jvm.Cond → Bool} (h1 : L.all (fun c => isCode c || P c) = true) (h2 : ∀ c ∈ L.filter isCode, P c = true) : L.all P = true := by
  refine List.all_eq_true.mpr fun c hc => ?_
  have h := List.all_eq_true.mp h1 c hc
  rcases Bool.eq_false_or_eq_true (isCode c) with hi | hi
  · exact h2 c (List.mem_filter.mpr ⟨hc, hi⟩)
  · simpa [hi] using h
set_option maxRecDepth 65536 in
theorem w_c0 : (Jvm.Cond.code x code maxLocals ret).before args0 about1 = true := code_word (m := ⟨1, 2⟩) (meth := k1m2) (c := k1c2) (by decide +kernel) rfl rfl rfl (by decide +kernel)
set_option maxRecDepth 65536 in
theorem w_c1 : (Jvm.Cond.code ({ cls := "com/example/nearfar_cache/nearfarcache/redis/RedisKeysOfPinLaw", name := "nameChar", desc := "(I)C" } : Jvm.MethodName) method_2_code (2 : Nat) (Option.some Jvm.ClassFile.FieldType.char)).before args0 about1 = true := code_word (m := ⟨1, 1⟩) (meth := k1m1) (c := k1c1) (by decide +kernel) rfl rfl rfl (by decide +kernel)
set_option maxRecDepth 65536 in
theorem w_c2 : (Jvm.Cond.code ({ cls := "java/lang/String", name := "<init>", desc := "([C)V" } : Jvm.MethodName) jdk_42_method_3_code (2 : Nat) (Option.none : Option Jvm.ClassFile.FieldType)).before args0 about1 = true := code_word (m := ⟨7, 1⟩) (meth := k7m1) (c := k7c1) (by decide +kernel) rfl rfl rfl (by decide +kernel)
set_option maxRecDepth 65536 in
theorem w_c3 : (Jvm.Cond.code ({ cls := "java/lang/String", name := "<init>", desc := "([CIILjava/lang/Void;)V" } : Jvm.MethodName) jdk_42_method_149_code (6 : Nat) (Option.none : Option Jvm.ClassFile.FieldType)).before args0 about1 = true := code_word (m := ⟨7, 10⟩) (meth := k7m10) (c := k7c10) (by decide +kernel) rfl rfl rfl (by decide +kernel)
set_option maxRecDepth 65536 in
theorem w_c4 : (Jvm.Cond.code ({ cls := "java/lang/Object", name := "<init>", desc := "()V" } : Jvm.MethodName) object_method_1_code (1 : Nat) (Option.none : Option Jvm.ClassFile.FieldType)).before args0 about1 = true := code_word (m := ⟨0, 0⟩) (meth := k0m0) (c := k0c0) (by decide +kernel) rfl rfl rfl (by decide +kernel)
set_option maxRecDepth 65536 in
theorem w_c5 : (Jvm.Cond.code ({ cls := "java/lang/StringUTF16", name := "compress", desc := "([CII)[B" } : Jvm.MethodName) jdk_52_method_16_code (6 : Nat) (Option.some (Jvm.ClassFile.FieldType.array Jvm.ClassFile.FieldType.byte))).before args0 about1 = true := code_word (m := ⟨8, 2⟩) (meth := k8m2) (c := k8c2) (by decide +kernel) rfl rfl rfl (by decide +kernel)
set_option maxRecDepth 65536 in
theorem w_c6 : (Jvm.Cond.code ({ cls := "java/lang/StringUTF16", name := "compress", desc := "([CI[BII)I" } : Jvm.MethodName) jdk_52_method_21_code (7 : Nat) (Option.some Jvm.ClassFile.FieldType.int)).before args0 about1 = true := code_word (m := ⟨8, 3⟩) (meth := k8m3) (c := k8c3) (by decide +kernel) rfl rfl rfl (by decide +kernel)
set_option maxRecDepth 65536 in
theorem w_c7 : (Jvm.Cond.code ({ cls := "java/lang/StringUTF16", name := "coderFromArrayLen", desc := "([BI)B" } : Jvm.MethodName) jdk_52_method_15_code (2 : Nat) (Option.some Jvm.ClassFile.FieldType.byte)).before args0 about1 = true := code_word (m := ⟨8, 1⟩) (meth := k8m1) (c := k8c1) (by decide +kernel) rfl rfl rfl (by decide +kernel)
set_option maxRecDepth 65536 in
theorem w_c8 : (Jvm.Cond.code ({ cls := "com/example/nearfar_cache/nearfarcache/Namespace", name := "<init>", desc := "(Ljava/lang/String;)V" } : Jvm.MethodName) prog_19_method_1_code (2 : Nat) (Option.none : Option Jvm.ClassFile.FieldType)).before args0 about1 = true := code_word (m := ⟨10, 0⟩) (meth := k10m0) (c := k10c0) (by decide +kernel) rfl rfl rfl (by decide +kernel)
set_option maxRecDepth 65536 in
theorem w_c9 : (Jvm.Cond.code ({ cls := "java/lang/Record", name := "<init>", desc := "()V" } : Jvm.MethodName) jdk_30_method_1_code (1 : Nat) (Option.none : Option Jvm.ClassFile.FieldType)).before args0 about1 = true := code_word (m := ⟨9, 0⟩) (meth := k9m0) (c := k9c0) (by decide +kernel) rfl rfl rfl (by decide +kernel)
set_option maxRecDepth 65536 in
theorem w_c10 : (Jvm.Cond.code ({ cls := "java/util/Objects", name := "requireNonNull", desc := "(Ljava/lang/Object;Ljava/lang/String;)Ljava/lang/Object;" } : Jvm.MethodName) jdk_31_method_11_code (2 : Nat) (Option.some (Jvm.ClassFile.FieldType.object "java/lang/Object"))).before args0 about1 = true := code_word (m := ⟨11, 1⟩) (meth := k11m1) (c := k11c1) (by decide +kernel) rfl rfl rfl (by decide +kernel)
set_option maxRecDepth 65536 in
theorem w_c11 : (Jvm.Cond.code ({ cls := "java/lang/String", name := "isEmpty", desc := "()Z" } : Jvm.MethodName) jdk_42_method_55_code (1 : Nat) (Option.some Jvm.ClassFile.FieldType.boolean)).before args0 about1 = true := code_word (m := ⟨7, 4⟩) (meth := k7m4) (c := k7c4) (by decide +kernel) rfl rfl rfl (by decide +kernel)
set_option maxRecDepth 65536 in
theorem w_c12 : (Jvm.Cond.code ({ cls := "java/lang/String", name := "indexOf", desc := "(I)I" } : Jvm.MethodName) jdk_42_method_79_code (2 : Nat) (Option.some Jvm.ClassFile.FieldType.int)).before args0 about1 = true := code_word (m := ⟨7, 7⟩) (meth := k7m7) (c := k7c7) (by decide +kernel) rfl rfl rfl (by decide +kernel)
set_option maxRecDepth 65536 in
theorem w_c13 : (Jvm.Cond.code ({ cls := "java/lang/String", name := "indexOf", desc := "(II)I" } : Jvm.MethodName) jdk_42_method_80_code (3 : Nat) (Option.some Jvm.ClassFile.FieldType.int)).before args0 about1 = true := code_word (m := ⟨7, 8⟩) (meth := k7m8) (c := k7c8) (by decide +kernel) rfl rfl rfl (by decide +kernel)
set_option maxRecDepth 65536 in
theorem w_c14 : (Jvm.Cond.code ({ cls := "java/lang/String", name := "isLatin1", desc := "()Z" } : Jvm.MethodName) jdk_42_method_154_code (1 : Nat) (Option.some Jvm.ClassFile.FieldType.boolean)).before args0 about1 = true := code_word (m := ⟨7, 13⟩) (meth := k7m13) (c := k7c13) (by decide +kernel) rfl rfl rfl (by decide +kernel)
set_option maxRecDepth 65536 in
theorem w_c15 : (Jvm.Cond.code ({ cls := "java/lang/String", name := "length", desc := "()I" } : Jvm.MethodName) jdk_42_method_54_code (1 : Nat) (Option.some Jvm.ClassFile.FieldType.int)).before args0 about1 = true := code_word (m := ⟨7, 3⟩) (meth := k7m3) (c := k7c3) (by decide +kernel) rfl rfl rfl (by decide +kernel)
set_option maxRecDepth 65536 in
theorem w_c16 : (Jvm.Cond.code ({ cls := "java/lang/String", name := "coder", desc := "()B" } : Jvm.MethodName) jdk_42_method_152_code (1 : Nat) (Option.some Jvm.ClassFile.FieldType.byte)).before args0 about1 = true := code_word (m := ⟨7, 12⟩) (meth := k7m12) (c := k7c12) (by decide +kernel) rfl rfl rfl (by decide +kernel)
set_option maxRecDepth 65536 in
theorem w_c17 : (Jvm.Cond.code ({ cls := "java/lang/StringLatin1", name := "indexOf", desc := "([BIII)I" } : Jvm.MethodName) jdk_43_method_22_code (4 : Nat) (Option.some Jvm.ClassFile.FieldType.int)).before args0 about1 = true := code_word (m := ⟨12, 5⟩) (meth := k12m5) (c := k12c5) (by decide +kernel) rfl rfl rfl (by decide +kernel)
set_option maxRecDepth 65536 in
theorem w_c18 : (Jvm.Cond.code ({ cls := "java/lang/StringLatin1", name := "canEncode", desc := "(I)Z" } : Jvm.MethodName) jdk_43_method_4_code (1 : Nat) (Option.some Jvm.ClassFile.FieldType.boolean)).before args0 about1 = true := code_word (m := ⟨12, 3⟩) (meth := k12m3) (c := k12c3) (by decide +kernel) rfl rfl rfl (by decide +kernel)
set_option maxRecDepth 65536 in
theorem w_c19 : (Jvm.Cond.code ({ cls := "java/lang/Math", name := "max", desc := "(II)I" } : Jvm.MethodName) jdk_29_method_65_code (2 : Nat) (Option.some Jvm.ClassFile.FieldType.int)).before args0 about1 = true := code_word (m := ⟨13, 1⟩) (meth := k13m1) (c := k13c1) (by decide +kernel) rfl rfl rfl (by decide +kernel)
set_option maxRecDepth 65536 in
theorem w_c20 : (Jvm.Cond.code ({ cls := "java/lang/Math", name := "min", desc := "(II)I" } : Jvm.MethodName) jdk_29_method_69_code (2 : Nat) (Option.some Jvm.ClassFile.FieldType.int)).before args0 about1 = true := code_word (m := ⟨13, 2⟩) (meth := k13m2) (c := k13c2) (by decide +kernel) rfl rfl rfl (by decide +kernel)
set_option maxRecDepth 65536 in
theorem w_c21 : (Jvm.Cond.code ({ cls := "java/lang/StringLatin1", name := "indexOfChar", desc := "([BIII)I" } : Jvm.MethodName) jdk_43_method_23_code (6 : Nat) (Option.some Jvm.ClassFile.FieldType.int)).before args0 about1 = true := code_word (m := ⟨12, 6⟩) (meth := k12m6) (c := k12c6) (by decide +kernel) rfl rfl rfl (by decide +kernel)
set_option maxRecDepth 65536 in
theorem w_c22 : (Jvm.Cond.code ({ cls := "java/lang/String", name := "equals", desc := "(Ljava/lang/Object;)Z" } : Jvm.MethodName) jdk_42_method_66_code (3 : Nat) (Option.some Jvm.ClassFile.FieldType.boolean)).before args0 about1 = true := code_word (m := ⟨7, 6⟩) (meth := k7m6) (c := k7c6) (by decide +kernel) rfl rfl rfl (by decide +kernel)
set_option maxRecDepth 65536 in
theorem w_c23 : (Jvm.Cond.code ({ cls := "java/lang/StringLatin1", name := "equals", desc := "([B[B)Z" } : Jvm.MethodName) jdk_43_method_13_code (3 : Nat) (Option.some Jvm.ClassFile.FieldType.boolean)).before args0 about1 = true := code_word (m := ⟨12, 4⟩) (meth := k12m4) (c := k12c4) (by decide +kernel) rfl rfl rfl (by decide +kernel)
set_option maxRecDepth 65536 in
theorem w_c24 : (Jvm.Cond.code ({ cls := "com/example/nearfar_cache/nearfarcache/redis/RedisKeys", name := "of", desc := "(Lcom/example/nearfar_cache/nearfarcache/Namespace;Ljava/lang/String;)Ljava/lang/String;" } : Jvm.MethodName) prog_26_method_2_code (2 : Nat) (Option.some (Jvm.ClassFile.FieldType.object "java/lang/String"))).before args0 about1 = true := code_word (m := ⟨14, 1⟩) (meth := k14m1) (c := k14c1) (by decide +kernel) rfl rfl rfl (by decide +kernel)
set_option maxRecDepth 65536 in
theorem w_c25 : (Jvm.Cond.code ({ cls := "java/lang/StringBuilder", name := "<init>", desc := "()V" } : Jvm.MethodName) jdk_67_method_1_code (1 : Nat) (Option.none : Option Jvm.ClassFile.FieldType)).before args0 about1 = true := code_word (m := ⟨17, 0⟩) (meth := k17m0) (c := k17c0) (by decide +kernel) rfl rfl rfl (by decide +kernel)
set_option maxRecDepth 65536 in
theorem w_c26 : (Jvm.Cond.code ({ cls := "java/lang/AbstractStringBuilder", name := "<init>", desc := "(I)V" } : Jvm.MethodName) jdk_68_method_2_code (2 : Nat) (Option.none : Option Jvm.ClassFile.FieldType)).before args0 about1 = true := code_word (m := ⟨16, 1⟩) (meth := k16m1) (c := k16c1) (by decide +kernel) rfl rfl rfl (by decide +kernel)
set_option maxRecDepth 65536 in
theorem w_c27 : (Jvm.Cond.code ({ cls := "com/example/nearfar_cache/nearfarcache/Namespace", name := "name", desc := "()Ljava/lang/String;" } : Jvm.MethodName) prog_19_method_5_code (1 : Nat) (Option.some (Jvm.ClassFile.FieldType.object "java/lang/String"))).before args0 about1 = true := code_word (m := ⟨10, 1⟩) (meth := k10m1) (c := k10c1) (by decide +kernel) rfl rfl rfl (by decide +kernel)
set_option maxRecDepth 65536 in
theorem w_c28 : (Jvm.Cond.code ({ cls := "java/lang/StringBuilder", name := "append", desc := "(Ljava/lang/String;)Ljava/lang/StringBuilder;" } : Jvm.MethodName) jdk_67_method_7_code (2 : Nat) (Option.some (Jvm.ClassFile.FieldType.object "java/lang/StringBuilder"))).before args0 about1 = true := code_word (m := ⟨17, 1⟩) (meth := k17m1) (c := k17c1) (by decide +kernel) rfl rfl rfl (by decide +kernel)
set_option maxRecDepth 65536 in
theorem w_c29 : (Jvm.Cond.code ({ cls := "java/lang/AbstractStringBuilder", name := "append", desc := "(Ljava/lang/String;)Ljava/lang/AbstractStringBuilder;" } : Jvm.MethodName) jdk_68_method_22_code (3 : Nat) (Option.some (Jvm.ClassFile.FieldType.object "java/lang/AbstractStringBuilder"))).before args0 about1 = true := code_word (m := ⟨16, 4⟩) (meth := k16m4) (c := k16c4) (by decide +kernel) rfl rfl rfl (by decide +kernel)
set_option maxRecDepth 65536 in
theorem w_c30 : (Jvm.Cond.code ({ cls := "java/lang/AbstractStringBuilder", name := "ensureCapacityInternal", desc := "(I)V" } : Jvm.MethodName) jdk_68_method_9_code (3 : Nat) (Option.none : Option Jvm.ClassFile.FieldType)).before args0 about1 = true := code_word (m := ⟨16, 3⟩) (meth := k16m3) (c := k16c3) (by decide +kernel) rfl rfl rfl (by decide +kernel)
set_option maxRecDepth 65536 in
theorem w_c31 : (Jvm.Cond.code ({ cls := "java/lang/AbstractStringBuilder", name := "putStringAt", desc := "(ILjava/lang/String;)V" } : Jvm.MethodName) jdk_68_method_73_code (3 : Nat) (Option.none : Option Jvm.ClassFile.FieldType)).before args0 about1 = true := code_word (m := ⟨16, 9⟩) (meth := k16m9) (c := k16c9) (by decide +kernel) rfl rfl rfl (by decide +kernel)
set_option maxRecDepth 65536 in
theorem w_c32 : (Jvm.Cond.code ({ cls := "java/lang/AbstractStringBuilder", name := "inflateIfNeededFor", desc := "(Ljava/lang/String;)V" } : Jvm.MethodName) jdk_68_method_71_code (2 : Nat) (Option.none : Option Jvm.ClassFile.FieldType)).before args0 about1 = true := code_word (m := ⟨16, 8⟩) (meth := k16m8) (c := k16c8) (by decide +kernel) rfl rfl rfl (by decide +kernel)
set_option maxRecDepth 65536 in
theorem w_c33 : (Jvm.Cond.code ({ cls := "java/lang/String", name := "getBytes", desc := "([BIB)V" } : Jvm.MethodName) jdk_42_method_147_code (4 : Nat) (Option.none : Option Jvm.ClassFile.FieldType)).before args0 about1 = true := code_word (m := ⟨7, 9⟩) (meth := k7m9) (c := k7c9) (by decide +kernel) rfl rfl rfl (by decide +kernel)
set_option maxRecDepth 65536 in
theorem w_c34 : (Jvm.Cond.code ({ cls := "java/lang/StringBuilder", name := "append", desc := "(C)Ljava/lang/StringBuilder;" } : Jvm.MethodName) jdk_67_method_14_code (2 : Nat) (Option.some (Jvm.ClassFile.FieldType.object "java/lang/StringBuilder"))).before args0 about1 = true := code_word (m := ⟨17, 2⟩) (meth := k17m2) (c := k17c2) (by decide +kernel) rfl rfl rfl (by decide +kernel)
set_option maxRecDepth 65536 in
theorem w_c35 : (Jvm.Cond.code ({ cls := "java/lang/AbstractStringBuilder", name := "append", desc := "(C)Ljava/lang/AbstractStringBuilder;" } : Jvm.MethodName) jdk_68_method_31_code (2 : Nat) (Option.some (Jvm.ClassFile.FieldType.object "java/lang/AbstractStringBuilder"))).before args0 about1 = true := code_word (m := ⟨16, 5⟩) (meth := k16m5) (c := k16c5) (by decide +kernel) rfl rfl rfl (by decide +kernel)
set_option maxRecDepth 65536 in
theorem w_c36 : (Jvm.Cond.code ({ cls := "java/lang/AbstractStringBuilder", name := "isLatin1", desc := "()Z" } : Jvm.MethodName) jdk_68_method_68_code (1 : Nat) (Option.some Jvm.ClassFile.FieldType.boolean)).before args0 about1 = true := code_word (m := ⟨16, 7⟩) (meth := k16m7) (c := k16c7) (by decide +kernel) rfl rfl rfl (by decide +kernel)
set_option maxRecDepth 65536 in
theorem w_c37 : (Jvm.Cond.code ({ cls := "java/lang/StringLatin1", name := "canEncode", desc := "(C)Z" } : Jvm.MethodName) jdk_43_method_3_code (1 : Nat) (Option.some Jvm.ClassFile.FieldType.boolean)).before args0 about1 = true := code_word (m := ⟨12, 2⟩) (meth := k12m2) (c := k12c2) (by decide +kernel) rfl rfl rfl (by decide +kernel)
set_option maxRecDepth 65536 in
theorem w_c38 : (Jvm.Cond.code ({ cls := "java/lang/StringBuilder", name := "toString", desc := "()Ljava/lang/String;" } : Jvm.MethodName) jdk_67_method_42_code (1 : Nat) (Option.some (Jvm.ClassFile.FieldType.object "java/lang/String"))).before args0 about1 = true := code_word (m := ⟨17, 3⟩) (meth := k17m3) (c := k17c3) (by decide +kernel) rfl rfl rfl (by decide +kernel)
set_option maxRecDepth 65536 in
theorem w_c39 : (Jvm.Cond.code ({ cls := "java/lang/String", name := "<init>", desc := "(Ljava/lang/StringBuilder;)V" } : Jvm.MethodName) jdk_42_method_53_code (2 : Nat) (Option.none : Option Jvm.ClassFile.FieldType)).before args0 about1 = true := code_word (m := ⟨7, 2⟩) (meth := k7m2) (c := k7c2) (by decide +kernel) rfl rfl rfl (by decide +kernel)
set_option maxRecDepth 65536 in
theorem w_c40 : (Jvm.Cond.code ({ cls := "java/lang/String", name := "<init>", desc := "(Ljava/lang/AbstractStringBuilder;Ljava/lang/Void;)V" } : Jvm.MethodName) jdk_42_method_150_code (5 : Nat) (Option.none : Option Jvm.ClassFile.FieldType)).before args0 about1 = true := code_word (m := ⟨7, 11⟩) (meth := k7m11) (c := k7c11) (by decide +kernel) rfl rfl rfl (by decide +kernel)
set_option maxRecDepth 65536 in
theorem w_c41 : (Jvm.Cond.code ({ cls := "java/lang/AbstractStringBuilder", name := "getValue", desc := "()[B" } : Jvm.MethodName) jdk_68_method_64_code (1 : Nat) (Option.some (Jvm.ClassFile.FieldType.array Jvm.ClassFile.FieldType.byte))).before args0 about1 = true := code_word (m := ⟨16, 6⟩) (meth := k16m6) (c := k16c6) (by decide +kernel) rfl rfl rfl (by decide +kernel)
set_option maxRecDepth 65536 in
theorem w_c42 : (Jvm.Cond.code ({ cls := "java/lang/StringBuilder", name := "length", desc := "()I" } : Jvm.MethodName) jdk_67_method_93_code (1 : Nat) (Option.some Jvm.ClassFile.FieldType.int)).before args0 about1 = true := code_word (m := ⟨17, 4⟩) (meth := k17m4) (c := k17c4) (by decide +kernel) rfl rfl rfl (by decide +kernel)
set_option maxRecDepth 65536 in
theorem w_c43 : (Jvm.Cond.code ({ cls := "java/lang/AbstractStringBuilder", name := "length", desc := "()I" } : Jvm.MethodName) jdk_68_method_6_code (1 : Nat) (Option.some Jvm.ClassFile.FieldType.int)).before args0 about1 = true := code_word (m := ⟨16, 2⟩) (meth := k16m2) (c := k16c2) (by decide +kernel) rfl rfl rfl (by decide +kernel)
set_option maxRecDepth 65536 in
theorem w_c44 : (Jvm.Cond.code ({ cls := "java/util/Arrays", name := "copyOfRange", desc := "([BII)[B" } : Jvm.MethodName) jdk_65_method_132_code (3 : Nat) (Option.some (Jvm.ClassFile.FieldType.array Jvm.ClassFile.FieldType.byte))).before args0 about1 = true := code_word (m := ⟨19, 2⟩) (meth := k19m2) (c := k19c2) (by decide +kernel) rfl rfl rfl (by decide +kernel)
set_option maxRecDepth 65536 in
theorem w_c45 : (Jvm.Cond.code ({ cls := "java/util/Arrays", name := "copyOfRangeByte", desc := "([BII)[B" } : Jvm.MethodName) jdk_65_method_133_code (5 : Nat) (Option.some (Jvm.ClassFile.FieldType.array Jvm.ClassFile.FieldType.byte))).before args0 about1 = true := code_word (m := ⟨19, 3⟩) (meth := k19m3) (c := k19c3) (by decide +kernel) rfl rfl rfl (by decide +kernel)
set_option maxRecDepth 65536 in
theorem w_c46 : (Jvm.Cond.code ({ cls := "java/util/Arrays", name := "checkLength", desc := "(II)V" } : Jvm.MethodName) jdk_65_method_131_code (2 : Nat) (Option.none : Option Jvm.ClassFile.FieldType)).before args0 about1 = true := code_word (m := ⟨19, 1⟩) (meth := k19m1) (c := k19c1) (by decide +kernel) rfl rfl rfl (by decide +kernel)
set_option maxRecDepth 65536 in
theorem w_c47 : (Jvm.Cond.code ({ cls := "java/lang/String", name := "charAt", desc := "(I)C" } : Jvm.MethodName) jdk_42_method_56_code (2 : Nat) (Option.some Jvm.ClassFile.FieldType.char)).before args0 about1 = true := code_word (m := ⟨7, 5⟩) (meth := k7m5) (c := k7c5) (by decide +kernel) rfl rfl rfl (by decide +kernel)
set_option maxRecDepth 65536 in
theorem w_c48 : (Jvm.Cond.code ({ cls := "java/lang/StringLatin1", name := "charAt", desc := "([BI)C" } : Jvm.MethodName) jdk_43_method_2_code (2 : Nat) (Option.some Jvm.ClassFile.FieldType.char)).before args0 about1 = true := code_word (m := ⟨12, 1⟩) (meth := k12m1) (c := k12c1) (by decide +kernel) rfl rfl rfl (by decide +kernel)
set_option maxRecDepth 65536 in
theorem w_c49 : (Jvm.Cond.code ({ cls := "java/lang/String", name := "checkIndex", desc := "(II)V" } : Jvm.MethodName) jdk_42_method_155_code (2 : Nat) (Option.none : Option Jvm.ClassFile.FieldType)).before args0 about1 = true := code_word (m := ⟨7, 14⟩) (meth := k7m14) (c := k7c14) (by decide +kernel) rfl rfl rfl (by decide +kernel)
set_option maxRecDepth 65536 in
theorem w_c50 : (Jvm.Cond.code ({ cls := "jdk/internal/util/Preconditions", name := "checkIndex", desc := "(IILjava/util/function/BiFunction;)I" } : Jvm.MethodName) jdk_41_method_11_code (3 : Nat) (Option.some Jvm.ClassFile.FieldType.int)).before args0 about1 = true := code_word (m := ⟨20, 1⟩) (meth := k20m1) (c := k20c1) (by decide +kernel) rfl rfl rfl (by decide +kernel)
def codes1 : List Jvm.Cond := [Jvm.Cond.code x code maxLocals ret, Jvm.Cond.code ({ cls := "com/example/nearfar_cache/nearfarcache/redis/RedisKeysOfPinLaw", name := "nameChar", desc := "(I)C" } : Jvm.MethodName) method_2_code (2 : Nat) (Option.some Jvm.ClassFile.FieldType.char), Jvm.Cond.code ({ cls := "java/lang/String", name := "<init>", desc := "([C)V" } : Jvm.MethodName) jdk_42_method_3_code (2 : Nat) (Option.none : Option Jvm.ClassFile.FieldType), Jvm.Cond.code ({ cls := "java/lang/String", name := "<init>", desc := "([CIILjava/lang/Void;)V" } : Jvm.MethodName) jdk_42_method_149_code (6 : Nat) (Option.none : Option Jvm.ClassFile.FieldType), Jvm.Cond.code ({ cls := "java/lang/Object", name := "<init>", desc := "()V" } : Jvm.MethodName) object_method_1_code (1 : Nat) (Option.none : Option Jvm.ClassFile.FieldType), Jvm.Cond.code ({ cls := "java/lang/StringUTF16", name := "compress", desc := "([CII)[B" } : Jvm.MethodName) jdk_52_method_16_code (6 : Nat) (Option.some (Jvm.ClassFile.FieldType.array Jvm.ClassFile.FieldType.byte)), Jvm.Cond.code ({ cls := "java/lang/StringUTF16", name := "compress", desc := "([CI[BII)I" } : Jvm.MethodName) jdk_52_method_21_code (7 : Nat) (Option.some Jvm.ClassFile.FieldType.int), Jvm.Cond.code ({ cls := "java/lang/StringUTF16", name := "coderFromArrayLen", desc := "([BI)B" } : Jvm.MethodName) jdk_52_method_15_code (2 : Nat) (Option.some Jvm.ClassFile.FieldType.byte), Jvm.Cond.code ({ cls := "com/example/nearfar_cache/nearfarcache/Namespace", name := "<init>", desc := "(Ljava/lang/String;)V" } : Jvm.MethodName) prog_19_method_1_code (2 : Nat) (Option.none : Option Jvm.ClassFile.FieldType), Jvm.Cond.code ({ cls := "java/lang/Record", name := "<init>", desc := "()V" } : Jvm.MethodName) jdk_30_method_1_code (1 : Nat) (Option.none : Option Jvm.ClassFile.FieldType), Jvm.Cond.code ({ cls := "java/util/Objects", name := "requireNonNull", desc := "(Ljava/lang/Object;Ljava/lang/String;)Ljava/lang/Object;" } : Jvm.MethodName) jdk_31_method_11_code (2 : Nat) (Option.some (Jvm.ClassFile.FieldType.object "java/lang/Object")), Jvm.Cond.code ({ cls := "java/lang/String", name := "isEmpty", desc := "()Z" } : Jvm.MethodName) jdk_42_method_55_code (1 : Nat) (Option.some Jvm.ClassFile.FieldType.boolean), Jvm.Cond.code ({ cls := "java/lang/String", name := "indexOf", desc := "(I)I" } : Jvm.MethodName) jdk_42_method_79_code (2 : Nat) (Option.some Jvm.ClassFile.FieldType.int), Jvm.Cond.code ({ cls := "java/lang/String", name := "indexOf", desc := "(II)I" } : Jvm.MethodName) jdk_42_method_80_code (3 : Nat) (Option.some Jvm.ClassFile.FieldType.int), Jvm.Cond.code ({ cls := "java/lang/String", name := "isLatin1", desc := "()Z" } : Jvm.MethodName) jdk_42_method_154_code (1 : Nat) (Option.some Jvm.ClassFile.FieldType.boolean), Jvm.Cond.code ({ cls := "java/lang/String", name := "length", desc := "()I" } : Jvm.MethodName) jdk_42_method_54_code (1 : Nat) (Option.some Jvm.ClassFile.FieldType.int), Jvm.Cond.code ({ cls := "java/lang/String", name := "coder", desc := "()B" } : Jvm.MethodName) jdk_42_method_152_code (1 : Nat) (Option.some Jvm.ClassFile.FieldType.byte), Jvm.Cond.code ({ cls := "java/lang/StringLatin1", name := "indexOf", desc := "([BIII)I" } : Jvm.MethodName) jdk_43_method_22_code (4 : Nat) (Option.some Jvm.ClassFile.FieldType.int), Jvm.Cond.code ({ cls := "java/lang/StringLatin1", name := "canEncode", desc := "(I)Z" } : Jvm.MethodName) jdk_43_method_4_code (1 : Nat) (Option.some Jvm.ClassFile.FieldType.boolean), Jvm.Cond.code ({ cls := "java/lang/Math", name := "max", desc := "(II)I" } : Jvm.MethodName) jdk_29_method_65_code (2 : Nat) (Option.some Jvm.ClassFile.FieldType.int), Jvm.Cond.code ({ cls := "java/lang/Math", name := "min", desc := "(II)I" } : Jvm.MethodName) jdk_29_method_69_code (2 : Nat) (Option.some Jvm.ClassFile.FieldType.int), Jvm.Cond.code ({ cls := "java/lang/StringLatin1", name := "indexOfChar", desc := "([BIII)I" } : Jvm.MethodName) jdk_43_method_23_code (6 : Nat) (Option.some Jvm.ClassFile.FieldType.int), Jvm.Cond.code ({ cls := "java/lang/String", name := "equals", desc := "(Ljava/lang/Object;)Z" } : Jvm.MethodName) jdk_42_method_66_code (3 : Nat) (Option.some Jvm.ClassFile.FieldType.boolean), Jvm.Cond.code ({ cls := "java/lang/StringLatin1", name := "equals", desc := "([B[B)Z" } : Jvm.MethodName) jdk_43_method_13_code (3 : Nat) (Option.some Jvm.ClassFile.FieldType.boolean), Jvm.Cond.code ({ cls := "com/example/nearfar_cache/nearfarcache/redis/RedisKeys", name := "of", desc := "(Lcom/example/nearfar_cache/nearfarcache/Namespace;Ljava/lang/String;)Ljava/lang/String;" } : Jvm.MethodName) prog_26_method_2_code (2 : Nat) (Option.some (Jvm.ClassFile.FieldType.object "java/lang/String")), Jvm.Cond.code ({ cls := "java/lang/StringBuilder", name := "<init>", desc := "()V" } : Jvm.MethodName) jdk_67_method_1_code (1 : Nat) (Option.none : Option Jvm.ClassFile.FieldType), Jvm.Cond.code ({ cls := "java/lang/AbstractStringBuilder", name := "<init>", desc := "(I)V" } : Jvm.MethodName) jdk_68_method_2_code (2 : Nat) (Option.none : Option Jvm.ClassFile.FieldType), Jvm.Cond.code ({ cls := "com/example/nearfar_cache/nearfarcache/Namespace", name := "name", desc := "()Ljava/lang/String;" } : Jvm.MethodName) prog_19_method_5_code (1 : Nat) (Option.some (Jvm.ClassFile.FieldType.object "java/lang/String")), Jvm.Cond.code ({ cls := "java/lang/StringBuilder", name := "append", desc := "(Ljava/lang/String;)Ljava/lang/StringBuilder;" } : Jvm.MethodName) jdk_67_method_7_code (2 : Nat) (Option.some (Jvm.ClassFile.FieldType.object "java/lang/StringBuilder")), Jvm.Cond.code ({ cls := "java/lang/AbstractStringBuilder", name := "append", desc := "(Ljava/lang/String;)Ljava/lang/AbstractStringBuilder;" } : Jvm.MethodName) jdk_68_method_22_code (3 : Nat) (Option.some (Jvm.ClassFile.FieldType.object "java/lang/AbstractStringBuilder")), Jvm.Cond.code ({ cls := "java/lang/AbstractStringBuilder", name := "ensureCapacityInternal", desc := "(I)V" } : Jvm.MethodName) jdk_68_method_9_code (3 : Nat) (Option.none : Option Jvm.ClassFile.FieldType), Jvm.Cond.code ({ cls := "java/lang/AbstractStringBuilder", name := "putStringAt", desc := "(ILjava/lang/String;)V" } : Jvm.MethodName) jdk_68_method_73_code (3 : Nat) (Option.none : Option Jvm.ClassFile.FieldType), Jvm.Cond.code ({ cls := "java/lang/AbstractStringBuilder", name := "inflateIfNeededFor", desc := "(Ljava/lang/String;)V" } : Jvm.MethodName) jdk_68_method_71_code (2 : Nat) (Option.none : Option Jvm.ClassFile.FieldType), Jvm.Cond.code ({ cls := "java/lang/String", name := "getBytes", desc := "([BIB)V" } : Jvm.MethodName) jdk_42_method_147_code (4 : Nat) (Option.none : Option Jvm.ClassFile.FieldType), Jvm.Cond.code ({ cls := "java/lang/StringBuilder", name := "append", desc := "(C)Ljava/lang/StringBuilder;" } : Jvm.MethodName) jdk_67_method_14_code (2 : Nat) (Option.some (Jvm.ClassFile.FieldType.object "java/lang/StringBuilder")), Jvm.Cond.code ({ cls := "java/lang/AbstractStringBuilder", name := "append", desc := "(C)Ljava/lang/AbstractStringBuilder;" } : Jvm.MethodName) jdk_68_method_31_code (2 : Nat) (Option.some (Jvm.ClassFile.FieldType.object "java/lang/AbstractStringBuilder")), Jvm.Cond.code ({ cls := "java/lang/AbstractStringBuilder", name := "isLatin1", desc := "()Z" } : Jvm.MethodName) jdk_68_method_68_code (1 : Nat) (Option.some Jvm.ClassFile.FieldType.boolean), Jvm.Cond.code ({ cls := "java/lang/StringLatin1", name := "canEncode", desc := "(C)Z" } : Jvm.MethodName) jdk_43_method_3_code (1 : Nat) (Option.some Jvm.ClassFile.FieldType.boolean), Jvm.Cond.code ({ cls := "java/lang/StringBuilder", name := "toString", desc := "()Ljava/lang/String;" } : Jvm.MethodName) jdk_67_method_42_code (1 : Nat) (Option.some (Jvm.ClassFile.FieldType.object "java/lang/String")), Jvm.Cond.code ({ cls := "java/lang/String", name := "<init>", desc := "(Ljava/lang/StringBuilder;)V" } : Jvm.MethodName) jdk_42_method_53_code (2 : Nat) (Option.none : Option Jvm.ClassFile.FieldType), Jvm.Cond.code ({ cls := "java/lang/String", name := "<init>", desc := "(Ljava/lang/AbstractStringBuilder;Ljava/lang/Void;)V" } : Jvm.MethodName) jdk_42_method_150_code (5 : Nat) (Option.none : Option Jvm.ClassFile.FieldType), Jvm.Cond.code ({ cls := "java/lang/AbstractStringBuilder", name := "getValue", desc := "()[B" } : Jvm.MethodName) jdk_68_method_64_code (1 : Nat) (Option.some (Jvm.ClassFile.FieldType.array Jvm.ClassFile.FieldType.byte)), Jvm.Cond.code ({ cls := "java/lang/StringBuilder", name := "length", desc := "()I" } : Jvm.MethodName) jdk_67_method_93_code (1 : Nat) (Option.some Jvm.ClassFile.FieldType.int), Jvm.Cond.code ({ cls := "java/lang/AbstractStringBuilder", name := "length", desc := "()I" } : Jvm.MethodName) jdk_68_method_6_code (1 : Nat) (Option.some Jvm.ClassFile.FieldType.int), Jvm.Cond.code ({ cls := "java/util/Arrays", name := "copyOfRange", desc := "([BII)[B" } : Jvm.MethodName) jdk_65_method_132_code (3 : Nat) (Option.some (Jvm.ClassFile.FieldType.array Jvm.ClassFile.FieldType.byte)), Jvm.Cond.code ({ cls := "java/util/Arrays", name := "copyOfRangeByte", desc := "([BII)[B" } : Jvm.MethodName) jdk_65_method_133_code (5 : Nat) (Option.some (Jvm.ClassFile.FieldType.array Jvm.ClassFile.FieldType.byte)), Jvm.Cond.code ({ cls := "java/util/Arrays", name := "checkLength", desc := "(II)V" } : Jvm.MethodName) jdk_65_method_131_code (2 : Nat) (Option.none : Option Jvm.ClassFile.FieldType), Jvm.Cond.code ({ cls := "java/lang/String", name := "charAt", desc := "(I)C" } : Jvm.MethodName) jdk_42_method_56_code (2 : Nat) (Option.some Jvm.ClassFile.FieldType.char), Jvm.Cond.code ({ cls := "java/lang/StringLatin1", name := "charAt", desc := "([BI)C" } : Jvm.MethodName) jdk_43_method_2_code (2 : Nat) (Option.some Jvm.ClassFile.FieldType.char), Jvm.Cond.code ({ cls := "java/lang/String", name := "checkIndex", desc := "(II)V" } : Jvm.MethodName) jdk_42_method_155_code (2 : Nat) (Option.none : Option Jvm.ClassFile.FieldType), Jvm.Cond.code ({ cls := "jdk/internal/util/Preconditions", name := "checkIndex", desc := "(IILjava/util/function/BiFunction;)I" } : Jvm.MethodName) jdk_41_method_11_code (3 : Nat) (Option.some Jvm.ClassFile.FieldType.int)]
set_option maxRecDepth 65536 in
theorem codes_eq : words1.filter isCode = codes1 := rfl
theorem w_codes : ∀ c ∈ words1.filter isCode, c.before args0 about1 = true := by
  rw [codes_eq]
  intro c hc
  simp only [codes1, List.mem_cons, List.not_mem_nil, or_false] at hc
  rcases hc with rfl | rfl | rfl | rfl | rfl | rfl | rfl | rfl | rfl | rfl | rfl | rfl | rfl | rfl | rfl | rfl | rfl | rfl | rfl | rfl | rfl | rfl | rfl | rfl | rfl | rfl | rfl | rfl | rfl | rfl | rfl | rfl | rfl | rfl | rfl | rfl | rfl | rfl | rfl | rfl | rfl | rfl | rfl | rfl | rfl | rfl | rfl | rfl | rfl | rfl | rfl
  · exact w_c0
  · exact w_c1
  · exact w_c2
  · exact w_c3
  · exact w_c4
  · exact w_c5
  · exact w_c6
  · exact w_c7
  · exact w_c8
  · exact w_c9
  · exact w_c10
  · exact w_c11
  · exact w_c12
  · exact w_c13
  · exact w_c14
  · exact w_c15
  · exact w_c16
  · exact w_c17
  · exact w_c18
  · exact w_c19
  · exact w_c20
  · exact w_c21
  · exact w_c22
  · exact w_c23
  · exact w_c24
  · exact w_c25
  · exact w_c26
  · exact w_c27
  · exact w_c28
  · exact w_c29
  · exact w_c30
  · exact w_c31
  · exact w_c32
  · exact w_c33
  · exact w_c34
  · exact w_c35
  · exact w_c36
  · exact w_c37
  · exact w_c38
  · exact w_c39
  · exact w_c40
  · exact w_c41
  · exact w_c42
  · exact w_c43
  · exact w_c44
  · exact w_c45
  · exact w_c46
  · exact w_c47
  · exact w_c48
  · exact w_c49
  · exact w_c50
set_option maxRecDepth 65536 in
theorem w_t1 : (words1.take 24).all (fun c => isCode c || c.before args0 about1) = true := by decide +kernel
set_option maxRecDepth 65536 in
theorem w_t2 : ((words1.drop 24).take 24).all (fun c => isCode c || c.before args0 about1) = true := by decide +kernel
set_option maxRecDepth 65536 in
theorem w_t3 : (((words1.drop 24).drop 24).take 24).all (fun c => isCode c || c.before args0 about1) = true := by decide +kernel
set_option maxRecDepth 65536 in
theorem w_t4 : ((((words1.drop 24).drop 24).drop 24).take 24).all (fun c => isCode c || c.before args0 about1) = true := by decide +kernel
set_option maxRecDepth 65536 in
theorem w_t5 : (((((words1.drop 24).drop 24).drop 24).drop 24).take 24).all (fun c => isCode c || c.before args0 about1) = true := by decide +kernel
set_option maxRecDepth 65536 in
theorem w_t6 : ((((((words1.drop 24).drop 24).drop 24).drop 24).drop 24).take 24).all (fun c => isCode c || c.before args0 about1) = true := by decide +kernel
set_option maxRecDepth 65536 in
theorem w_t7 : (((((((words1.drop 24).drop 24).drop 24).drop 24).drop 24).drop 24).take 24).all (fun c => isCode c || c.before args0 about1) = true := by decide +kernel
set_option maxRecDepth 65536 in
theorem w_t8 : ((((((((words1.drop 24).drop 24).drop 24).drop 24).drop 24).drop 24).drop 24).take 24).all (fun c => isCode c || c.before args0 about1) = true := by decide +kernel
set_option maxRecDepth 65536 in
theorem w_t9 : (((((((((words1.drop 24).drop 24).drop 24).drop 24).drop 24).drop 24).drop 24).drop 24).take 24).all (fun c => isCode c || c.before args0 about1) = true := by decide +kernel
set_option maxRecDepth 65536 in
theorem w_t10 : ((((((((((words1.drop 24).drop 24).drop 24).drop 24).drop 24).drop 24).drop 24).drop 24).drop 24).take 24).all (fun c => isCode c || c.before args0 about1) = true := by decide +kernel
set_option maxRecDepth 65536 in
theorem w_t11 : ((((((((((words1.drop 24).drop 24).drop 24).drop 24).drop 24).drop 24).drop 24).drop 24).drop 24).drop 24).all (fun c => isCode c || c.before args0 about1) = true := by decide +kernel
theorem w_tables : (allAtoms (Jvm.Cond.code x code maxLocals ret :: tables_1)).before args0 about1 = true := by
  rw [allAtoms_all]
  show words1.all (fun c => c.before args0 about1) = true
  refine all_split ?_ w_codes
  rw [← List.take_append_drop 24 words1, List.all_append, w_t1, ← List.take_append_drop 24 (words1.drop 24), List.all_append, w_t2, ← List.take_append_drop 24 ((words1.drop 24).drop 24), List.all_append, w_t3, ← List.take_append_drop 24 (((words1.drop 24).drop 24).drop 24), List.all_append, w_t4, ← List.take_append_drop 24 ((((words1.drop 24).drop 24).drop 24).drop 24), List.all_append, w_t5, ← List.take_append_drop 24 (((((words1.drop 24).drop 24).drop 24).drop 24).drop 24), List.all_append, w_t6, ← List.take_append_drop 24 ((((((words1.drop 24).drop 24).drop 24).drop 24).drop 24).drop 24), List.all_append, w_t7, ← List.take_append_drop 24 (((((((words1.drop 24).drop 24).drop 24).drop 24).drop 24).drop 24).drop 24), List.all_append, w_t8, ← List.take_append_drop 24 ((((((((words1.drop 24).drop 24).drop 24).drop 24).drop 24).drop 24).drop 24).drop 24), List.all_append, w_t9, ← List.take_append_drop 24 (((((((((words1.drop 24).drop 24).drop 24).drop 24).drop 24).drop 24).drop 24).drop 24).drop 24), List.all_append, w_t10, w_t11]
  rfl
set_option maxRecDepth 65536 in
theorem w_rest : rest_1_c.before args0 about1 = true := by decide +kernel
set_option maxRecDepth 65536 in
theorem w_case : (Jvm.Cond.and given_1 narrow_1).before args0 about1 = true := by decide +kernel
set_option maxRecDepth 65536 in
theorem w_consts : constsHeld consts_1 about1 := Jvm.Lit.constsHeldB_iff.mp (by decide +kernel)
theorem w_applies : (headSpec (Jvm.Cond.code x code maxLocals ret :: tables_1) room_1).applies x e0.platform about1 = true :=
  (Spec.applies_iff w_frames).mpr ⟨w_running, w_runnable, w_alone, w_named, w_hears, w_ripe, w_room, w_tables⟩
theorem atStart : AtStart classFile x code maxLocals ret World_1 tables_1 room_1 Calls_1 rest_1 Pre_1 launch0 p0 e0 about1 theMethod args0 below0 :=
  ⟨lists_1, trivial, launch0.admits_env _ _ _, launch0.least_env, fairChoices_fair.cas, fairChoices_fair.clock, w_frames, w_args, w_heap, w_applies, ⟨w_consts, trivial⟩, w_rest, w_case⟩
end start1
theorem witness_1 : WitnessClaimed_1 := ⟨start1.p0, start1.e0, start1.about1, start1.theMethod, start1.args0, start1.below0, start1.atStart⟩
end Jvm.Pilot.@@N@@
