import JvmDerived
import JvmDerived.Pilot.@@N@@Statement
import JvmDerived.Pilot.@@N@@Code
set_option linter.unusedVariables false
set_option linter.unusedSimpArgs false
/- laws to paste: Road.backV, Road.lenW, Road.chN, Road.eqW, Road.empW, Road.codOf (cut by pick.py; bodies as the Statement names them) -/
namespace Jvm.Pilot.@@N@@
namespace StrChars
open Jvm Sem ClassFile Op Lib Jvm.Stand Jvm.Free.XT Jvm.Free.ALB Jvm.Free.JM Jvm.Free
open Jvm.Lib.Cold (StaticIs)
/-- a char array whose places are chars -/
def Ch (a : Addr) (A : Cell) (U : State) : Prop := Arr .char a A U ∧ Typed .char A
theorem Ch.mv {a : Addr} {A : Cell} {U U' : State} (h : Ch a A U) (hal : U.vm.Alike U'.vm) (hh : U'.heap = U.heap) : Ch a A U' := ⟨h.1.mv hal hh, h.2⟩
theorem Ch.keep {a : Addr} {A : Cell} {U U' : State} (h : Ch a A U) (hal : U.vm.Alike U'.vm) (hk : U'.heap[a]? = some A) : Ch a A U' := ⟨h.1.keep hal hk, h.2⟩
/-- what place i of a char[]'s cell holds -/
def cv (A : Cell) (i : Nat) : Int32 := match A.slots[i]? with | some (.int x) => x | _ => 0
theorem Ch.get {a : Addr} {A : Cell} {U : State} (h : Ch a A U) {i : Nat} (hi : i < A.slots.size) : A.slots[i]? = some (.int (cv A i)) := by
  have e := Array.getElem?_eq_getElem hi
  have f := h.2 i _ e
  unfold cv; rw [e]
  generalize A.slots[i] = v at f
  cases v <;> simp [fits] at f ⊢
/-- the byte that i2b leaves of a char -/
def lo8 (x : Int32) : Int32 := x.toInt8.toInt32
theorem fits_lo8 (y : Int32) : fits .byte (.int (lo8 y)) = true := by
  have h1 := y.toInt8.le_toInt
  have h2 := y.toInt8.toInt_lt
  simp only [lo8, fits, Bool.and_eq_true, decide_eq_true_eq, Int32.le_iff_toInt_le, Int8.toInt_toInt32, show (-128 : Int32).toInt = -128 from by decide, show (127 : Int32).toInt = 127 from by decide]
  omega
/-- A' is A but that each place j of lo .. hi - 1 holds f j -/
def Laid (A A' : Cell) (lo hi : Nat) (f : Nat → Value) : Prop := A'.cls = A.cls ∧ A'.vm = A.vm ∧ A'.slots.size = A.slots.size ∧ ∀ i, A'.slots[i]? = if lo ≤ i ∧ i < hi then some (f i) else A.slots[i]?
theorem Laid.zero (A : Cell) (lo : Nat) (f : Nat → Value) : Laid A A lo (lo + 0) f := ⟨rfl, rfl, rfl, fun i => by rw [if_neg (by omega)]⟩
theorem Laid.step {A Ak : Cell} {lo k : Nat} {f : Nat → Value} {v : Value} (h : Laid A Ak lo k f) (hlo : lo ≤ k) (hk : k < Ak.slots.size) (hv : v = f k) : Laid A (Ak.setSlot k v) lo (k + 1) f := by
  refine ⟨h.1, h.2.1, by simpa [Cell.setSlot] using h.2.2.1, fun i => ?_⟩
  by_cases e : k = i
  · subst e; rw [Cell.slots_setSlot_self v hk, if_pos (by omega), hv]
  · rw [Cell.slots_setSlot_ne v e, h.2.2.2 i]
    by_cases q : lo ≤ i ∧ i < k
    · rw [if_pos q, if_pos (by omega)]
    · rw [if_neg q, if_neg (by omega)]
def U16 : String := "java/lang/StringUTF16"
namespace Cmp5
def yN : MethodName := ⟨"java/lang/StringUTF16", "compress", "([CI[BII)I"⟩
abbrev yB : ByteArray := jdk_52_method_21_code
theorem d0 : decode yB 0 = .ok (.iconst 0, 1) := by decide +kernel
theorem d1 : decode yB 1 = .ok (.istore 5, 2) := by decide +kernel
theorem d3 : decode yB 3 = .ok (.iload 5, 2) := by decide +kernel
theorem d5 : decode yB 5 = .ok (.iload 4, 2) := by decide +kernel
theorem d7 : decode yB 7 = .ok (.if_icmp (.ge) 37, 3) := by decide +kernel
theorem d10 : decode yB 10 = .ok (.aload_n 0, 1) := by decide +kernel
theorem d11 : decode yB 11 = .ok (.iload_n 1, 1) := by decide +kernel
theorem d12 : decode yB 12 = .ok (.caload, 1) := by decide +kernel
theorem d13 : decode yB 13 = .ok (.istore 6, 2) := by decide +kernel
theorem d15 : decode yB 15 = .ok (.iload 6, 2) := by decide +kernel
theorem d17 : decode yB 17 = .ok (.sipush 255, 3) := by decide +kernel
theorem d20 : decode yB 20 = .ok (.if_icmp (.le) 6, 3) := by decide +kernel
theorem d26 : decode yB 26 = .ok (.aload_n 2, 1) := by decide +kernel
theorem d27 : decode yB 27 = .ok (.iload_n 3, 1) := by decide +kernel
theorem d28 : decode yB 28 = .ok (.iload 6, 2) := by decide +kernel
theorem d30 : decode yB 30 = .ok (.i2b, 1) := by decide +kernel
theorem d31 : decode yB 31 = .ok (.bastore, 1) := by decide +kernel
theorem d32 : decode yB 32 = .ok (.iinc 1 1, 3) := by decide +kernel
theorem d35 : decode yB 35 = .ok (.iinc 3 1, 3) := by decide +kernel
theorem d38 : decode yB 38 = .ok (.iinc 5 1, 3) := by decide +kernel
theorem d41 : decode yB 41 = .ok (.goto (-38), 3) := by decide +kernel
theorem d44 : decode yB 44 = .ok (.iload 4, 2) := by decide +kernel
theorem d46 : decode yB 46 = .ok (.ireturn, 1) := by decide +kernel
def site : List Cond := []
def tab : Cond := tabOf yN yB 7 (some .int) site
def P (b : Addr) (A : Cell) (d : Addr) (B : Cell) (o q len : Nat) (args : Array Value) (s : State) : Prop := args = #[.ref b, .int (Int32.ofNat o), .ref d, .int (Int32.ofNat q), .int (Int32.ofNat len)] ∧ Ch b A s ∧ Arr .byte d B s ∧ b ≠ d ∧ o + len ≤ A.slots.size ∧ q + len ≤ B.slots.size ∧ ∀ i, i < len → ¬ 255 < cv A (o + i)
def E (b : Addr) (A : Cell) (d : Addr) (B : Cell) (o q len : Nat) (r : Option Value) (s u : State) : Prop := r = some (.int (Int32.ofNat len)) ∧ ∃ B', Put d B' s u ∧ Laid B B' q (q + len) (fun j => Value.int (lo8 (cv A (o + (j - q)))))
/-- no char of the range above 255: len; the places written hold each char's low byte -/
theorem law (l : Launch) (b : Addr) (A : Cell) (d : Addr) (B : Cell) (o q len : Nat) : Law l yN 5 5 0 0 yB 7 (some .int) site (P b A d B o q len) (E b A d B o q len) (copyLocs d q len) 0 0 := by
  refine Law.of_walk (plainFor_of_name (by decide +kernel)) (by decide +kernel) (by decide +kernel) (by decide) (fun _ _ h => by rw [h.1]; rfl) (fun _ U U' hal hh h => ⟨h.1, h.2.1.mv hal hh, h.2.2.1.mv hal hh, h.2.2.2⟩) (fun r U U' V V' h1 hal h2 h => ⟨h.1, h.2.elim fun B' q => ⟨B', q.1.mv h1 h2, q.2⟩⟩) ?_
  intro p e s m args below meth c s₁ X0 hexec hbytes hml hret hlk hnm hown hh0 W hP
  obtain ⟨rfl, hA, hB, hne, l1, l2, hp⟩ := hP
  have c1 : Steps p.tables e below (s₁.setTop (entryFrame m #[.ref b, .int (Int32.ofNat o), .ref d, .int (Int32.ofNat q), .int (Int32.ofNat len)] 7)) (s₁.setTop (mkF m 0 #[.val (.ref b), .val (.int (Int32.ofNat o)), .val (.ref d), .val (.int (Int32.ofNat q)), .val (.int (Int32.ofNat len)), .unset, .unset] [])) := entry rfl
  have hA0 := hA.1.mv X0.warmed.alike hh0
  have hB0 := hB.mv X0.warmed.alike hh0
  have a31 := hA.1.2.2.2
  have c2 : Steps p.tables e below (s₁.setTop (entryFrame m #[.ref b, .int (Int32.ofNat o), .ref d, .int (Int32.ofNat q), .int (Int32.ofNat len)] 7)) (s₁.setTop (mkF m 3 #[.val (.ref b), .val (.int (Int32.ofNat o)), .val (.ref d), .val (.int (Int32.ofNat q)), .val (.int (Int32.ofNat len)), .val (.int 0), .unset] [])) := c1.trans (by
    refine iconstV X0.here hexec rfl 0 (hb hbytes d0) (by decide) ?_
    refine XS.istore X0.here hexec rfl (hb hbytes d1) rfl rfl ?_
    exact Steps.refl _)
  have loop : ∀ (r i : Nat), i + r = len → ∀ (z : Slot), (z = .unset ∨ ∃ w, z = .val w ∧ w.category = 1) → ∀ (Tl : State) (Bk : Cell), Stand p l e { frames := 0, locals := 0, cells := 0, slots := 0 } s m #[.ref b, .int (Int32.ofNat o), .ref d, .int (Int32.ofNat q), .int (Int32.ofNat len)] below meth c Tl ([] ++ copyLocs d q i) 0 0 → Put d Bk s₁ Tl → Laid B Bk q (q + i) (fun j => Value.int (lo8 (cv A (o + (j - q))))) →
      Steps p.tables e below (s₁.setTop (entryFrame m #[.ref b, .int (Int32.ofNat o), .ref d, .int (Int32.ofNat q), .int (Int32.ofNat len)] 7)) (Tl.setTop (mkF m 3 #[.val (.ref b), .val (.int (Int32.ofNat (o + i))), .val (.ref d), .val (.int (Int32.ofNat (q + i))), .val (.int (Int32.ofNat len)), .val (.int (Int32.ofNat i)), z] [])) → ∃ (T' : State) (B' : Cell) (z' : Slot), Stand p l e { frames := 0, locals := 0, cells := 0, slots := 0 } s m #[.ref b, .int (Int32.ofNat o), .ref d, .int (Int32.ofNat q), .int (Int32.ofNat len)] below meth c T' ([] ++ copyLocs d q len) 0 0 ∧ Put d B' s₁ T' ∧ Laid B B' q (q + len) (fun j => Value.int (lo8 (cv A (o + (j - q))))) ∧
      Steps p.tables e below (s₁.setTop (entryFrame m #[.ref b, .int (Int32.ofNat o), .ref d, .int (Int32.ofNat q), .int (Int32.ofNat len)] 7)) (T'.setTop (mkF m 3 #[.val (.ref b), .val (.int (Int32.ofNat (o + len))), .val (.ref d), .val (.int (Int32.ofNat (q + len))), .val (.int (Int32.ofNat len)), .val (.int (Int32.ofNat len)), z'] [])) := by
    intro r
    induction r with
    | zero =>
      intro i hi z hz Tl Bk Xl pl fl cl
      have hil : i = len := by omega
      rw [hil] at Xl fl cl
      exact ⟨Tl, Bk, z, Xl, pl, fl, cl⟩
    | succ r ih =>
      intro i hi z hz Tl Bk Xl pl fl cl
      have all := X0.warmed.alike.symm.trans Xl.warmed.alike
      have hAl := hA0.keep all (pl.other hne hA0.1)
      have hBk := hB0.like all pl.1 fl.1 fl.2.1 fl.2.2.1
      have hlt : q + i < Bk.slots.size := by rw [fl.2.2.1]; omega
      have c3 : Steps p.tables e below (s₁.setTop (entryFrame m #[.ref b, .int (Int32.ofNat o), .ref d, .int (Int32.ofNat q), .int (Int32.ofNat len)] 7)) (Tl.setTop (mkF m 12 #[.val (.ref b), .val (.int (Int32.ofNat (o + i))), .val (.ref d), .val (.int (Int32.ofNat (q + i))), .val (.int (Int32.ofNat len)), .val (.int (Int32.ofNat i)), z] [.int (Int32.ofNat (o + i)), .ref b])) := cl.trans (by
        refine XS.iload Xl.here hexec rfl (hb hbytes d3) rfl ?_
        refine XS.iload Xl.here hexec rfl (hb hbytes d5) rfl ?_
        refine XS.icmpNo Xl.here hexec rfl (hb hbytes d7) rfl (ii_ge_f (lt32 (by omega) (by omega))) ?_
        refine XS.aloadN Xl.here hexec rfl (hb hbytes d10) rfl rfl ?_
        refine XS.iloadN Xl.here hexec rfl (hb hbytes d11) rfl ?_
        exact Steps.refl _)
      have c4 : Steps p.tables e below (s₁.setTop (entryFrame m #[.ref b, .int (Int32.ofNat o), .ref d, .int (Int32.ofNat q), .int (Int32.ofNat len)] 7)) (Tl.setTop (mkF m 13 #[.val (.ref b), .val (.int (Int32.ofNat (o + i))), .val (.ref d), .val (.int (Int32.ofNat (q + i))), .val (.int (Int32.ofNat len)), .val (.int (Int32.ofNat i)), z] [.int (cv A (o + i))])) := c3.trans (by
        refine Xl.aget hexec hAl rfl (hA.get (i := o + i) (by omega)) rfl rfl (hb hbytes d12) ?_
        exact Steps.refl _)
      have c5 : Steps p.tables e below (s₁.setTop (entryFrame m #[.ref b, .int (Int32.ofNat o), .ref d, .int (Int32.ofNat q), .int (Int32.ofNat len)] 7)) (Tl.setTop (mkF m 15 #[.val (.ref b), .val (.int (Int32.ofNat (o + i))), .val (.ref d), .val (.int (Int32.ofNat (q + i))), .val (.int (Int32.ofNat len)), .val (.int (Int32.ofNat i)), .val (.int (cv A (o + i)))] [])) := c4.trans (by
        refine XS.istoreS Xl.here hexec rfl (hb hbytes d13) rfl rfl hz ?_
        exact Steps.refl _)
      have c6 : Steps p.tables e below (s₁.setTop (entryFrame m #[.ref b, .int (Int32.ofNat o), .ref d, .int (Int32.ofNat q), .int (Int32.ofNat len)] 7)) (Tl.setTop (mkF m 31 #[.val (.ref b), .val (.int (Int32.ofNat (o + i))), .val (.ref d), .val (.int (Int32.ofNat (q + i))), .val (.int (Int32.ofNat len)), .val (.int (Int32.ofNat i)), .val (.int (cv A (o + i)))] [.int (lo8 (cv A (o + i))), .int (Int32.ofNat (q + i)), .ref d])) := c5.trans (by
        refine XS.iload Xl.here hexec rfl (hb hbytes d15) rfl ?_
        refine sipushV Xl.here hexec rfl 255 (hb hbytes d17) (by decide) ?_
        refine XS.icmpYes Xl.here hexec rfl (pc0 := 20) rfl (hb hbytes d20) rfl (ii_le_t (hp i (by omega))) (by decide) rfl ?_
        refine XS.aloadN Xl.here hexec rfl (hb hbytes d26) rfl rfl ?_
        refine XS.iloadN Xl.here hexec rfl (hb hbytes d27) rfl ?_
        refine XS.iload Xl.here hexec rfl (hb hbytes d28) rfl ?_
        refine i2b Xl.here hexec rfl (hb hbytes d30) rfl ?_
        exact Steps.refl _)
      obtain ⟨T7, X7, p7, st7⟩ := Xl.aput hexec hBk rfl hlt rfl (fits_lo8 (cv A (o + i))) (g := (mkF m 31 #[.val (.ref b), .val (.int (Int32.ofNat (o + i))), .val (.ref d), .val (.int (Int32.ofNat (q + i))), .val (.int (Int32.ofNat len)), .val (.int (Int32.ofNat i)), .val (.int (cv A (o + i)))] [.int (lo8 (cv A (o + i))), .int (Int32.ofNat (q + i)), .ref d])) rfl (rest := []) rfl (hb hbytes d31)
      have c8 : Steps p.tables e below (s₁.setTop (entryFrame m #[.ref b, .int (Int32.ofNat o), .ref d, .int (Int32.ofNat q), .int (Int32.ofNat len)] 7)) (T7.setTop (mkF m 32 #[.val (.ref b), .val (.int (Int32.ofNat (o + i))), .val (.ref d), .val (.int (Int32.ofNat (q + i))), .val (.int (Int32.ofNat len)), .val (.int (Int32.ofNat i)), .val (.int (cv A (o + i)))] [])) := c6.trans (st7 _ (Steps.refl _))
      have c9 : Steps p.tables e below (s₁.setTop (entryFrame m #[.ref b, .int (Int32.ofNat o), .ref d, .int (Int32.ofNat q), .int (Int32.ofNat len)] 7)) (T7.setTop (mkF m 3 #[.val (.ref b), .val (.int (Int32.ofNat (o + i) + 1)), .val (.ref d), .val (.int (Int32.ofNat (q + i) + 1)), .val (.int (Int32.ofNat len)), .val (.int (Int32.ofNat i + 1)), .val (.int (cv A (o + i)))] [])) := c8.trans (by
        refine iincV X7.here hexec rfl 1 (hb hbytes d32) (by decide) rfl rfl ?_
        refine iincV X7.here hexec rfl 1 (hb hbytes d35) (by decide) rfl rfl ?_
        refine iincV X7.here hexec rfl 1 (hb hbytes d38) (by decide) rfl rfl ?_
        refine XS.goto X7.here hexec rfl (pc0 := 41) rfl (hb hbytes d41) (by decide) rfl ?_
        exact Steps.refl _)
      have c10 : Steps p.tables e below (s₁.setTop (entryFrame m #[.ref b, .int (Int32.ofNat o), .ref d, .int (Int32.ofNat q), .int (Int32.ofNat len)] 7)) (T7.setTop (mkF m 3 #[.val (.ref b), .val (.int (Int32.ofNat (o + (i + 1)))), .val (.ref d), .val (.int (Int32.ofNat (q + (i + 1)))), .val (.int (Int32.ofNat len)), .val (.int (Int32.ofNat (i + 1))), .val (.int (cv A (o + i)))] [])) := by
        have := c9
        rw [succ32, succ32, succ32] at this
        exact this
      exact ih (i + 1) (by omega) _ (Or.inr ⟨_, rfl, rfl⟩) T7 _ (by rw [copyLocs_step, ← List.append_assoc]; exact X7) (pl.trans p7) (fl.step (by omega) hlt (by simp)) c10
  obtain ⟨T9, B9, z9, X9, p9, f9, g9⟩ := loop len 0 (by omega) .unset (Or.inl rfl) s₁ B (by simpa [copyLocs] using X0) ⟨hB0.1, fun _ _ => rfl, rfl⟩ (Laid.zero _ _ _) c2
  have c11 : Steps p.tables e below (s₁.setTop (entryFrame m #[.ref b, .int (Int32.ofNat o), .ref d, .int (Int32.ofNat q), .int (Int32.ofNat len)] 7)) (T9.setTop (mkF m 46 #[.val (.ref b), .val (.int (Int32.ofNat (o + len))), .val (.ref d), .val (.int (Int32.ofNat (q + len))), .val (.int (Int32.ofNat len)), .val (.int (Int32.ofNat len)), z9] [.int (Int32.ofNat len)])) := g9.trans (by
    refine XS.iload X9.here hexec rfl (hb hbytes d3) rfl ?_
    refine XS.iload X9.here hexec rfl (hb hbytes d5) rfl ?_
    refine XS.icmpYes X9.here hexec rfl (pc0 := 7) rfl (hb hbytes d7) rfl (ii_ge_t (nlt32 (by omega) (Nat.le_refl _))) (by decide) rfl ?_
    refine XS.iload X9.here hexec rfl (hb hbytes d44) rfl ?_
    exact Steps.refl _)
  exact ⟨T9, some (.int (Int32.ofNat len)), _, _, _, X9, by simp, rfl, rfl, (fun h => by cases h), ⟨rfl, B9, p9.from hh0, f9⟩, fun fs hl => c11.trans (X9.ireturnOut hexec hret rfl (Or.inl rfl) (hb hbytes d46) hl)⟩
end Cmp5
namespace Cmp3
def yN : MethodName := ⟨"java/lang/StringUTF16", "compress", "([CII)[B"⟩
abbrev yB : ByteArray := jdk_52_method_16_code
theorem d0 : decode yB 0 = .ok (.iload_n 2, 1) := by decide +kernel
theorem d1 : decode yB 1 = .ok (.newarray .byte, 2) := by decide +kernel
theorem d3 : decode yB 3 = .ok (.astore_n 3, 1) := by decide +kernel
theorem d4 : decode yB 4 = .ok (.aload_n 0, 1) := by decide +kernel
theorem d5 : decode yB 5 = .ok (.iload_n 1, 1) := by decide +kernel
theorem d6 : decode yB 6 = .ok (.aload_n 3, 1) := by decide +kernel
theorem d7 : decode yB 7 = .ok (.iconst 0, 1) := by decide +kernel
theorem d8 : decode yB 8 = .ok (.iload_n 2, 1) := by decide +kernel
theorem d9 : decode yB 9 = .ok (.invokestatic 115, 3) := by decide +kernel
theorem d12 : decode yB 12 = .ok (.istore 4, 2) := by decide +kernel
theorem d14 : decode yB 14 = .ok (.iload 4, 2) := by decide +kernel
theorem d16 : decode yB 16 = .ok (.iload_n 2, 1) := by decide +kernel
theorem d17 : decode yB 17 = .ok (.if_icmp (.eq) 40, 3) := by decide +kernel
theorem d57 : decode yB 57 = .ok (.aload_n 3, 1) := by decide +kernel
theorem d58 : decode yB 58 = .ok (.areturn, 1) := by decide +kernel
def site : List Cond := [.arrayClass .byte, Cmp5.tab] ++ staticW U16 115 Cmp5.yN
def tab : Cond := tabOf yN yB 6 (some (.array .byte)) site
def P (b : Addr) (A : Cell) (o len : Nat) (args : Array Value) (s : State) : Prop := args = #[.ref b, .int (Int32.ofNat o), .int (Int32.ofNat len)] ∧ Ch b A s ∧ o + len ≤ A.slots.size ∧ len ≤ 536870912 ∧ ∀ i, i < len → ¬ 255 < cv A (o + i)
def E (b : Addr) (A : Cell) (o len : Nat) (r : Option Value) (s u : State) : Prop := NewArr .byte "[B" len (fun j => .int (lo8 (cv A (o + j)))) r s u ∧ u.heap.size = s.heap.size + 1
/-- no char of the range above 255: a new byte[] of their low bytes -/
theorem law (l : Launch) (b : Addr) (A : Cell) (o len : Nat) : Law l yN 3 3 1 18 yB 6 (some (.array .byte)) site (P b A o len) (E b A o len) [] 1 len := by
  refine Law.of_walk (plainFor_of_name (by decide +kernel)) (by decide +kernel) (by decide +kernel) (by decide) (fun _ _ h => by rw [h.1]; rfl) (fun _ U U' hal hh h => ⟨h.1, h.2.1.mv hal hh, h.2.2⟩) (fun r U U' V V' h1 hal h2 h => ⟨NewArr.mv r U U' V V' h1 hal h2 h.1, by rw [h1, h2]; exact h.2⟩) ?_
  intro p e s m args below meth c s₁ X0 hexec hbytes hml hret hlk hnm hown hh0 W hP
  obtain ⟨rfl, hA, l1, l2, hp⟩ := hP
  have a31 := hA.1.2.2.2
  have c1 : Steps p.tables e below (s₁.setTop (entryFrame m #[.ref b, .int (Int32.ofNat o), .int (Int32.ofNat len)] 6)) (s₁.setTop (mkF m 0 #[.val (.ref b), .val (.int (Int32.ofNat o)), .val (.int (Int32.ofNat len)), .unset, .unset, .unset] [])) := entry rfl
  have c2 : Steps p.tables e below (s₁.setTop (entryFrame m #[.ref b, .int (Int32.ofNat o), .int (Int32.ofNat len)] 6)) (s₁.setTop (mkF m 1 #[.val (.ref b), .val (.int (Int32.ofNat o)), .val (.int (Int32.ofNat len)), .unset, .unset, .unset] [.int (Int32.ofNat len)])) := c1.trans (by
    refine XS.iloadN X0.here hexec rfl (hb hbytes d0) rfl ?_
    exact Steps.refl _)
  obtain ⟨T3, B3, X3, ba3, bs3, bv3, bh3, bf3, st3⟩ := X0.anew hexec (atype := .byte) (wk W (.arrayClass .byte)) rfl (by show len * 1 ≤ _; omega) (by omega) (g := (mkF m 1 #[.val (.ref b), .val (.int (Int32.ofNat o)), .val (.int (Int32.ofNat len)), .unset, .unset, .unset] [.int (Int32.ofNat len)])) rfl (hb hbytes d1) (rest := []) rfl (Nat.le_refl _) (by show 0 + len ≤ len; omega)
  rw [hh0] at ba3 st3
  have kp3 : XT.Kept s T3 := (XT.Kept.of_eq hh0).push bh3
  have hA3 := hA.keep X3.warmed.alike (kp3 _ _ hA.1.1)
  have hne : b ≠ s.heap.size := hA.1.ne
  have c4 : Steps p.tables e below (s₁.setTop (entryFrame m #[.ref b, .int (Int32.ofNat o), .int (Int32.ofNat len)] 6)) (T3.setTop (mkF m 3 #[.val (.ref b), .val (.int (Int32.ofNat o)), .val (.int (Int32.ofNat len)), .unset, .unset, .unset] [.ref s.heap.size])) := c2.trans (st3 _ (Steps.refl _))
  have c5 : Steps p.tables e below (s₁.setTop (entryFrame m #[.ref b, .int (Int32.ofNat o), .int (Int32.ofNat len)] 6)) (T3.setTop (mkF m 9 #[.val (.ref b), .val (.int (Int32.ofNat o)), .val (.int (Int32.ofNat len)), .val (.ref s.heap.size), .unset, .unset] [.int (Int32.ofNat len), .int 0, .ref s.heap.size, .int (Int32.ofNat o), .ref b])) := c4.trans (by
    refine XS.astoreN X3.here hexec rfl (hb hbytes d3) rfl rfl rfl ?_
    refine XS.aloadN X3.here hexec rfl (hb hbytes d4) rfl rfl ?_
    refine XS.iloadN X3.here hexec rfl (hb hbytes d5) rfl ?_
    refine XS.aloadN X3.here hexec rfl (hb hbytes d6) rfl rfl ?_
    refine iconstV X3.here hexec rfl 0 (hb hbytes d7) (by decide) ?_
    refine XS.iloadN X3.here hexec rfl (hb hbytes d8) rfl ?_
    exact Steps.refl _)
  obtain ⟨v6, T6, X6, E6, g6⟩ := X3.callS hexec (Cmp5.law l b A s.heap.size B3 o 0 len) hown (wks W (staticW U16 115 Cmp5.yN)) (wk W Cmp5.tab) (W := 0) (Nat.le_of_ble_eq_true rfl) (Nat.le_of_ble_eq_true rfl) (Nat.le_refl _) (by show 0 + len + 0 ≤ len; omega) (g := (mkF m 9 #[.val (.ref b), .val (.int (Int32.ofNat o)), .val (.int (Int32.ofNat len)), .val (.ref s.heap.size), .unset, .unset] [.int (Int32.ofNat len), .int (Int32.ofNat 0), .ref s.heap.size, .int (Int32.ofNat o), .ref b])) rfl (by rw [hml]; rfl) c5 (argsL := [.ref b, .int (Int32.ofNat o), .ref s.heap.size, .int (Int32.ofNat 0), .int (Int32.ofNat len)]) (rest := []) rfl rfl (by show 2 * 0 + 0 ≤ _; decide) (hb hbytes d9) (⟨rfl, hA3, ba3, hne, l1, by rw [bs3]; simp, hp⟩)
  obtain ⟨rfl, B6, p6, f6⟩ := E6
  have c7 : Steps p.tables e below (s₁.setTop (entryFrame m #[.ref b, .int (Int32.ofNat o), .int (Int32.ofNat len)] 6)) (T6.setTop (mkF m 12 #[.val (.ref b), .val (.int (Int32.ofNat o)), .val (.int (Int32.ofNat len)), .val (.ref s.heap.size), .unset, .unset] [.int (Int32.ofNat len)])) := g6
  have c8 : Steps p.tables e below (s₁.setTop (entryFrame m #[.ref b, .int (Int32.ofNat o), .int (Int32.ofNat len)] 6)) (T6.setTop (mkF m 58 #[.val (.ref b), .val (.int (Int32.ofNat o)), .val (.int (Int32.ofNat len)), .val (.ref s.heap.size), .val (.int (Int32.ofNat len)), .unset] [.ref s.heap.size])) := c7.trans (by
    refine XS.istore X6.here hexec rfl (hb hbytes d12) rfl rfl ?_
    refine XS.iload X6.here hexec rfl (hb hbytes d14) rfl ?_
    refine XS.iloadN X6.here hexec rfl (hb hbytes d16) rfl ?_
    refine XS.icmpYes X6.here hexec rfl (pc0 := 17) rfl (hb hbytes d17) rfl (ii_eq_t rfl) (by decide) rfl ?_
    refine XS.aloadN X6.here hexec rfl (hb hbytes d57) rfl rfl ?_
    exact Steps.refl _)
  have X8 := X6.wide (L' := []) (cells' := 1) (slots' := len) (fun x hx hlt => by
    simp only [List.nil_append, copyLocs, List.mem_map, List.mem_range] at hx
    obtain ⟨i, -, rfl⟩ := hx
    exact absurd hlt (Nat.lt_irrefl _)) (Nat.le_refl _) (by omega)
  exact ⟨T6, some (.ref s.heap.size), _, _, _, X8, rfl, rfl, rfl, (fun h => by cases h), ⟨⟨rfl, B6, ba3.like (X3.warmed.alike.symm.trans X6.warmed.alike) p6.1 f6.1 f6.2.1 f6.2.2.1, f6.2.1.trans bv3, by rw [X6.warmed.alike.findClass, f6.1]; exact bf3, by rw [f6.2.2.1, bs3]; simp, fun j hj => by rw [f6.2.2.2 j, if_pos (by omega)]; rfl, kp3.put p6 (Nat.le_refl _)⟩, by rw [p6.2.2, bh3, hh0]; simp⟩, fun fs hl => c8.trans (X8.areturnOut hexec rfl hret rfl (hb hbytes d58) hl)⟩
end Cmp3
namespace CodL
def yN : MethodName := ⟨"java/lang/StringUTF16", "coderFromArrayLen", "([BI)B"⟩
abbrev yB : ByteArray := jdk_52_method_15_code
theorem d0 : decode yB 0 = .ok (.iload_n 1, 1) := by decide +kernel
theorem d1 : decode yB 1 = .ok (.aload_n 0, 1) := by decide +kernel
theorem d2 : decode yB 2 = .ok (.arraylength, 1) := by decide +kernel
theorem d3 : decode yB 3 = .ok (.isub, 1) := by decide +kernel
theorem d4 : decode yB 4 = .ok (.bipush 31, 2) := by decide +kernel
theorem d6 : decode yB 6 = .ok (.iushr, 1) := by decide +kernel
theorem d7 : decode yB 7 = .ok (.i2b, 1) := by decide +kernel
theorem d8 : decode yB 8 = .ok (.ireturn, 1) := by decide +kernel
def site : List Cond := []
def tab : Cond := tabOf yN yB 2 (some .byte) site
def P (d : Addr) (B : Cell) (args : Array Value) (s : State) : Prop := args = #[.ref d, .int (Int32.ofNat B.slots.size)] ∧ Arr .byte d B s
def E (r : Option Value) (s u : State) : Prop := XT.PureE (some (.int 0)) r s u
/-- an array as long as the number of chars: LATIN1 -/
theorem law (l : Launch) (d : Addr) (B : Cell) : Law l yN 2 2 0 0 yB 2 (some .byte) site (P d B) E [] 0 0 := by
  refine Law.of_walk (plainFor_of_name (by decide +kernel)) (by decide +kernel) (by decide +kernel) (by decide) (fun _ _ h => by rw [h.1]; rfl) (fun _ U U' hal hh h => ⟨h.1, h.2.mv hal hh⟩) (fun r U U' V V' h1 hal h2 h => XT.PureE.mv r U U' V V' h1 hal h2 h) ?_
  intro p e s m args below meth c s₁ X0 hexec hbytes hml hret hlk hnm hown hh0 W hP
  obtain ⟨rfl, hB⟩ := hP
  have hB0 := hB.mv X0.warmed.alike hh0
  have c1 : Steps p.tables e below (s₁.setTop (entryFrame m #[.ref d, .int (Int32.ofNat B.slots.size)] 2)) (s₁.setTop (mkF m 0 #[.val (.ref d), .val (.int (Int32.ofNat B.slots.size))] [])) := entry rfl
  have c2 : Steps p.tables e below (s₁.setTop (entryFrame m #[.ref d, .int (Int32.ofNat B.slots.size)] 2)) (s₁.setTop (mkF m 2 #[.val (.ref d), .val (.int (Int32.ofNat B.slots.size))] [.ref d, .int (Int32.ofNat B.slots.size)])) := c1.trans (by
    refine XS.iloadN X0.here hexec rfl (hb hbytes d0) rfl ?_
    refine XS.aloadN X0.here hexec rfl (hb hbytes d1) rfl rfl ?_
    exact Steps.refl _)
  have c3 : Steps p.tables e below (s₁.setTop (entryFrame m #[.ref d, .int (Int32.ofNat B.slots.size)] 2)) (s₁.setTop (mkF m 8 #[.val (.ref d), .val (.int (Int32.ofNat B.slots.size))] [.int (lo8 (ushr (Int32.ofNat B.slots.size - Int32.ofNat B.slots.size) 31))])) := c2.trans (by
    refine X0.alen hexec hB0 rfl rfl (hb hbytes d2) ?_
    refine XS.isub X0.here hexec rfl (hb hbytes d3) rfl ?_
    refine bipushV X0.here hexec rfl 31 (hb hbytes d4) (by decide) ?_
    refine iushr X0.here hexec rfl (hb hbytes d6) rfl ?_
    refine i2b X0.here hexec rfl (hb hbytes d7) rfl ?_
    exact Steps.refl _)
  have e0 : lo8 (ushr (Int32.ofNat B.slots.size - Int32.ofNat B.slots.size) 31) = 0 := by rw [Int32.sub_self]; decide
  rw [e0] at c3
  exact ⟨s₁, some (.int 0), _, _, _, X0, rfl, rfl, rfl, (fun h => by cases h), ⟨rfl, hh0⟩, fun fs hl => c3.trans (X0.ireturnOut hexec hret rfl (Or.inr (Or.inr (Or.inl rfl))) (hb hbytes d8) hl)⟩
end CodL
/-- the String at a is Latin-1 over a new byte[] (the heap's one new cell): the low bytes of the len chars of A from o on; every cell but a is kept -/
def Got (a : Addr) (D : Cell) (fV fC : Field) (A : Cell) (o len : Nat) (r : Option Value) (s u : State) : Prop := r = none ∧ ∃ D' V : Cell, Blank "java/lang/String" a D' u ∧ Same D D' [fV.slot, fC.slot] ∧ D'.slots[fV.slot]? = some (.ref s.heap.size) ∧ D'.slots[fC.slot]? = some (.int 0) ∧ Arr .byte s.heap.size V u ∧ V.vm = .none ∧ u.vm.findClass "[B" = some V.cls ∧ V.slots.size = len ∧ (∀ j, j < len → V.slots[j]? = some (.int (lo8 (cv A (o + j))))) ∧ (∀ (y : Addr) (c : Cell), y ≠ a → s.heap[y]? = some c → u.heap[y]? = some c) ∧ u.heap.size = s.heap.size + 1
theorem Got.mv {a : Addr} {D A : Cell} {fV fC : Field} {o len : Nat} : ∀ r (U U' V V' : State), U'.heap = U.heap → V.vm.Alike V'.vm → V'.heap = V.heap → Got a D fV fC A o len r U V → Got a D fV fC A o len r U' V' :=
  fun r U U' V V' h1 hal h2 ⟨e0, D', X, a1, a2, a3, a4, a5, a6, a7, a8, a9, a10, a11⟩ => ⟨e0, D', X, a1.mv hal h2, a2, by rw [h1]; exact a3, a4, by rw [h1]; exact a5.mv hal h2, a6, by rw [hal.findClass]; exact a7, a8, a9, by rw [h1, h2]; exact a10, by rw [h1, h2]; exact a11⟩
namespace New4
def yN : MethodName := ⟨"java/lang/String", "<init>", "([CIILjava/lang/Void;)V"⟩
abbrev yB : ByteArray := jdk_42_method_149_code
theorem d0 : decode yB 0 = .ok (.aload_n 0, 1) := by decide +kernel
theorem d1 : decode yB 1 = .ok (.invokespecial 1, 3) := by decide +kernel
theorem d4 : decode yB 4 = .ok (.iload_n 3, 1) := by decide +kernel
theorem d5 : decode yB 5 = .ok (.ifCond (.ne) 22, 3) := by decide +kernel
theorem d27 : decode yB 27 = .ok (.getstatic 38, 3) := by decide +kernel
theorem d30 : decode yB 30 = .ok (.ifCond (.eq) 28, 3) := by decide +kernel
theorem d33 : decode yB 33 = .ok (.aload_n 1, 1) := by decide +kernel
theorem d34 : decode yB 34 = .ok (.iload_n 2, 1) := by decide +kernel
theorem d35 : decode yB 35 = .ok (.iload_n 3, 1) := by decide +kernel
theorem d36 : decode yB 36 = .ok (.invokestatic 177, 3) := by decide +kernel
theorem d39 : decode yB 39 = .ok (.astore 5, 2) := by decide +kernel
theorem d41 : decode yB 41 = .ok (.aload_n 0, 1) := by decide +kernel
theorem d42 : decode yB 42 = .ok (.aload 5, 2) := by decide +kernel
theorem d44 : decode yB 44 = .ok (.iload_n 3, 1) := by decide +kernel
theorem d45 : decode yB 45 = .ok (.invokestatic 47, 3) := by decide +kernel
theorem d48 : decode yB 48 = .ok (.putfield 15, 3) := by decide +kernel
theorem d51 : decode yB 51 = .ok (.aload_n 0, 1) := by decide +kernel
theorem d52 : decode yB 52 = .ok (.aload 5, 2) := by decide +kernel
theorem d54 : decode yB 54 = .ok (.putfield 9, 3) := by decide +kernel
theorem d57 : decode yB 57 = .ok (.return_, 1) := by decide +kernel
def site : List Cond := [.fieldLink "java/lang/String" 38 "java/lang/String" "COMPACT_STRINGS" "Z", Cmp3.tab, CodL.tab, .laysFinal "java/lang/String" "java/lang/String" "value" "[B", .fieldLink "java/lang/String" 9 "java/lang/String" "value" "[B", .laysFinal "java/lang/String" "java/lang/String" "coder" "B", .fieldLink "java/lang/String" 15 "java/lang/String" "coder" "B"] ++ objW "java/lang/String" 1 ++ staticW "java/lang/String" 177 Cmp3.yN ++ staticW "java/lang/String" 47 CodL.yN
def tab : Cond := tabOf yN yB 6 none site
def P (a : Addr) (D : Cell) (fV fC : Field) (b : Addr) (A : Cell) (z : Int32) (o len : Nat) (args : Array Value) (s : State) : Prop := args = #[.ref a, .ref b, .int (Int32.ofNat o), .int (Int32.ofNat len), .null] ∧ Blank "java/lang/String" a D s ∧ Found "java/lang/String" "value" "[B" fV s ∧ Found "java/lang/String" "coder" "B" fC s ∧ Ch b A s ∧ StaticIs s "java/lang/String" "COMPACT_STRINGS" "Z" (.int z) ∧ ¬ z = 0 ∧ 0 < len ∧ o + len ≤ A.slots.size ∧ len ≤ 536870912 ∧ ∀ i, i < len → ¬ 255 < cv A (o + i)
def E (a : Addr) (D : Cell) (fV fC : Field) (A : Cell) (o len : Nat) (r : Option Value) (s u : State) : Prop := Got a D fV fC A o len r s u
/-- len > 0, no char of the range above 255: a Latin-1 String of their low bytes -/
theorem law (l : Launch) (a : Addr) (D : Cell) (fV fC : Field) (b : Addr) (A : Cell) (z : Int32) (o len : Nat) : Law l yN 5 4 2 35 yB 6 none site (P a D fV fC b A z o len) (E a D fV fC A o len) [⟨a, fC.slot⟩, ⟨a, fV.slot⟩] 1 len := by
  refine Law.of_walk (plainFor_of_name (by decide +kernel)) (by decide +kernel) (by decide +kernel) (by decide) (fun _ _ h => by rw [h.1]; rfl) (fun _ U U' hal hh h => ⟨h.1, h.2.1.mv hal hh, h.2.2.1.al hal, h.2.2.2.1.al hal, h.2.2.2.2.1.mv hal hh, h.2.2.2.2.2.1.there hal hh, h.2.2.2.2.2.2⟩) (fun r U U' V V' h1 hal h2 h => Got.mv r U U' V V' h1 hal h2 h) ?_
  intro p e s m args below meth c s₁ X0 hexec hbytes hml hret hlk hnm hown hh0 W hP
  obtain ⟨rfl, hB, f1, f2, hA, s1, hz, l0, l1, l2, hp⟩ := hP
  have a31 := hA.1.2.2.2
  have c1 : Steps p.tables e below (s₁.setTop (entryFrame m #[.ref a, .ref b, .int (Int32.ofNat o), .int (Int32.ofNat len), .null] 6)) (s₁.setTop (mkF m 0 #[.val (.ref a), .val (.ref b), .val (.int (Int32.ofNat o)), .val (.int (Int32.ofNat len)), .val .null, .unset] [])) := entry rfl
  have c2 : Steps p.tables e below (s₁.setTop (entryFrame m #[.ref a, .ref b, .int (Int32.ofNat o), .int (Int32.ofNat len), .null] 6)) (s₁.setTop (mkF m 1 #[.val (.ref a), .val (.ref b), .val (.int (Int32.ofNat o)), .val (.int (Int32.ofNat len)), .val .null, .unset] [.ref a])) := c1.trans (by
    refine XS.aloadN X0.here hexec rfl (hb hbytes d0) rfl rfl ?_
    exact Steps.refl _)
  obtain ⟨T3, X3, q3, st3⟩ := X0.oinit hexec hown (wks W (objW "java/lang/String" 1)) (g := (mkF m 1 #[.val (.ref a), .val (.ref b), .val (.int (Int32.ofNat o)), .val (.int (Int32.ofNat len)), .val .null, .unset] [.ref a])) rfl (by rw [hml]; rfl) (rest := []) rfl (hb hbytes d1) (W := 0) (by show 2 * 0 + 0 ≤ _; decide) (Nat.le_of_ble_eq_true rfl) (Nat.le_of_ble_eq_true rfl)
  have hh3 := q3.trans hh0
  have c4 : Steps p.tables e below (s₁.setTop (entryFrame m #[.ref a, .ref b, .int (Int32.ofNat o), .int (Int32.ofNat len), .null] 6)) (T3.setTop (mkF m 27 #[.val (.ref a), .val (.ref b), .val (.int (Int32.ofNat o)), .val (.int (Int32.ofNat len)), .val .null, .unset] [])) := (c2.trans (st3 _ (Steps.refl _))).trans (by
    refine XS.iloadN X3.here hexec rfl (hb hbytes d4) rfl ?_
    refine XS.ifYes X3.here hexec rfl (pc0 := 5) rfl (hb hbytes d5) rfl (i0_ne_t (nz32 (by omega) l0)) (by decide) rfl ?_
    exact Steps.refl _)
  obtain ⟨T5, X5, q5, st5⟩ := X3.sget hexec hown (wk W (.fieldLink "java/lang/String" 38 "java/lang/String" "COMPACT_STRINGS" "Z")) s1 (fun _ _ h => by rw [hh3]; exact h) (g := (mkF m 27 #[.val (.ref a), .val (.ref b), .val (.int (Int32.ofNat o)), .val (.int (Int32.ofNat len)), .val .null, .unset] [])) rfl (hb hbytes d27)
  have hh5 := q5.trans hh3
  have c6 : Steps p.tables e below (s₁.setTop (entryFrame m #[.ref a, .ref b, .int (Int32.ofNat o), .int (Int32.ofNat len), .null] 6)) (T5.setTop (mkF m 30 #[.val (.ref a), .val (.ref b), .val (.int (Int32.ofNat o)), .val (.int (Int32.ofNat len)), .val .null, .unset] [.int z])) := c4.trans (st5 _ (Steps.refl _))
  have c7 : Steps p.tables e below (s₁.setTop (entryFrame m #[.ref a, .ref b, .int (Int32.ofNat o), .int (Int32.ofNat len), .null] 6)) (T5.setTop (mkF m 36 #[.val (.ref a), .val (.ref b), .val (.int (Int32.ofNat o)), .val (.int (Int32.ofNat len)), .val .null, .unset] [.int (Int32.ofNat len), .int (Int32.ofNat o), .ref b])) := c6.trans (by
    refine XS.ifNo X5.here hexec rfl (hb hbytes d30) rfl (i0_eq_f hz) ?_
    refine XS.aloadN X5.here hexec rfl (hb hbytes d33) rfl rfl ?_
    refine XS.iloadN X5.here hexec rfl (hb hbytes d34) rfl ?_
    refine XS.iloadN X5.here hexec rfl (hb hbytes d35) rfl ?_
    exact Steps.refl _)
  obtain ⟨v8, T8, X8, E8, g8⟩ := X5.callS hexec (Cmp3.law l b A o len) hown (wks W (staticW "java/lang/String" 177 Cmp3.yN)) (wk W Cmp3.tab) (W := 0) (Nat.le_of_ble_eq_true rfl) (Nat.le_of_ble_eq_true rfl) (Nat.le_refl _) (by show 0 + len ≤ len; omega) (g := (mkF m 36 #[.val (.ref a), .val (.ref b), .val (.int (Int32.ofNat o)), .val (.int (Int32.ofNat len)), .val .null, .unset] [.int (Int32.ofNat len), .int (Int32.ofNat o), .ref b])) rfl (by rw [hml]; rfl) c7 (argsL := [.ref b, .int (Int32.ofNat o), .int (Int32.ofNat len)]) (rest := []) rfl rfl (by show 2 * 0 + 0 ≤ _; decide) (hb hbytes d36) (⟨rfl, hA.mv X5.warmed.alike hh5, l1, l2, hp⟩)
  obtain ⟨e8, z8⟩ := E8
  obtain ⟨rfl, N, n1, n2, n3, n4, n5, n6⟩ := NewArr.mv _ T5 s _ _ hh5.symm (Vm.Alike.refl _) rfl e8
  rw [hh5] at z8
  have hB1 := hB.keep X8.warmed.alike (n6 _ _ hB.1)
  have hne : s.heap.size ≠ a := (Nat.ne_of_lt (Array.getElem?_eq_some_iff.mp hB.1).1).symm
  have c9 : Steps p.tables e below (s₁.setTop (entryFrame m #[.ref a, .ref b, .int (Int32.ofNat o), .int (Int32.ofNat len), .null] 6)) (T8.setTop (mkF m 39 #[.val (.ref a), .val (.ref b), .val (.int (Int32.ofNat o)), .val (.int (Int32.ofNat len)), .val .null, .unset] [.ref s.heap.size])) := g8
  have c10 : Steps p.tables e below (s₁.setTop (entryFrame m #[.ref a, .ref b, .int (Int32.ofNat o), .int (Int32.ofNat len), .null] 6)) (T8.setTop (mkF m 45 #[.val (.ref a), .val (.ref b), .val (.int (Int32.ofNat o)), .val (.int (Int32.ofNat len)), .val .null, .val (.ref s.heap.size)] [.int (Int32.ofNat N.slots.size), .ref s.heap.size, .ref a])) := by
    have hc : Steps p.tables e below (s₁.setTop (entryFrame m #[.ref a, .ref b, .int (Int32.ofNat o), .int (Int32.ofNat len), .null] 6)) (T8.setTop (mkF m 45 #[.val (.ref a), .val (.ref b), .val (.int (Int32.ofNat o)), .val (.int (Int32.ofNat len)), .val .null, .val (.ref s.heap.size)] [.int (Int32.ofNat len), .ref s.heap.size, .ref a])) := c9.trans (by
      refine XS.astore X8.here hexec rfl (hb hbytes d39) rfl rfl rfl ?_
      refine XS.aloadN X8.here hexec rfl (hb hbytes d41) rfl rfl ?_
      refine XS.aload X8.here hexec rfl (hb hbytes d42) rfl rfl ?_
      refine XS.iloadN X8.here hexec rfl (hb hbytes d44) rfl ?_
      exact Steps.refl _)
    rw [n4]; exact hc
  obtain ⟨v11, T11, X11, E11, g11⟩ := X8.callS hexec (CodL.law l s.heap.size N) hown (wks W (staticW "java/lang/String" 47 CodL.yN)) (wk W CodL.tab) (W := 1) (Nat.le_of_ble_eq_true rfl) (Nat.le_of_ble_eq_true rfl) (Nat.le_refl _) (by show 0 + len + 0 ≤ len; omega) (g := (mkF m 45 #[.val (.ref a), .val (.ref b), .val (.int (Int32.ofNat o)), .val (.int (Int32.ofNat len)), .val .null, .val (.ref s.heap.size)] [.int (Int32.ofNat N.slots.size), .ref s.heap.size, .ref a])) rfl (by rw [hml]; rfl) c10 (argsL := [.ref s.heap.size, .int (Int32.ofNat N.slots.size)]) (rest := [.ref a]) rfl rfl (by show 2 * 0 + (1 + 0) ≤ _; decide) (hb hbytes d45) (⟨rfl, n1⟩)
  obtain ⟨rfl, q11⟩ := E11
  have hB11 := hB1.mv (X8.warmed.alike.symm.trans X11.warmed.alike) q11
  have c12 : Steps p.tables e below (s₁.setTop (entryFrame m #[.ref a, .ref b, .int (Int32.ofNat o), .int (Int32.ofNat len), .null] 6)) (T11.setTop (mkF m 48 #[.val (.ref a), .val (.ref b), .val (.int (Int32.ofNat o)), .val (.int (Int32.ofNat len)), .val .null, .val (.ref s.heap.size)] [.int 0, .ref a])) := g11
  obtain ⟨T13, X13, p13, bl13, sl13, st13⟩ := X11.finit hexec hown (wk W (.fieldLink "java/lang/String" 15 "java/lang/String" "coder" "B")) (Or.inr ⟨_, (wk W (.laysFinal "java/lang/String" "java/lang/String" "coder" "B"))⟩) (Or.inl ⟨rfl, hnm⟩) f2 (Or.inl rfl) hB11 (t := .byte) (by decide +kernel) rfl (g := (mkF m 48 #[.val (.ref a), .val (.ref b), .val (.int (Int32.ofNat o)), .val (.int (Int32.ofNat len)), .val .null, .val (.ref s.heap.size)] [.int 0, .ref a])) rfl (rest := []) rfl (hb hbytes d48)
  have c14 : Steps p.tables e below (s₁.setTop (entryFrame m #[.ref a, .ref b, .int (Int32.ofNat o), .int (Int32.ofNat len), .null] 6)) (T13.setTop (mkF m 54 #[.val (.ref a), .val (.ref b), .val (.int (Int32.ofNat o)), .val (.int (Int32.ofNat len)), .val .null, .val (.ref s.heap.size)] [.ref s.heap.size, .ref a])) := (c12.trans (st13 _ (Steps.refl _))).trans (by
    refine XS.aloadN X13.here hexec rfl (hb hbytes d51) rfl rfl ?_
    refine XS.aload X13.here hexec rfl (hb hbytes d52) rfl rfl ?_
    exact Steps.refl _)
  obtain ⟨T15, X15, p15, bl15, sl15, st15⟩ := X13.finit hexec hown (wk W (.fieldLink "java/lang/String" 9 "java/lang/String" "value" "[B")) (Or.inr ⟨_, (wk W (.laysFinal "java/lang/String" "java/lang/String" "value" "[B"))⟩) (Or.inl ⟨rfl, hnm⟩) f1 (Or.inl rfl) bl13 (t := (.array .byte)) (by decide +kernel) rfl (g := (mkF m 54 #[.val (.ref a), .val (.ref b), .val (.int (Int32.ofNat o)), .val (.int (Int32.ofNat len)), .val .null, .val (.ref s.heap.size)] [.ref s.heap.size, .ref a])) rfl (rest := []) rfl (hb hbytes d54)
  have c16 : Steps p.tables e below (s₁.setTop (entryFrame m #[.ref a, .ref b, .int (Int32.ofNat o), .int (Int32.ofNat len), .null] 6)) (T15.setTop (mkF m 57 #[.val (.ref a), .val (.ref b), .val (.int (Int32.ofNat o)), .val (.int (Int32.ofNat len)), .val .null, .val (.ref s.heap.size)] [])) := c14.trans (st15 _ (Steps.refl _))
  have ap := apart (Or.inr ⟨_, (wk W (.laysFinal "java/lang/String" "java/lang/String" "value" "[B"))⟩) (Or.inr ⟨_, (wk W (.laysFinal "java/lang/String" "java/lang/String" "coder" "B"))⟩) f1 f2 (t₁ := .array .byte) (t₂ := .byte) (by decide +kernel) (by decide +kernel) (by decide)
  have al := X8.warmed.alike.symm.trans X15.warmed.alike
  have n7 : T11.heap[s.heap.size]? = some N := by rw [q11]; exact n1.1
  exact ⟨T15, none, _, _, _, X15, by simp, rfl, by omega, (fun _ => rfl), ⟨rfl, _, N, bl15, ((Same.refl D _).set _ (by simp)).set _ (by simp), sl15, (Cell.slots_setSlot_ne _ ap).trans sl13, n1.keep al (p15.other hne (p13.other hne n7)), n2, by rw [al.findClass]; exact n3, n4, n5, fun y c h1 h2 => p15.other h1 (p13.other h1 (by rw [q11]; exact n6 y c h2)), by rw [p15.2.2, p13.2.2, q11]; exact z8⟩, fun fs hl => c16.trans (X15.returnOut hexec hret (hb hbytes d57) hl)⟩
end New4
namespace New1
def yN : MethodName := ⟨"java/lang/String", "<init>", "([C)V"⟩
abbrev yB : ByteArray := jdk_42_method_3_code
theorem d0 : decode yB 0 = .ok (.aload_n 0, 1) := by decide +kernel
theorem d1 : decode yB 1 = .ok (.aload_n 1, 1) := by decide +kernel
theorem d2 : decode yB 2 = .ok (.iconst 0, 1) := by decide +kernel
theorem d3 : decode yB 3 = .ok (.aload_n 1, 1) := by decide +kernel
theorem d4 : decode yB 4 = .ok (.arraylength, 1) := by decide +kernel
theorem d5 : decode yB 5 = .ok (.aconst_null, 1) := by decide +kernel
theorem d6 : decode yB 6 = .ok (.invokespecial 27, 3) := by decide +kernel
theorem d9 : decode yB 9 = .ok (.return_, 1) := by decide +kernel
def site : List Cond := [New4.tab] ++ initW "java/lang/String" 27 New4.yN
def tab : Cond := tabOf yN yB 2 none site
def P (a : Addr) (D : Cell) (fV fC : Field) (b : Addr) (A : Cell) (z : Int32) (args : Array Value) (s : State) : Prop := args = #[.ref a, .ref b] ∧ Blank "java/lang/String" a D s ∧ Found "java/lang/String" "value" "[B" fV s ∧ Found "java/lang/String" "coder" "B" fC s ∧ Ch b A s ∧ StaticIs s "java/lang/String" "COMPACT_STRINGS" "Z" (.int z) ∧ ¬ z = 0 ∧ 0 < A.slots.size ∧ A.slots.size ≤ 536870912 ∧ ∀ i, i < A.slots.size → ¬ 255 < cv A i
def E (a : Addr) (D : Cell) (fV fC : Field) (A : Cell) (r : Option Value) (s u : State) : Prop := Got a D fV fC A 0 A.slots.size r s u
/-- new String(chars), not empty, no char above 255: a Latin-1 String of their low bytes -/
theorem law (l : Launch) (a : Addr) (D : Cell) (fV fC : Field) (b : Addr) (A : Cell) (z : Int32) : Law l yN 2 1 3 52 yB 2 none site (P a D fV fC b A z) (E a D fV fC A) [⟨a, fC.slot⟩, ⟨a, fV.slot⟩] 1 A.slots.size := by
  refine Law.of_walk (plainFor_of_name (by decide +kernel)) (by decide +kernel) (by decide +kernel) (by decide) (fun _ _ h => by rw [h.1]; rfl) (fun _ U U' hal hh h => ⟨h.1, h.2.1.mv hal hh, h.2.2.1.al hal, h.2.2.2.1.al hal, h.2.2.2.2.1.mv hal hh, h.2.2.2.2.2.1.there hal hh, h.2.2.2.2.2.2⟩) (fun r U U' V V' h1 hal h2 h => Got.mv r U U' V V' h1 hal h2 h) ?_
  intro p e s m args below meth c s₁ X0 hexec hbytes hml hret hlk hnm hown hh0 W hP
  obtain ⟨rfl, hB, f1, f2, hA, s1, hz, l0, l2, hp⟩ := hP
  have c1 : Steps p.tables e below (s₁.setTop (entryFrame m #[.ref a, .ref b] 2)) (s₁.setTop (mkF m 0 #[.val (.ref a), .val (.ref b)] [])) := entry rfl
  have c2 : Steps p.tables e below (s₁.setTop (entryFrame m #[.ref a, .ref b] 2)) (s₁.setTop (mkF m 6 #[.val (.ref a), .val (.ref b)] [.null, .int (Int32.ofNat A.slots.size), .int 0, .ref b, .ref a])) := c1.trans (by
    refine XS.aloadN X0.here hexec rfl (hb hbytes d0) rfl rfl ?_
    refine XS.aloadN X0.here hexec rfl (hb hbytes d1) rfl rfl ?_
    refine iconstV X0.here hexec rfl 0 (hb hbytes d2) (by decide) ?_
    refine XS.aloadN X0.here hexec rfl (hb hbytes d3) rfl rfl ?_
    refine X0.alen hexec (hA.1.mv X0.warmed.alike hh0) rfl rfl (hb hbytes d4) ?_
    refine XS.aconstNull X0.here hexec rfl (hb hbytes d5) ?_
    exact Steps.refl _)
  obtain ⟨v3, T3, X3, E3, g3⟩ := X0.callN hexec (New4.law l a D fV fC b A z 0 A.slots.size) rfl hown (wks W (initW "java/lang/String" 27 New4.yN)) (W New4.tab (by simp only [site, List.mem_cons, List.mem_append, true_or, or_true])) (W := 0) (Nat.le_of_ble_eq_true rfl) (Nat.le_of_ble_eq_true rfl) (Nat.le_refl _) (by show 0 + A.slots.size ≤ A.slots.size; omega) (g := (mkF m 6 #[.val (.ref a), .val (.ref b)] [.null, .int (Int32.ofNat A.slots.size), .int (Int32.ofNat 0), .ref b, .ref a])) rfl (by rw [hml]; rfl) c2 (argsL := [.ref b, .int (Int32.ofNat 0), .int (Int32.ofNat A.slots.size), .null]) (rest := []) rfl rfl (by show 2 * 0 + 0 ≤ _; decide) (hb hbytes d6) (⟨rfl, hB.mv X0.warmed.alike hh0, f1.al X0.warmed.alike, f2.al X0.warmed.alike, hA.mv X0.warmed.alike hh0, s1.there X0.warmed.alike hh0, hz, l0, by omega, l2, fun i hi => by rw [Nat.zero_add]; exact hp i hi⟩)
  have e0 := Got.mv _ s₁ s _ _ hh0.symm (Vm.Alike.refl _) rfl E3
  obtain rfl := e0.1
  have c4 : Steps p.tables e below (s₁.setTop (entryFrame m #[.ref a, .ref b] 2)) (T3.setTop (mkF m 9 #[.val (.ref a), .val (.ref b)] [])) := g3
  exact ⟨T3, none, _, _, _, X3, by simp, rfl, by omega, (fun _ => rfl), e0, fun fs hl => c4.trans (X3.returnOut hexec hret (hb hbytes d9) hl)⟩
theorem pays {l : Launch} {R : Room} {p : Program} {e : Env} {below : List Frame} {s : State} {sargs : Array Value} {len W : Nat} (a : Addr) (D : Cell) (fV fC : Field) (b : Addr) (A : Cell) (z : Int32) (htab : tab.before sargs s = true) (hfr : 4 ≤ R.frames) (hlo : W + 65 ≤ R.locals) :
    Back l R p e below s sargs yN len W (fun A₁ a₁ => A₁.cells + 1 ≤ R.cells ∧ A₁.slots + A.slots.size ≤ R.slots ∧ P a D fV fC b A z a₁ A₁.U) (fun A₁ _ v₁ B₁ => E a D fV fC A v₁ A₁.U B₁.U ∧ B₁.locs = A₁.locs ++ [⟨a, fC.slot⟩, ⟨a, fV.slot⟩] ∧ B₁.cells = A₁.cells + 1 ∧ B₁.slots = A₁.slots + A.slots.size) :=
  (law l a D fV fC b A z).pays htab hfr (by omega)
end New1
/-- the byte, read back as charAt reads it, is the char -/
theorem lo8_mask {x : Int32} (h0 : ¬ x < 0) (h1 : ¬ 255 < x) : lo8 x &&& 255 = x := by
  have t : ∀ k : Fin 256, lo8 (Int32.ofNat k.val) &&& 255 = Int32.ofNat k.val := by decide +kernel
  rw [Int32.lt_iff_toInt_lt] at h0 h1
  have e0 : (0 : Int32).toInt = 0 := rfl
  have e1 : (255 : Int32).toInt = 255 := rfl
  obtain ⟨k, hk⟩ : ∃ k : Nat, x.toInt = k := ⟨x.toInt.toNat, by omega⟩
  have hx : x = Int32.ofNat k := Int32.toInt_inj.mp (by rw [hk, Int32.toInt_ofNat_small (by omega)])
  rw [hx]
  exact t ⟨k, by omega⟩
end StrChars
namespace StrChars.Road
open Jvm Sem ClassFile Op Lib Jvm.Stand Jvm.Free Jvm.Free.XT
open Jvm.Lib.Cold (StaticIs)
abbrev ST : String := "java/lang/String"
/-- every table word that New1's law asks, flat -/
abbrev words : List Jvm.Cond := [.code New1.yN New1.yB 2 none, .initialized ST, .methodLink ST 27 New4.yN, .instanceMethod New4.yN,
  .code New4.yN New4.yB 6 none, .fieldLink ST 38 ST "COMPACT_STRINGS" "Z", .laysFinal ST ST "value" "[B", .fieldLink ST 9 ST "value" "[B", .laysFinal ST ST "coder" "B", .fieldLink ST 15 ST "coder" "B",
  .methodLink ST 1 Lib.objectInit, .instanceMethod Lib.objectInit, .code Lib.objectInit ⟨#[0xb1]⟩ 1 none, .methodLink ST 177 Cmp3.yN, .static Cmp3.yN, .methodLink ST 47 CodL.yN, .static CodL.yN,
  .code Cmp3.yN Cmp3.yB 6 (some (.array .byte)), .initialized U16, .arrayClass .byte, .methodLink U16 115 Cmp5.yN, .static Cmp5.yN, .code Cmp5.yN Cmp5.yB 7 (some .int), .code CodL.yN CodL.yB 2 (some .byte)]
theorem tab_of {a : Array Value} {s : State} (h : ∀ w ∈ words, w.before a s = true) : New1.tab.before a s = true := by
  have h5 : Cmp5.tab.before a s = true := unparts (wk h (.code Cmp5.yN Cmp5.yB 7 (some .int))) (wks h (.initialized Cmp5.yN.cls :: Cmp5.site))
  have hc : CodL.tab.before a s = true := unparts (wk h (.code CodL.yN CodL.yB 2 (some .byte))) (wks h (.initialized CodL.yN.cls :: CodL.site))
  have q5 : ∀ w ∈ Cmp5.tab :: words, w.before a s = true := fun w hw => (List.mem_cons.mp hw).elim (fun e => e ▸ h5) (h w)
  have h3 : Cmp3.tab.before a s = true := unparts (wk q5 (.code Cmp3.yN Cmp3.yB 6 (some (.array .byte)))) (wks q5 (.initialized Cmp3.yN.cls :: Cmp3.site))
  have q3 : ∀ w ∈ Cmp3.tab :: CodL.tab :: words, w.before a s = true := fun w hw => (List.mem_cons.mp hw).elim (fun e => e ▸ h3) fun hw => (List.mem_cons.mp hw).elim (fun e => e ▸ hc) (h w)
  have h4 : New4.tab.before a s = true := unparts (wk q3 (.code New4.yN New4.yB 6 none)) (wks q3 (.initialized New4.yN.cls :: New4.site))
  have q4 : ∀ w ∈ New4.tab :: words, w.before a s = true := fun w hw => (List.mem_cons.mp hw).elim (fun e => e ▸ h4) (h w)
  exact unparts (wk q4 (.code New1.yN New1.yB 2 none)) (wks q4 (.initialized New1.yN.cls :: New1.site))
/-- the words ride from the start Z to the walk's own state -/
theorem moved {Z s : State} {a0 args : Array Value} (hZ : Z.Warmed39 s.vm) (hw : ∀ d ∈ words, d.before a0 Z = true) : ∀ d ∈ words, d.before args s = true := fun d hd => by
  have q := hw d hd
  have t : ∀ d ∈ words, d = .arrayClass .byte ∨ (d.onTables && d.keepsFace) = true := by decide +kernel
  rcases t d hd with rfl | t
  · exact RoadKit.mvA hZ q
  · exact RoadKit.mv hZ q t
/-- WHAT COMES BACK, over the tables of the start Z: h the heap at the call, h' behind it -/
def Q (Z : State) (x : Addr) (A : Cell) (h : Heap) (v : Option Value) (h' : Heap) (L : List Loc) : Prop := v = none ∧ (∀ y ∈ L, y.base = x) ∧ RoadKit.Keep h h' [x] ∧ h'.size = h.size + 1 ∧ RoadKit.Exa Z h' x ST ∧ RoadKit.Fld Z h' x ST "value" "[B" (.ref h.size) ∧ RoadKit.Fld Z h' x ST "coder" "B" (.int 0) ∧
  (∃ V : Cell, RoadKit.Arr Z h' h.size V .byte ∧ V.vm = .none ∧ Z.vm.findClass "[B" = some V.cls ∧ V.slots.size = A.slots.size ∧ ∀ j, j < A.slots.size → V.slots[j]? = some (.int (lo8 (cv A j)))) ∧
  ∀ (O n d : String) (w : Value), RoadKit.Fld Z h x O n d w → RoadKit.slotOf Z O n d ≠ RoadKit.slotOf Z ST "value" "[B" → RoadKit.slotOf Z O n d ≠ RoadKit.slotOf Z ST "coder" "B" → RoadKit.Fld Z h' x O n d w
/-- **new String(chars) AT A CALL, IN THE ROAD'S FORM**: for specialBack behind newO: x the fresh String, b the char[] with the cell A -/
theorem back {p : Program} {l : Launch} {e : Env} {R : Room} {s : State} {args : Array Value} {below : List Frame} {len W : Nat} {Z : State} {a0 : Array Value} {h : Heap} (hZ : Z.Warmed39 s.vm) (hw : ∀ d ∈ words, d.before a0 Z = true) {kI : Nat} (wi : (Jvm.Cond.instantiable ST kI).before a0 Z = true)
    {x b : Addr} {A : Cell} {z : Int32} {v0 c0 : Value} (E : RoadKit.Exa Z h x ST) (V : RoadKit.Fld Z h x ST "value" "[B" v0) (C : RoadKit.Fld Z h x ST "coder" "B" c0) (K : RoadKit.Arr Z h b A .char) (hty : Typed .char A) (S : RoadKit.Sta Z h ST "COMPACT_STRINGS" "Z" (.int z)) (hz : ¬ z = 0)
    (l0 : 0 < A.slots.size) (l2 : A.slots.size ≤ 536870912) (hp : ∀ i, i < A.slots.size → ¬ 255 < cv A i) (hfr : 4 ≤ R.frames) (hlo : W + 65 ≤ R.locals) :
    Back l R p e below s args New1.yN len W (fun P a => a = #[.ref x, .ref b] ∧ P.U.heap = h ∧ P.cells + 1 ≤ R.cells ∧ P.slots + A.slots.size ≤ R.slots)
      (fun P _ v B => ∃ L, Q Z x A h v B.U.heap L ∧ B.locs = P.locs ++ L ∧ B.cells = P.cells + 1 ∧ B.slots = P.slots + A.slots.size) := by
  intro m meth c P g ig mk a X hg hsize hdg hW hn hp'
  obtain ⟨rfl, rfl, r1, r2⟩ := hp'
  have al : Z.vm.Alike P.U.vm := hZ.alike.trans X.warmed.alike
  obtain ⟨D, cfV, kV, iV, fV, hD, gV, stV, knV, obV, asV, slV⟩ := id V
  obtain ⟨D', cfC, kC, iC, fC, hD', gC, stC, -, -, asC, slC⟩ := id C
  cases hD.symm.trans hD'
  obtain ⟨D2, kD, e1, e2, e3, e4, e5⟩ := id E
  cases hD.symm.trans e1
  obtain ⟨c2, k2, i1, i2, i3, -⟩ := Cond.instantiable_spec wi
  cases e2.symm.trans i1
  cases e3.symm.trans i2
  obtain ⟨kU, u1, u2⟩ := al.2.2 _ _ e3
  have hB : Blank ST x D P.U := ⟨hD, ⟨knV, fun q hq => by rw [hq] at obV; cases obV⟩, by rw [al.findClass]; exact e2, kU, u1, by rw [u2]; exact i3, by rw [u2]; exact e5 i3⟩
  have F1 : Found ST "value" "[B" fV P.U := ⟨SBG.found_only al ⟨cfV, kV, iV, gV⟩, stV⟩
  have F2 : Found ST "coder" "B" fC P.U := ⟨SBG.found_only al ⟨cfC, kC, iC, gC⟩, stC⟩
  have hA : Ch b A P.U := ⟨⟨K.1, State.isArrayOf_alike al K.2.1, K.2.2, by omega⟩, hty⟩
  have hS : StaticIs P.U ST "COMPACT_STRINGS" "Z" (.int z) := by
    obtain ⟨cfS, iS, kS, fS, st, cS, t1, t2, t3, t4, t5, t6, t7⟩ := S
    exact StaticIs.there (s := { Z with heap := P.U.heap }) ⟨cfS, iS, kS, fS, st, cS, t1, t2, t3, t4, t5, (fun q => by rw [q] at t6; cases t6), t7⟩ al rfl
  obtain ⟨v, B, X', ⟨⟨hv, E', V', q1, q2, q3, q4, q5, q6, q7, q8, q9, q10, q11⟩, hl, hc, hs⟩, st⟩ := New1.pays x D fV fC b A z (tab_of (moved hZ hw)) hfr hlo m meth c P g ig mk _ X hg hsize hdg hW hn ⟨r1, r2, rfl, hB, F1, F2, hA, hS, hz, l0, l2, hp⟩
  have al' : Z.vm.Alike B.U.vm := hZ.alike.trans X'.warmed.alike
  have hsz : E'.slots.size = D.slots.size := by
    obtain ⟨-, -, -, kB, w1, w2, w3⟩ := q1
    obtain ⟨kB', y1, y2⟩ := al'.2.2 _ _ e3
    rw [q2.2.1] at w1
    cases w1.symm.trans y1
    rw [w3, e5 i3, y2]
  refine ⟨v, B, X', ⟨_, ⟨hv, ?_, ⟨by omega, fun y cy hy hn' => q10 y cy (by simpa using hn') hy, fun y cy hy => ?_⟩, q11, ⟨E', _, q1.1, by rw [q2.2.1]; exact e2, by rw [q2.2.1]; exact e3, by rw [q2.1]; exact obV, fun _ => by rw [hsz]; exact e5 i3⟩,
    ⟨E', cfV, kV, iV, fV, q1.1, gV, stV, by rw [q2.1]; exact knV, by rw [q2.1]; exact obV, by rw [q2.2.1]; exact asV, q3⟩, ⟨E', cfC, kC, iC, fC, q1.1, gC, stC, by rw [q2.1]; exact knV, by rw [q2.1]; exact obV, by rw [q2.2.1]; exact asC, q4⟩,
    ⟨V', ⟨q5.1, State.isArrayOf_alike al'.symm q5.2.1, q5.2.2.1⟩, q6, by rw [← al'.findClass]; exact q7, q8, fun j hj => by have := q9 j hj; rwa [Nat.zero_add] at this⟩, fun O n d w F n1 n2 => ?_⟩, hl, hc, hs⟩, st⟩
  · intro y hy
    simp only [List.mem_cons, List.not_mem_nil, or_false] at hy
    rcases hy with rfl | rfl <;> rfl
  · by_cases q : y = x
    · subst q
      cases hD.symm.trans hy
      exact ⟨E', q1.1, q2.2.1, q2.1, hsz⟩
    · exact ⟨cy, q10 y cy q hy, rfl, rfl, rfl⟩
  · obtain ⟨D3, cf, k, i, f, g1, g2, g3, g4, g5, g6, g7⟩ := F
    cases hD.symm.trans g1
    simp only [RoadKit.slotOf, g2, gV, gC, Option.map_some, Option.getD_some] at n1 n2
    exact ⟨E', cf, k, i, f, q1.1, g2, g3, by rw [q2.1]; exact g4, by rw [q2.1]; exact g5, by rw [q2.2.1]; exact g6, by rw [q2.2.2 f.slot (by simp [n1, n2])]; exact g7⟩
end StrChars.Road
namespace StrChars.Road
open Jvm Sem ClassFile Op Lib Jvm.Stand Jvm.Free Jvm.Free.XT
/-- WHAT COMES BACK, the byte[] as a list of values -/
def QA (Z : State) (x : Addr) (zn : Int32) (cs : List Int32) (h : Heap) (v : Option Value) (h' : Heap) (L : List Loc) : Prop := v = none ∧ (∀ y ∈ L, y.base = x) ∧ RoadKit.Keep h h' [x] ∧ h'.size = h.size + 1 ∧ RoadKit.Exa Z h' x ST ∧ RoadKit.Fld Z h' x ST "value" "[B" (.ref h.size) ∧ RoadKit.Fld Z h' x ST "coder" "B" (.int 0) ∧
  (∃ kb, Z.vm.findClass "[B" = some kb ∧ RoadKit.Arv Z h' h.size kb .byte zn (cs.map fun c => .int (lo8 c)) (.int 0)) ∧
  ∀ (O n d : String) (w : Value), RoadKit.Fld Z h x O n d w → RoadKit.slotOf Z O n d ≠ RoadKit.slotOf Z ST "value" "[B" → RoadKit.slotOf Z O n d ≠ RoadKit.slotOf Z ST "coder" "B" → RoadKit.Fld Z h' x O n d w
/-- **new String(chars) AT A CALL, THE ARRAYS AS LISTS**: the char[] at b holds cs, not empty, no char above 255 -/
theorem backArv {p : Program} {l : Launch} {e : Env} {R : Room} {s : State} {args : Array Value} {below : List Frame} {len W : Nat} {Z : State} {a0 : Array Value} {h : Heap} (hZ : Z.Warmed39 s.vm) (hw : ∀ d ∈ words, d.before a0 Z = true) {kI : Nat} (wi : (Jvm.Cond.instantiable ST kI).before a0 Z = true)
    {x b : Addr} {k : ClassId} {zn z : Int32} {cs : List Int32} {dv v0 c0 : Value} (E : RoadKit.Exa Z h x ST) (V : RoadKit.Fld Z h x ST "value" "[B" v0) (C : RoadKit.Fld Z h x ST "coder" "B" c0) (K : RoadKit.Arv Z h b k .char zn (cs.map Value.int) dv) (S : RoadKit.Sta Z h ST "COMPACT_STRINGS" "Z" (.int z)) (hz : ¬ z = 0)
    (hlen : zn.toNatClampNeg = cs.length) (h0 : 0 < cs.length) (hbig : cs.length ≤ 536870912) (hall : ∀ c ∈ cs, ¬ 255 < c) (hfr : 4 ≤ R.frames) (hlo : W + 65 ≤ R.locals) :
    Back l R p e below s args New1.yN len W (fun P a => a = #[.ref x, .ref b] ∧ P.U.heap = h ∧ P.cells + 1 ≤ R.cells ∧ P.slots + cs.length ≤ R.slots)
      (fun P _ v B => ∃ L, QA Z x zn cs h v B.U.heap L ∧ B.locs = P.locs ++ L ∧ B.cells = P.cells + 1 ∧ B.slots = P.slots + cs.length) := by
  obtain ⟨A, K1, K2, K3, K4, K5, K6⟩ := K
  have e : A.slots.size = cs.length := K3.trans hlen
  have hat : ∀ (i : Nat) (hi : i < cs.length), A.slots[i]? = some (.int cs[i]) := fun i hi => by rw [K5 i (by omega)]; simp [List.getD_eq_getElem?_getD, hi]
  have hcv : ∀ (i : Nat) (hi : i < cs.length), cv A i = cs[i] := fun i hi => by unfold cv; rw [hat i hi]
  have hty : Typed .char A := fun i v hv => by
    have hi : i < A.slots.size := (Array.getElem?_eq_some_iff.mp hv).1
    have q := K5 i hi
    rw [hv] at q
    rw [Option.some.inj q]
    exact K6 i hi
  refine Back.mono (back hZ hw wi E V C K1 hty S hz (by omega) (by omega) (fun i hi => by rw [hcv i (by omega)]; exact hall _ (List.getElem_mem _)) hfr hlo) (fun P a hp => ⟨hp.1, hp.2.1, hp.2.2.1, by rw [e]; exact hp.2.2.2⟩) (fun P a v B hp hq => ?_)
  obtain ⟨L, ⟨q1, q2, q3, q4, q5, q6, q7, ⟨V', v1, v2, v3, v4, v5⟩, q9⟩, hl, hc, hs⟩ := hq
  refine ⟨L, ⟨q1, q2, q3, q4, q5, q6, q7, ⟨V'.cls, v3, V', v1, rfl, by rw [v4, e, hlen], K4, fun i hi => ?_, fun i hi => ?_⟩, q9⟩, hl, hc, by rw [hs, e]⟩
  · have hi' : i < cs.length := by omega
    rw [v5 i (by omega), hcv i hi']; simp [List.getD_eq_getElem?_getD, hi']
  · have hi' : i < cs.length := by omega
    simp only [List.getD_eq_getElem?_getD, List.getElem?_map, List.getElem?_eq_getElem hi', Option.map_some, Option.getD_some]
    exact fits_lo8 _
end StrChars.Road
namespace StrChars.Road
open Jvm Sem ClassFile Op Lib Jvm.Stand Jvm.Free Jvm.Free.XT
/-- WHAT COMES BACK, in the writer's own shape -/
def QV (Z : State) (x : Addr) (N : Int32) (bs : List Int32) (h : Heap) (n0 : Nat) (v : Option Value) (h' : Heap) (L : List Loc) : Prop := v = none ∧ RoadKit.Fr n0 L ∧ RoadKit.Keep h h' [x] ∧ RoadKit.Exa Z h' x ST ∧ RoadKit.Fld Z h' x ST "coder" "B" (.int 0) ∧
  ∃ (t : Addr) (kb : ClassId), n0 ≤ t ∧ h.size ≤ t ∧ ¬ t = x ∧ RoadKit.Fld Z h' x ST "value" "[B" (.ref t) ∧ RoadKit.Arv Z h' t kb .byte N (bs.map Value.int) (.int 0)
/-- **new String(chars) AT A CALL, FOR THE WRITER**: a char[] of n known ints, each 0 to 255 -/
theorem backV {p : Program} {l : Launch} {e : Env} {R : Room} {s : State} {args : Array Value} {below : List Frame} {len W : Nat} {Z : State} {a0 : Array Value} {h : Heap} (hZ : Z.Warmed39 s.vm) (hw : ∀ d ∈ words, d.before a0 Z = true) {kI : Nat} (wi : (Jvm.Cond.instantiable ST kI).before a0 Z = true)
    {x b : Addr} {kC : ClassId} {cs bs : List Int32} {d v0 c0 : Value} {z N : Int32} {n n0 : Nat} (hx0 : n0 ≤ x) (hh0 : n0 ≤ h.size) (E : RoadKit.Exa Z h x ST) (V : RoadKit.Fld Z h x ST "value" "[B" v0) (C : RoadKit.Fld Z h x ST "coder" "B" c0) (K : RoadKit.Arv Z h b kC .char N (cs.map Value.int) d) (S : RoadKit.Sta Z h ST "COMPACT_STRINGS" "Z" (.int z)) (hz : ¬ z = 0)
    (hn : cs.length = n) (hN : N = Int32.ofNat n) (l0 : 0 < n) (l2 : n ≤ 4000) (hp : ∀ c ∈ cs, ¬ c < 0 ∧ ¬ (255 : Int32) < c) (hb : bs = cs.map (fun c => c.toInt8.toInt32)) (hfr : 4 ≤ R.frames) (hlo : W + 65 ≤ R.locals) :
    Back l R p e below s args (⟨"java/lang/String", "<init>", "([C)V"⟩ : MethodName) len W (fun P a => a = #[.ref x, .ref b] ∧ P.U.heap = h ∧ P.cells + 1 ≤ R.cells ∧ P.slots + n ≤ R.slots)
      (fun P _ v B => ∃ L, QV Z x N bs h n0 v B.U.heap L ∧ B.locs = P.locs ++ L ∧ B.cells = P.cells + 1 ∧ B.slots = P.slots + n) := by
  subst hn hN hb
  refine Back.mono (backArv hZ hw wi E V C K S hz (n32 (by omega)) l0 (by omega) (fun c hc => (hp c hc).2) hfr hlo) (fun P a hp => hp) (fun P a v B hp hq => ?_)
  obtain ⟨L, ⟨q1, q2, q3, q4, q5, q6, q7, ⟨kb, v1, v2⟩, q9⟩, hl, hc, hs⟩ := hq
  exact ⟨L, ⟨q1, fun y hy => by rw [q2 y hy]; exact hx0, q3, q5, q7, h.size, kb, hh0, Nat.le_refl _, Nat.ne_of_gt E.lt, q6, by rw [List.map_map]; exact v2⟩, hl, hc, hs⟩
end StrChars.Road
namespace StrChars
open Jvm Sem ClassFile Op Lib Jvm.Stand Jvm.Free.XT Jvm.Free.ALB Jvm.Free.JM Jvm.Free
open Jvm.Lib.Cold (StaticIs)
def hi8 (x : Int32) : Int32 := lo8 (x >>> ((8 : Int32) &&& 31))
/-- what StringUTF16.getChar makes of two bytes -/
def pairCh (u v : Int32) : Int32 := (((u &&& 255) <<< ((0 : Int32) &&& 31)) ||| ((v &&& 255) <<< ((8 : Int32) &&& 31))).toUInt32.toUInt16.toUInt32.toInt32
theorem shr0 (c : Int32) : c >>> ((0 : Int32) &&& 31) = c := by
  have e : ((0 : Int32) &&& 31) = 0 := by decide
  rw [e]
  apply Int32.toBitVec_inj.mp
  rw [Int32.toBitVec_shiftRight]
  have e1 : ((0 : Int32).toBitVec.smod 32) = 0#32 := by decide
  rw [e1, BitVec.sshiftRight_eq']
  exact BitVec.sshiftRight_zero
theorem lo8_and (x : Int32) : (lo8 x &&& 255).toBitVec.toNat = x.toBitVec.toNat % 256 := by
  have h : (lo8 x).toBitVec = (x.toBitVec.signExtend 8).signExtend 32 := by rw [lo8, Int8.toBitVec_toInt32, Int32.toBitVec_toInt8]
  rw [Int32.toBitVec_and, BitVec.toNat_and, h]
  have e : ((x.toBitVec.signExtend 8).signExtend 32).toNat % 256 = x.toBitVec.toNat % 256 := by
    rw [BitVec.toNat_signExtend]
    have hlt := x.toBitVec.isLt
    simp only [BitVec.toNat_setWidth, BitVec.toNat_signExtend]
    split <;> split <;> omega
  rw [← e]
  exact Nat.and_two_pow_sub_one_eq_mod _ 8
theorem pair_says {c : Int32} (h0 : ¬ c < 0) (h1 : ¬ 65535 < c) : pairCh (lo8 c) (hi8 c) = c := by
  rw [Int32.lt_iff_toInt_lt] at h0 h1
  have e0 : (0 : Int32).toInt = 0 := rfl
  have e1 : (65535 : Int32).toInt = 65535 := rfl
  have hc : c.toInt = c.toBitVec.toNat := by
    have := c.toBitVec.isLt
    have e : c.toInt = c.toBitVec.toInt := rfl
    rw [e] at h0 h1
    rw [e]
    rw [BitVec.toInt_eq_toNat_cond] at h0 h1 ⊢
    split at h0 <;> split <;> omega
  have hn : c.toBitVec.toNat < 65536 := by omega
  have a1 := lo8_and c
  have a2 : (hi8 c &&& 255).toBitVec.toNat = c.toBitVec.toNat / 256 := by
    rw [hi8, lo8_and]
    have e : ((8 : Int32) &&& 31) = 8 := by decide
    rw [e, Int32.toBitVec_shiftRight]
    have e2 : ((8 : Int32).toBitVec.smod 32) = 8#32 := by decide
    rw [e2, BitVec.sshiftRight_eq', BitVec.toNat_sshiftRight_of_msb_false (by rw [BitVec.msb_eq_false_iff_two_mul_lt]; omega)]
    show c.toBitVec.toNat >>> 8 % 256 = _
    rw [Nat.shiftRight_eq_div_pow]
    omega
  unfold pairCh
  apply Int32.toBitVec_inj.mp
  apply BitVec.eq_of_toNat_eq
  have f0 : ((0 : Int32) &&& 31) = 0 := by decide
  have f8 : ((8 : Int32) &&& 31) = 8 := by decide
  rw [f0, f8]
  have g : (((lo8 c &&& 255) <<< (0 : Int32)) ||| ((hi8 c &&& 255) <<< (8 : Int32))).toBitVec.toNat = c.toBitVec.toNat := by
    rw [Int32.toBitVec_or, Int32.toBitVec_shiftLeft, Int32.toBitVec_shiftLeft]
    have s0 : ((0 : Int32).toBitVec.smod 32) = 0#32 := by decide
    have s8 : ((8 : Int32).toBitVec.smod 32) = 8#32 := by decide
    rw [s0, s8, BitVec.toNat_or]
    simp only [BitVec.shiftLeft_eq', BitVec.toNat_shiftLeft, a1, a2]
    show (c.toBitVec.toNat % 256) <<< 0 % 2 ^ 32 ||| (c.toBitVec.toNat / 256) <<< 8 % 2 ^ 32 = _
    rw [Nat.shiftLeft_zero, Nat.mod_eq_of_lt (show c.toBitVec.toNat % 256 < 2 ^ 32 by omega), Nat.mod_eq_of_lt (show (c.toBitVec.toNat / 256) <<< 8 < 2 ^ 32 by rw [Nat.shiftLeft_eq]; omega), Nat.or_comm, ← Nat.shiftLeft_add_eq_or_of_lt (by omega), Nat.shiftLeft_eq]
    omega
  show BitVec.toNat (((((lo8 c &&& 255) <<< (0 : Int32)) ||| ((hi8 c &&& 255) <<< (8 : Int32))).toBitVec.setWidth 16).setWidth 32) = _
  rw [BitVec.toNat_setWidth, BitVec.toNat_setWidth, g]
  omega
end StrChars
namespace StrChars
open Jvm Sem ClassFile Op Lib Jvm.Stand Jvm.Free.XT Jvm.Free.ALB Jvm.Free.JM Jvm.Free
open Jvm.Lib.Cold (StaticIs)
theorem shr1 {n : Nat} (h : 2 * n < 2 ^ 31) : Int32.ofNat (2 * n) >>> ((1 : Int32) &&& 31) = Int32.ofNat n := by
  have e : ((1 : Int32) &&& 31) = 1 := by decide
  rw [e]
  apply Int32.toBitVec_inj.mp
  rw [Int32.toBitVec_shiftRight]
  have e1 : ((1 : Int32).toBitVec.smod 32) = 1#32 := by decide
  have hm : (BitVec.ofNat 32 (2 * n)).toNat = 2 * n := by rw [BitVec.toNat_ofNat, Nat.mod_eq_of_lt (by omega)]
  rw [e1, BitVec.sshiftRight_eq']
  apply BitVec.eq_of_toNat_eq
  show ((BitVec.ofNat 32 (2 * n)).sshiftRight 1).toNat = (BitVec.ofNat 32 n).toNat
  rw [BitVec.toNat_sshiftRight_of_msb_false (by rw [BitVec.msb_eq_false_iff_two_mul_lt, hm]; omega), hm, BitVec.toNat_ofNat, Nat.shiftRight_eq_div_pow]
  omega
/-- charAt's cast of a byte read back -/
def chr8 (u : Int32) : Int32 := (u &&& 255).toUInt32.toUInt16.toUInt32.toInt32
theorem chr8_lo8 {c : Int32} (h0 : ¬ c < 0) (h1 : ¬ 255 < c) : chr8 (lo8 c) = c := by
  have t : ∀ k : Fin 256, (Int32.ofNat k.val).toUInt32.toUInt16.toUInt32.toInt32 = Int32.ofNat k.val := by decide +kernel
  unfold chr8
  rw [lo8_mask h0 h1]
  rw [Int32.lt_iff_toInt_lt] at h0 h1
  have e0 : (0 : Int32).toInt = 0 := rfl
  have e1 : (255 : Int32).toInt = 255 := rfl
  obtain ⟨k, hk⟩ : ∃ k : Nat, c.toInt = k := ⟨c.toInt.toNat, by omega⟩
  have hx : c = Int32.ofNat k := Int32.toInt_inj.mp (by rw [hk, Int32.toInt_ofNat_small (by omega)])
  rw [hx]
  exact t ⟨k, by omega⟩
theorem narrow_ch {c : Int32} (h0 : ¬ c < 0) (h1 : ¬ 65535 < c) : narrow .char (.int c) = .int c := by
  have q : narrow .char (.int (pairCh (lo8 c) (hi8 c))) = .int (pairCh (lo8 c) (hi8 c)) := narrow_c _
  rwa [pair_says h0 h1] at q
/-- the array's cell V codes the n chars f 0 .. f (n - 1) by the coder cd, as the JDK does: coder 1 just where some char is above 255 -/
def Cod (cd : Int32) (n : Nat) (f : Nat → Int32) (V : Cell) : Prop := (cd = 0 ∧ V.slots.size = n ∧ ∀ j, j < n → V.slots[j]? = some (.int (lo8 (f j))) ∧ ¬ 255 < f j) ∨ (cd = 1 ∧ V.slots.size = 2 * n ∧ (∀ j, j < n → V.slots[2 * j]? = some (.int (lo8 (f j))) ∧ V.slots[2 * j + 1]? = some (.int (hi8 (f j)))) ∧ ∃ j, j < n ∧ 255 < f j)
theorem Cod.cd {cd : Int32} {n : Nat} {f : Nat → Int32} {V : Cell} (h : Cod cd n f V) : cd = 0 ∨ cd = 1 := h.imp (fun q => q.1) fun q => q.1
theorem Cod.len {cd : Int32} {n : Nat} {f : Nat → Int32} {V : Cell} (h : Cod cd n f V) (hs : V.slots.size < 2 ^ 31) : Int32.ofNat V.slots.size >>> (cd &&& 31) = Int32.ofNat n := by
  rcases h with ⟨rfl, h, -⟩ | ⟨rfl, h, -⟩
  · rw [shr0, h]
  · rw [h, shr1 (by omega)]
/-- **x is a String of the n chars f 0 .. f (n - 1)**, Latin-1 or UTF-16; its array at t has the cell V -/
def Txt (x t : Addr) (V : Cell) (cd : Int32) (n : Nat) (f : Nat → Int32) (U : State) : Prop := Exact "java/lang/String" x U ∧ Has x "java/lang/String" "value" "[B" (.ref t) U ∧ Has x "java/lang/String" "coder" "B" (.int cd) U ∧ XT.Arr .byte t V U ∧ Cod cd n f V ∧ ∀ j, j < n → ¬ f j < 0 ∧ ¬ 65535 < f j
theorem Txt.mv {x t : Addr} {V : Cell} {cd : Int32} {n : Nat} {f : Nat → Int32} {U U' : State} (h : Txt x t V cd n f U) (hal : U.vm.Alike U'.vm) (hh : U'.heap = U.heap) : Txt x t V cd n f U' := ⟨h.1.mv hal hh, h.2.1.mv hal hh, h.2.2.1.mv hal hh, h.2.2.2.1.mv hal hh, h.2.2.2.2⟩
namespace Cdr
def yN : MethodName := ⟨"java/lang/String", "coder", "()B"⟩
abbrev yB : ByteArray := jdk_42_method_152_code
theorem d0 : decode yB 0 = .ok (.getstatic 38, 3) := by decide +kernel
theorem d3 : decode yB 3 = .ok (.ifCond (.eq) 10, 3) := by decide +kernel
theorem d6 : decode yB 6 = .ok (.aload_n 0, 1) := by decide +kernel
theorem d7 : decode yB 7 = .ok (.getfield 15, 3) := by decide +kernel
theorem d10 : decode yB 10 = .ok (.goto 4, 3) := by decide +kernel
theorem d14 : decode yB 14 = .ok (.ireturn, 1) := by decide +kernel
def site : List Cond := [.fieldLink "java/lang/String" 38 "java/lang/String" "COMPACT_STRINGS" "Z", .fieldLink "java/lang/String" 15 "java/lang/String" "coder" "B"]
def tab : Cond := tabOf yN yB 1 (some .byte) site
def P (x : Addr) (cd z : Int32) (args : Array Value) (s : State) : Prop := args = #[.ref x] ∧ Has x "java/lang/String" "coder" "B" (.int cd) s ∧ (cd = 0 ∨ cd = 1) ∧ StaticIs s "java/lang/String" "COMPACT_STRINGS" "Z" (.int z) ∧ ¬ z = 0
def E (cd : Int32) (r : Option Value) (s u : State) : Prop := XT.PureE (some (.int cd)) r s u
theorem law (l : Launch) (x : Addr) (cd z : Int32) : Law l yN 1 0 0 0 yB 1 (some .byte) site (P x cd z) (E cd) [] 0 0 := by
  refine Law.of_walk (plainFor_of_name (by decide +kernel)) (by decide +kernel) (by decide +kernel) (by decide) (fun _ _ h => by rw [h.1]; rfl) (fun _ U U' hal hh h => ⟨h.1, h.2.1.mv hal hh, h.2.2.1, h.2.2.2.1.there hal hh, h.2.2.2.2⟩) (fun r U U' V V' h1 hal h2 h => XT.PureE.mv r U U' V V' h1 hal h2 h) ?_
  intro p e s m args below meth c s₁ X0 hexec hbytes hml hret hlk hnm hown hh0 W hP
  obtain ⟨rfl, hx, hc, s1, hz⟩ := hP
  have c1 : Steps p.tables e below (s₁.setTop (entryFrame m #[.ref x] 1)) (s₁.setTop (mkF m 0 #[.val (.ref x)] [])) := entry rfl
  obtain ⟨T2, X2, q2, st2⟩ := X0.sget hexec hown (wk W (.fieldLink "java/lang/String" 38 "java/lang/String" "COMPACT_STRINGS" "Z")) s1 (fun _ _ h => by rw [hh0]; exact h) (g := (mkF m 0 #[.val (.ref x)] [])) rfl (hb hbytes d0)
  have hh2 := q2.trans hh0
  have c3 : Steps p.tables e below (s₁.setTop (entryFrame m #[.ref x] 1)) (T2.setTop (mkF m 7 #[.val (.ref x)] [.ref x])) := (c1.trans (st2 _ (Steps.refl _))).trans (by
    refine XS.ifNo X2.here hexec rfl (hb hbytes d3) rfl (i0_eq_f hz) ?_
    refine XS.aloadN X2.here hexec rfl (hb hbytes d6) rfl rfl ?_
    exact Steps.refl _)
  obtain ⟨T4, X4, q4, st4⟩ := X2.hget hexec hown (wk W (.fieldLink "java/lang/String" 15 "java/lang/String" "coder" "B")) (hx.mv X2.warmed.alike hh2) (g := (mkF m 7 #[.val (.ref x)] [.ref x])) rfl (rest := []) rfl (hb hbytes d7)
  have c5 : Steps p.tables e below (s₁.setTop (entryFrame m #[.ref x] 1)) (T4.setTop (mkF m 14 #[.val (.ref x)] [.int cd])) := (c3.trans (st4 _ (Steps.refl _))).trans (by
    refine XS.goto X4.here hexec rfl (pc0 := 10) rfl (hb hbytes d10) (by decide) rfl ?_
    exact Steps.refl _)
  exact ⟨T4, some (.int cd), _, _, _, X4, rfl, rfl, rfl, (fun h => by cases h), ⟨rfl, q4.trans hh2⟩, fun fs hl => c5.trans (X4.ireturnOut hexec hret (by rcases hc with rfl | rfl <;> rfl) (Or.inr (Or.inr (Or.inl rfl))) (hb hbytes d14) hl)⟩
end Cdr
namespace Len
def yN : MethodName := ⟨"java/lang/String", "length", "()I"⟩
abbrev yB : ByteArray := jdk_42_method_54_code
theorem d0 : decode yB 0 = .ok (.aload_n 0, 1) := by decide +kernel
theorem d1 : decode yB 1 = .ok (.getfield 9, 3) := by decide +kernel
theorem d4 : decode yB 4 = .ok (.arraylength, 1) := by decide +kernel
theorem d5 : decode yB 5 = .ok (.aload_n 0, 1) := by decide +kernel
theorem d6 : decode yB 6 = .ok (.invokevirtual 335, 3) := by decide +kernel
theorem d9 : decode yB 9 = .ok (.ishr, 1) := by decide +kernel
theorem d10 : decode yB 10 = .ok (.ireturn, 1) := by decide +kernel
def site : List Cond := [.fieldLink "java/lang/String" 9 "java/lang/String" "value" "[B", Cdr.tab] ++ virtW "java/lang/String" 335 "java/lang/String" Cdr.yN Cdr.yN
def tab : Cond := tabOf yN yB 1 (some .int) site
def P (x t : Addr) (V : Cell) (cd : Int32) (n : Nat) (f : Nat → Int32) (z : Int32) (args : Array Value) (s : State) : Prop := args = #[.ref x] ∧ Txt x t V cd n f s ∧ StaticIs s "java/lang/String" "COMPACT_STRINGS" "Z" (.int z) ∧ ¬ z = 0
def E (n : Nat) (r : Option Value) (s u : State) : Prop := XT.PureE (some (.int (Int32.ofNat n))) r s u
/-- length() of a String of n chars, in either coding -/
theorem law (l : Launch) (x t : Addr) (V : Cell) (cd : Int32) (n : Nat) (f : Nat → Int32) (z : Int32) : Law l yN 1 0 1 13 yB 1 (some .int) site (P x t V cd n f z) (E n) [] 0 0 := by
  refine Law.of_walk (plainFor_of_name (by decide +kernel)) (by decide +kernel) (by decide +kernel) (by decide) (fun _ _ h => by rw [h.1]; rfl) (fun _ U U' hal hh h => ⟨h.1, h.2.1.mv hal hh, h.2.2.1.there hal hh, h.2.2.2⟩) (fun r U U' V V' h1 hal h2 h => XT.PureE.mv r U U' V V' h1 hal h2 h) ?_
  intro p e s m args below meth c s₁ X0 hexec hbytes hml hret hlk hnm hown hh0 W hP
  obtain ⟨rfl, hx, s1, hz⟩ := hP
  have v31 := hx.2.2.2.1.2.2.2
  have c1 : Steps p.tables e below (s₁.setTop (entryFrame m #[.ref x] 1)) (s₁.setTop (mkF m 1 #[.val (.ref x)] [.ref x])) := Steps.trans (entry rfl) (by
    show Steps p.tables e below (s₁.setTop (mkF m 0 #[.val (.ref x)] [])) _
    refine XS.aloadN X0.here hexec rfl (hb hbytes d0) rfl rfl ?_
    exact Steps.refl _)
  obtain ⟨T2, X2, q2, st2⟩ := X0.hget hexec hown (wk W (.fieldLink "java/lang/String" 9 "java/lang/String" "value" "[B")) (hx.mv X0.warmed.alike hh0).2.1 (g := (mkF m 1 #[.val (.ref x)] [.ref x])) rfl (rest := []) rfl (hb hbytes d1)
  have hh2 := q2.trans hh0
  have hx2 := hx.mv X2.warmed.alike hh2
  have c3 : Steps p.tables e below (s₁.setTop (entryFrame m #[.ref x] 1)) (T2.setTop (mkF m 6 #[.val (.ref x)] [.ref x, .int (Int32.ofNat V.slots.size)])) := (c1.trans (st2 _ (Steps.refl _))).trans (by
    refine X2.alen hexec hx2.2.2.2.1 rfl rfl (hb hbytes d4) ?_
    refine XS.aloadN X2.here hexec rfl (hb hbytes d5) rfl rfl ?_
    exact Steps.refl _)
  obtain ⟨v4, T4, X4, E4, g4⟩ := X2.callV hexec (Cdr.law l x cd z) hown (wks W (virtW "java/lang/String" 335 "java/lang/String" Cdr.yN Cdr.yN)) rfl (by decide) (wk W Cdr.tab) (W := 1) (Nat.le_of_ble_eq_true rfl) (Nat.le_of_ble_eq_true rfl) (Nat.le_refl _) (Nat.le_refl _) (hx2.1.fc X2.warmed.alike) hx2.1.is (g := (mkF m 6 #[.val (.ref x)] [.ref x, .int (Int32.ofNat V.slots.size)])) rfl (by rw [hml]; rfl) c3 (argsL := []) (rest := [.int (Int32.ofNat V.slots.size)]) rfl rfl (by show 2 * 0 + (1 + 0) ≤ _; decide) (hb hbytes d6) (⟨rfl, hx2.2.2.1, hx.2.2.2.2.1.cd, s1.there X2.warmed.alike hh2, hz⟩)
  obtain ⟨rfl, q4⟩ := E4
  have c5 : Steps p.tables e below (s₁.setTop (entryFrame m #[.ref x] 1)) (T4.setTop (mkF m 10 #[.val (.ref x)] [.int (Int32.ofNat V.slots.size >>> (cd &&& 31))])) := Steps.trans g4 (by
    refine ishr X4.here hexec rfl (hb hbytes d9) rfl ?_
    exact Steps.refl _)
  rw [hx.2.2.2.2.1.len v31] at c5
  exact ⟨T4, some (.int (Int32.ofNat n)), _, _, _, X4, rfl, rfl, rfl, (fun h => by cases h), ⟨rfl, q4.trans hh2⟩, fun fs hl => c5.trans (X4.ireturnOut hexec hret rfl (Or.inl rfl) (hb hbytes d10) hl)⟩
theorem pays {l : Launch} {R : Room} {p : Program} {e : Env} {below : List Frame} {s : State} {sargs : Array Value} {len W : Nat} (x t : Addr) (V : Cell) (cd : Int32) (n : Nat) (f : Nat → Int32) (z : Int32) (htab : tab.before sargs s = true) (hfr : 2 ≤ R.frames) (hlo : W + 25 ≤ R.locals) :
    Back l R p e below s sargs yN len W (fun A₁ a₁ => A₁.cells + 0 ≤ R.cells ∧ A₁.slots + 0 ≤ R.slots ∧ P x t V cd n f z a₁ A₁.U) (fun A₁ _ v₁ B₁ => E n v₁ A₁.U B₁.U ∧ B₁.locs = A₁.locs ++ [] ∧ B₁.cells = A₁.cells + 0 ∧ B₁.slots = A₁.slots + 0) :=
  (law l x t V cd n f z).pays htab hfr (by omega)
end Len
namespace IsL
def yN : MethodName := ⟨"java/lang/String", "isLatin1", "()Z"⟩
abbrev yB : ByteArray := jdk_42_method_154_code
theorem d0 : decode yB 0 = .ok (.getstatic 38, 3) := by decide +kernel
theorem d3 : decode yB 3 = .ok (.ifCond (.eq) 14, 3) := by decide +kernel
theorem d6 : decode yB 6 = .ok (.aload_n 0, 1) := by decide +kernel
theorem d7 : decode yB 7 = .ok (.getfield 15, 3) := by decide +kernel
theorem d10 : decode yB 10 = .ok (.ifCond (.ne) 7, 3) := by decide +kernel
theorem d13 : decode yB 13 = .ok (.iconst 1, 1) := by decide +kernel
theorem d14 : decode yB 14 = .ok (.goto 4, 3) := by decide +kernel
theorem d17 : decode yB 17 = .ok (.iconst 0, 1) := by decide +kernel
theorem d18 : decode yB 18 = .ok (.ireturn, 1) := by decide +kernel
def site : List Cond := [.fieldLink "java/lang/String" 38 "java/lang/String" "COMPACT_STRINGS" "Z", .fieldLink "java/lang/String" 15 "java/lang/String" "coder" "B"]
def tab : Cond := tabOf yN yB 1 (some .boolean) site
def P (x : Addr) (cd z : Int32) (args : Array Value) (s : State) : Prop := args = #[.ref x] ∧ Has x "java/lang/String" "coder" "B" (.int cd) s ∧ (cd = 0 ∨ cd = 1) ∧ StaticIs s "java/lang/String" "COMPACT_STRINGS" "Z" (.int z) ∧ ¬ z = 0
def E (cd : Int32) (r : Option Value) (s u : State) : Prop := XT.PureE (some (.int (1 - cd))) r s u
theorem law (l : Launch) (x : Addr) (cd z : Int32) : Law l yN 1 0 0 0 yB 1 (some .boolean) site (P x cd z) (E cd) [] 0 0 := by
  refine Law.of_walk (plainFor_of_name (by decide +kernel)) (by decide +kernel) (by decide +kernel) (by decide) (fun _ _ h => by rw [h.1]; rfl) (fun _ U U' hal hh h => ⟨h.1, h.2.1.mv hal hh, h.2.2.1, h.2.2.2.1.there hal hh, h.2.2.2.2⟩) (fun r U U' V V' h1 hal h2 h => XT.PureE.mv r U U' V V' h1 hal h2 h) ?_
  intro p e s m args below meth c s₁ X0 hexec hbytes hml hret hlk hnm hown hh0 W hP
  obtain ⟨rfl, hx, hc, s1, hz⟩ := hP
  have c1 : Steps p.tables e below (s₁.setTop (entryFrame m #[.ref x] 1)) (s₁.setTop (mkF m 0 #[.val (.ref x)] [])) := entry rfl
  obtain ⟨T2, X2, q2, st2⟩ := X0.sget hexec hown (wk W (.fieldLink "java/lang/String" 38 "java/lang/String" "COMPACT_STRINGS" "Z")) s1 (fun _ _ h => by rw [hh0]; exact h) (g := (mkF m 0 #[.val (.ref x)] [])) rfl (hb hbytes d0)
  have hh2 := q2.trans hh0
  have c3 : Steps p.tables e below (s₁.setTop (entryFrame m #[.ref x] 1)) (T2.setTop (mkF m 7 #[.val (.ref x)] [.ref x])) := (c1.trans (st2 _ (Steps.refl _))).trans (by
    refine XS.ifNo X2.here hexec rfl (hb hbytes d3) rfl (i0_eq_f hz) ?_
    refine XS.aloadN X2.here hexec rfl (hb hbytes d6) rfl rfl ?_
    exact Steps.refl _)
  obtain ⟨T4, X4, q4, st4⟩ := X2.hget hexec hown (wk W (.fieldLink "java/lang/String" 15 "java/lang/String" "coder" "B")) (hx.mv X2.warmed.alike hh2) (g := (mkF m 7 #[.val (.ref x)] [.ref x])) rfl (rest := []) rfl (hb hbytes d7)
  have c5 : Steps p.tables e below (s₁.setTop (entryFrame m #[.ref x] 1)) (T4.setTop (mkF m 10 #[.val (.ref x)] [.int cd])) := c3.trans (st4 _ (Steps.refl _))
  have c6 : Steps p.tables e below (s₁.setTop (entryFrame m #[.ref x] 1)) (T4.setTop (mkF m 18 #[.val (.ref x)] [.int (1 - cd)])) := by
    rcases hc with rfl | rfl
    · exact c5.trans (by
        refine XS.ifNo X4.here hexec rfl (hb hbytes d10) rfl (i0_ne_f rfl) ?_
        refine iconstV X4.here hexec rfl 1 (hb hbytes d13) (by decide) ?_
        refine XS.goto X4.here hexec rfl (pc0 := 14) rfl (hb hbytes d14) (by decide) rfl ?_
        exact Steps.refl _)
    · exact c5.trans (by
        refine XS.ifYes X4.here hexec rfl (pc0 := 10) rfl (hb hbytes d10) rfl (i0_ne_t (by decide)) (by decide) rfl ?_
        refine iconstV X4.here hexec rfl 0 (hb hbytes d17) (by decide) ?_
        exact Steps.refl _)
  exact ⟨T4, some (.int (1 - cd)), _, _, _, X4, rfl, rfl, rfl, (fun h => by cases h), ⟨rfl, q4.trans hh2⟩, fun fs hl => c6.trans (X4.ireturnOut hexec hret (by rcases hc with rfl | rfl <;> rfl) (Or.inr (Or.inl rfl)) (hb hbytes d18) hl)⟩
end IsL
namespace LChA
def yN : MethodName := ⟨"java/lang/StringLatin1", "charAt", "([BI)C"⟩
abbrev yB : ByteArray := jdk_43_method_2_code
theorem d0 : decode yB 0 = .ok (.iload_n 1, 1) := by decide +kernel
theorem d1 : decode yB 1 = .ok (.aload_n 0, 1) := by decide +kernel
theorem d2 : decode yB 2 = .ok (.arraylength, 1) := by decide +kernel
theorem d3 : decode yB 3 = .ok (.invokestatic 9, 3) := by decide +kernel
theorem d6 : decode yB 6 = .ok (.aload_n 0, 1) := by decide +kernel
theorem d7 : decode yB 7 = .ok (.iload_n 1, 1) := by decide +kernel
theorem d8 : decode yB 8 = .ok (.baload, 1) := by decide +kernel
theorem d9 : decode yB 9 = .ok (.sipush 255, 3) := by decide +kernel
theorem d12 : decode yB 12 = .ok (.iand, 1) := by decide +kernel
theorem d13 : decode yB 13 = .ok (.i2c, 1) := by decide +kernel
theorem d14 : decode yB 14 = .ok (.ireturn, 1) := by decide +kernel
def site : List Cond := [JO.Str_checkIndex.tab] ++ staticW "java/lang/StringLatin1" 9 JO.Str_checkIndex.yN
def tab : Cond := tabOf yN yB 2 (some .char) site
def P (t : Addr) (V : Cell) (i : Nat) (u : Int32) (fm : Value) (args : Array Value) (s : State) : Prop := args = #[.ref t, .int (Int32.ofNat i)] ∧ XT.Arr .byte t V s ∧ V.slots[i]? = some (.int u) ∧ (StaticIs s "jdk/internal/util/Preconditions" "SIOOBE_FORMATTER" "Ljava/util/function/BiFunction;" fm ∧ fm.isRef = true)
def E (u : Int32) (r : Option Value) (s w : State) : Prop := XT.PureE (some (.int (chr8 u))) r s w
theorem law (l : Launch) (t : Addr) (V : Cell) (i : Nat) (u : Int32) (fm : Value) : Law l yN 2 2 2 27 yB 2 (some .char) site (P t V i u fm) (E u) [] 0 0 := by
  refine Law.of_walk (plainFor_of_name (by decide +kernel)) (by decide +kernel) (by decide +kernel) (by decide) (fun _ _ h => by rw [h.1]; rfl) (fun _ U U' hal hh h => ⟨h.1, h.2.1.mv hal hh, h.2.2.1, h.2.2.2.1.there hal hh, h.2.2.2.2⟩) (fun r U U' V V' h1 hal h2 h => XT.PureE.mv r U U' V V' h1 hal h2 h) ?_
  intro p e s m args below meth c s₁ X0 hexec hbytes hml hret hlk hnm hown hh0 W hP
  obtain ⟨rfl, hV, hu, s1, rf⟩ := hP
  have v31 := hV.2.2.2
  have hi : i < V.slots.size := (Array.getElem?_eq_some_iff.mp hu).1
  have c1 : Steps p.tables e below (s₁.setTop (entryFrame m #[.ref t, .int (Int32.ofNat i)] 2)) (s₁.setTop (mkF m 0 #[.val (.ref t), .val (.int (Int32.ofNat i))] [])) := entry rfl
  have c2 : Steps p.tables e below (s₁.setTop (entryFrame m #[.ref t, .int (Int32.ofNat i)] 2)) (s₁.setTop (mkF m 3 #[.val (.ref t), .val (.int (Int32.ofNat i))] [.int (Int32.ofNat V.slots.size), .int (Int32.ofNat i)])) := c1.trans (by
    refine XS.iloadN X0.here hexec rfl (hb hbytes d0) rfl ?_
    refine XS.aloadN X0.here hexec rfl (hb hbytes d1) rfl rfl ?_
    refine X0.alen hexec (hV.mv X0.warmed.alike hh0) rfl rfl (hb hbytes d2) ?_
    exact Steps.refl _)
  obtain ⟨v3, T3, X3, E3, g3⟩ := X0.callS hexec (JO.Str_checkIndex.law l (Int32.ofNat i) (Int32.ofNat V.slots.size) fm) hown (wks W (staticW "java/lang/StringLatin1" 9 JO.Str_checkIndex.yN)) (wk W JO.Str_checkIndex.tab) (W := 0) (Nat.le_of_ble_eq_true rfl) (Nat.le_of_ble_eq_true rfl) (Nat.le_refl _) (Nat.le_refl _) (g := (mkF m 3 #[.val (.ref t), .val (.int (Int32.ofNat i))] [.int (Int32.ofNat V.slots.size), .int (Int32.ofNat i)])) rfl (by rw [hml]; rfl) c2 (argsL := [.int (Int32.ofNat i), .int (Int32.ofNat V.slots.size)]) (rest := []) rfl rfl (by show 2 * 0 + 0 ≤ _; decide) (hb hbytes d3) (⟨rfl, rf, s1.there X0.warmed.alike hh0, Int32.ofNat_not_neg (by omega), lt32 v31 hi⟩)
  obtain ⟨rfl, q3⟩ := E3
  have hh3 := q3.trans hh0
  have c4 : Steps p.tables e below (s₁.setTop (entryFrame m #[.ref t, .int (Int32.ofNat i)] 2)) (T3.setTop (mkF m 14 #[.val (.ref t), .val (.int (Int32.ofNat i))] [.int (chr8 u)])) := Steps.trans g3 (by
    refine XS.aloadN X3.here hexec rfl (hb hbytes d6) rfl rfl ?_
    refine XS.iloadN X3.here hexec rfl (hb hbytes d7) rfl ?_
    refine X3.aget hexec (hV.mv X3.warmed.alike hh3) rfl hu rfl rfl (hb hbytes d8) ?_
    refine sipushV X3.here hexec rfl 255 (hb hbytes d9) (by decide) ?_
    refine XS.iand X3.here hexec rfl (hb hbytes d12) rfl ?_
    refine i2c X3.here hexec rfl (hb hbytes d13) rfl ?_
    exact Steps.refl _)
  exact ⟨T3, some (.int (chr8 u)), _, _, _, X3, rfl, rfl, rfl, (fun h => by cases h), ⟨rfl, hh3⟩, fun fs hl => c4.trans (X3.ireturnOut hexec hret (narrow_c _) (Or.inr (Or.inr (Or.inr (Or.inl rfl)))) (hb hbytes d14) hl)⟩
end LChA
end StrChars
namespace StrChars.Road
open Jvm Sem ClassFile Op Lib Jvm.Stand Jvm.Free Jvm.Free.XT
open Jvm.Lib.Cold (StaticIs)
theorem consq {a : Array Value} {s : State} {c : Jvm.Cond} {L : List Jvm.Cond} (h0 : c.before a s = true) (h : ∀ w ∈ L, w.before a s = true) : ∀ w ∈ c :: L, w.before a s = true := fun w hw => (List.mem_cons.mp hw).elim (fun e => e ▸ h0) (h w)
/-- the words of String.length(), either coding -/
abbrev wordsLen : List Jvm.Cond := [.code Len.yN Len.yB 1 (some .int), .initialized ST, .fieldLink ST 9 ST "value" "[B", .fieldLink ST 38 ST "COMPACT_STRINGS" "Z", .fieldLink ST 15 ST "coder" "B", .code Cdr.yN Cdr.yB 1 (some .byte), .methodLink ST 335 Cdr.yN, .declares Cdr.yN, .selects ST Cdr.yN Cdr.yN, .instanceMethod Cdr.yN]
theorem tabLen_of {a : Array Value} {s : State} (h : ∀ w ∈ wordsLen, w.before a s = true) : Len.tab.before a s = true := by
  have hc : Cdr.tab.before a s = true := unparts (wk h (.code Cdr.yN Cdr.yB 1 (some .byte))) (wks h (.initialized Cdr.yN.cls :: Cdr.site))
  have q := consq hc h
  exact unparts (wk q (.code Len.yN Len.yB 1 (some .int))) (wks q (.initialized Len.yN.cls :: Len.site))
theorem movedLen {Z s : State} {a0 args : Array Value} (hZ : Z.Warmed39 s.vm) (hw : ∀ d ∈ wordsLen, d.before a0 Z = true) : ∀ d ∈ wordsLen, d.before args s = true := fun d hd => by
  have q := hw d hd
  have t : ∀ d ∈ wordsLen, d = .arrayClass .byte ∨ (d.onTables && d.keepsFace) = true := by decide +kernel
  rcases t d hd with rfl | t
  · exact RoadKit.mvA hZ q
  · exact RoadKit.mv hZ q t
/-- the bytes of the chars cs, low before high -/
def wideBytes : List Int32 → List Value
  | [] => []
  | c :: cs => .int (lo8 c) :: .int (hi8 c) :: wideBytes cs
theorem wide_lo (d : Value) : ∀ (cs : List Int32) (j : Nat), j < cs.length → (wideBytes cs).getD (2 * j) d = .int (lo8 (cs.getD j 0))
  | [], j, h => absurd h (Nat.not_lt_zero j)
  | c :: cs, 0, _ => rfl
  | c :: cs, j + 1, h => by
    have q := wide_lo d cs j (by simpa using h)
    rw [show 2 * (j + 1) = 2 * j + 1 + 1 from by omega]
    simpa [wideBytes] using q
theorem wide_hi (d : Value) : ∀ (cs : List Int32) (j : Nat), j < cs.length → (wideBytes cs).getD (2 * j + 1) d = .int (hi8 (cs.getD j 0))
  | [], j, h => absurd h (Nat.not_lt_zero j)
  | c :: cs, 0, _ => rfl
  | c :: cs, j + 1, h => by
    have q := wide_hi d cs j (by simpa using h)
    rw [show 2 * (j + 1) + 1 = 2 * j + 1 + 1 + 1 from by omega]
    simpa [wideBytes] using q
theorem low_at (d : Value) (cs : List Int32) (j : Nat) (h : j < cs.length) : (cs.map fun c => Value.int (lo8 c)).getD j d = .int (lo8 (cs.getD j 0)) := by
  simp [List.getD_eq_getElem?_getD, h]
/-- an array of N2 bytes vs codes the chars cs by the coder cd -/
def CodA (cs : List Int32) (cd N2 : Int32) (vs : List Value) : Prop := (cd = 0 ∧ N2 = Int32.ofNat cs.length ∧ vs = (cs.map fun c => Value.int (lo8 c)) ∧ ∀ c ∈ cs, ¬ 255 < c) ∨ (cd = 1 ∧ N2 = Int32.ofNat (2 * cs.length) ∧ vs = wideBytes cs ∧ ∃ c ∈ cs, 255 < c)
theorem CodA.cod {cs : List Int32} {cd N2 : Int32} {vs : List Value} {V : Cell} (h : CodA cs cd N2 vs) (hn : 2 * cs.length < 2 ^ 31) (hs : V.slots.size = N2.toNatClampNeg) (hv : RoadKit.Has V vs (.int 0)) : Cod cd cs.length (fun j => cs.getD j 0) V := by
  rcases h with ⟨rfl, rfl, rfl, h⟩ | ⟨rfl, rfl, rfl, c, hc, hw⟩
  · rw [n32 (by omega)] at hs
    exact Or.inl ⟨rfl, hs, fun j hj => ⟨by rw [hv j (by omega), low_at _ _ _ hj], by
      have e : cs.getD j 0 = cs[j] := by simp [List.getD_eq_getElem?_getD, hj]
      show ¬ 255 < cs.getD j 0
      rw [e]; exact h _ (List.getElem_mem _)⟩⟩
  · rw [n32 (by omega)] at hs
    obtain ⟨j, hj, rfl⟩ := List.getElem_of_mem hc
    exact Or.inr ⟨rfl, hs, fun j hj => ⟨by rw [hv _ (by omega), wide_lo _ _ _ hj], by rw [hv _ (by omega), wide_hi _ _ _ hj]⟩, j, hj, by
      have e : cs.getD j 0 = cs[j] := by simp [List.getD_eq_getElem?_getD, hj]
      show 255 < cs.getD j 0
      rw [e]; exact hw⟩
/-- an object of exactly java/lang/String, its two fields found: as the laws ask it -/
theorem strObj {Z U : State} {a0 : Array Value} {kI : Nat} (wi : (Jvm.Cond.instantiable ST kI).before a0 Z = true) (al : Z.vm.Alike U.vm) {x : Addr} {v0 c0 : Value} (E : RoadKit.Exa Z U.heap x ST) (V : RoadKit.Fld Z U.heap x ST "value" "[B" v0) (C : RoadKit.Fld Z U.heap x ST "coder" "B" c0) :
    ∃ (D : Cell) (fV fC : Field), Blank ST x D U ∧ Found ST "value" "[B" fV U ∧ Found ST "coder" "B" fC U ∧ D.slots[fV.slot]? = some v0 ∧ D.slots[fC.slot]? = some c0 ∧ RoadKit.slotOf Z ST "value" "[B" = fV.slot ∧ RoadKit.slotOf Z ST "coder" "B" = fC.slot := by
  obtain ⟨D, cfV, kV, iV, fV, hD, gV, stV, knV, obV, asV, slV⟩ := V
  obtain ⟨D', cfC, kC, iC, fC, hD', gC, stC, -, -, asC, slC⟩ := C
  cases hD.symm.trans hD'
  obtain ⟨D2, kD, e1, e2, e3, e4, e5⟩ := E
  cases hD.symm.trans e1
  obtain ⟨c2, k2, i1, i2, i3, -⟩ := Cond.instantiable_spec wi
  cases e2.symm.trans i1
  cases e3.symm.trans i2
  obtain ⟨kU, u1, u2⟩ := al.2.2 _ _ e3
  exact ⟨D, fV, fC, ⟨hD, ⟨knV, fun q hq => by rw [hq] at obV; cases obV⟩, by rw [al.findClass]; exact e2, kU, u1, by rw [u2]; exact i3, by rw [u2]; exact e5 i3⟩, ⟨SBG.found_only al ⟨cfV, kV, iV, gV⟩, stV⟩, ⟨SBG.found_only al ⟨cfC, kC, iC, gC⟩, stC⟩, slV, slC, by simp [RoadKit.slotOf, gV], by simp [RoadKit.slotOf, gC]⟩
theorem sta_is {Z U : State} (al : Z.vm.Alike U.vm) {C n d : String} {v : Value} (S : RoadKit.Sta Z U.heap C n d v) : StaticIs U C n d v := by
  obtain ⟨cfS, iS, kS, fS, st, cS, t1, t2, t3, t4, t5, t6, t7⟩ := S
  exact StaticIs.there (s := { Z with heap := U.heap }) ⟨cfS, iS, kS, fS, st, cS, t1, t2, t3, t4, t5, (fun q => by rw [q] at t6; cases t6), t7⟩ al rfl
/-- **length() OF SUCH A STRING** -/
theorem lenW {p : Program} {l : Launch} {e : Env} {R : Room} {s : State} {args : Array Value} {below : List Frame} {len W : Nat} {Z : State} {a0 : Array Value} {h : Heap} (hZ : Z.Warmed39 s.vm) (hw : ∀ d ∈ wordsLen, d.before a0 Z = true) {kI : Nat} (wi : (Jvm.Cond.instantiable ST kI).before a0 Z = true)
    {x t : Addr} {kb : ClassId} {cs : List Int32} {cd N2 z : Int32} {vs : List Value} (E : RoadKit.Exa Z h x ST) (V : RoadKit.Fld Z h x ST "value" "[B" (.ref t)) (C : RoadKit.Fld Z h x ST "coder" "B" (.int cd)) (K : RoadKit.Arv Z h t kb .byte N2 vs (.int 0)) (hc : CodA cs cd N2 vs) (hb : ∀ c ∈ cs, ¬ c < 0 ∧ ¬ (65535 : Int32) < c)
    (S : RoadKit.Sta Z h ST "COMPACT_STRINGS" "Z" (.int z)) (hz : ¬ z = 0) (l2 : cs.length ≤ 4000) (hfr : 2 ≤ R.frames) (hlo : W + 25 ≤ R.locals) :
    Back l R p e below s args (⟨"java/lang/String", "length", "()I"⟩ : MethodName) len W (fun P a => a = #[.ref x] ∧ P.U.heap = h ∧ P.cells + 0 ≤ R.cells ∧ P.slots + 0 ≤ R.slots)
      (fun P _ v B => ∃ L, (v = some (.int (Int32.ofNat cs.length)) ∧ L = [] ∧ B.U.heap = h) ∧ B.locs = P.locs ++ L ∧ B.cells = P.cells + 0 ∧ B.slots = P.slots + 0) := by
  obtain ⟨A, K1, K2, K3, K4, K5, K6⟩ := K
  have hcod := hc.cod (by omega) K3 K5
  intro m meth c P g ig mk a X hg hsize hdg hW hn hp'
  obtain ⟨rfl, rfl, r1, r2⟩ := hp'
  have al : Z.vm.Alike P.U.vm := hZ.alike.trans X.warmed.alike
  obtain ⟨D, fV, fC, hB, F1, F2, g1, g2, -, -⟩ := strObj wi al E V C
  have hx : Txt x t A cd cs.length (fun j => cs.getD j 0) P.U := ⟨⟨_, hB.2.2.1, D, hB.1, rfl, by cases q : D.vm <;> first | rfl | exact absurd q (hB.2.1.2 _)⟩, Has.of hB F1 g1, Has.of hB F2 g2, ⟨K1.1, State.isArrayOf_alike al K1.2.1, K1.2.2, by rcases hcod with ⟨-, q, -⟩ | ⟨-, q, -⟩ <;> omega⟩, hcod, fun j hj => by
    have e : cs.getD j 0 = cs[j] := by simp [List.getD_eq_getElem?_getD, hj]
    show ¬ cs.getD j 0 < 0 ∧ ¬ 65535 < cs.getD j 0
    rw [e]; exact hb _ (List.getElem_mem _)⟩
  obtain ⟨v, B, X', ⟨⟨hv, hh⟩, hl, hk, hs⟩, st⟩ := Len.pays x t A cd cs.length (fun j => cs.getD j 0) z (tabLen_of (movedLen hZ hw)) hfr hlo m meth c P g ig mk _ X hg hsize hdg hW hn ⟨r1, r2, rfl, hx, sta_is al S, hz⟩
  exact ⟨v, B, X', ⟨[], ⟨hv, rfl, hh⟩, hl, hk, hs⟩, st⟩
end StrChars.Road
namespace StrChars
open Jvm Sem ClassFile Op Lib Jvm.Stand Jvm.Free.XT Jvm.Free.ALB Jvm.Free.JM Jvm.Free
open Jvm.Lib.Cold (StaticIs)
namespace Emp
def yN : MethodName := ⟨"java/lang/String", "isEmpty", "()Z"⟩
abbrev yB : ByteArray := jdk_42_method_55_code
theorem d0 : decode yB 0 = .ok (.aload_n 0, 1) := by decide +kernel
theorem d1 : decode yB 1 = .ok (.getfield 9, 3) := by decide +kernel
theorem d4 : decode yB 4 = .ok (.arraylength, 1) := by decide +kernel
theorem d5 : decode yB 5 = .ok (.ifCond (.ne) 7, 3) := by decide +kernel
theorem d8 : decode yB 8 = .ok (.iconst 1, 1) := by decide +kernel
theorem d9 : decode yB 9 = .ok (.goto 4, 3) := by decide +kernel
theorem d12 : decode yB 12 = .ok (.iconst 0, 1) := by decide +kernel
theorem d13 : decode yB 13 = .ok (.ireturn, 1) := by decide +kernel
def site : List Cond := [.fieldLink "java/lang/String" 9 "java/lang/String" "value" "[B"]
def tab : Cond := tabOf yN yB 1 (some .boolean) site
def P (x t : Addr) (V : Cell) (cd : Int32) (n : Nat) (f : Nat → Int32) (args : Array Value) (s : State) : Prop := args = #[.ref x] ∧ Txt x t V cd n f s
def E (n : Nat) (r : Option Value) (s u : State) : Prop := XT.PureE (some (.int (if n = 0 then 1 else 0))) r s u
/-- isEmpty() of a String of n chars -/
theorem law (l : Launch) (x t : Addr) (V : Cell) (cd : Int32) (n : Nat) (f : Nat → Int32) : Law l yN 1 0 0 0 yB 1 (some .boolean) site (P x t V cd n f) (E n) [] 0 0 := by
  refine Law.of_walk (plainFor_of_name (by decide +kernel)) (by decide +kernel) (by decide +kernel) (by decide) (fun _ _ h => by rw [h.1]; rfl) (fun _ U U' hal hh h => ⟨h.1, h.2.mv hal hh⟩) (fun r U U' V V' h1 hal h2 h => XT.PureE.mv r U U' V V' h1 hal h2 h) ?_
  intro p e s m args below meth c s₁ X0 hexec hbytes hml hret hlk hnm hown hh0 W hP
  obtain ⟨rfl, hx⟩ := hP
  have v31 := hx.2.2.2.1.2.2.2
  have c1 : Steps p.tables e below (s₁.setTop (entryFrame m #[.ref x] 1)) (s₁.setTop (mkF m 1 #[.val (.ref x)] [.ref x])) := Steps.trans (entry rfl) (by
    show Steps p.tables e below (s₁.setTop (mkF m 0 #[.val (.ref x)] [])) _
    refine XS.aloadN X0.here hexec rfl (hb hbytes d0) rfl rfl ?_
    exact Steps.refl _)
  obtain ⟨T2, X2, q2, st2⟩ := X0.hget hexec hown (wk W (.fieldLink "java/lang/String" 9 "java/lang/String" "value" "[B")) (hx.mv X0.warmed.alike hh0).2.1 (g := (mkF m 1 #[.val (.ref x)] [.ref x])) rfl (rest := []) rfl (hb hbytes d1)
  have hh2 := q2.trans hh0
  have hx2 := hx.mv X2.warmed.alike hh2
  have c3 : Steps p.tables e below (s₁.setTop (entryFrame m #[.ref x] 1)) (T2.setTop (mkF m 5 #[.val (.ref x)] [.int (Int32.ofNat V.slots.size)])) := (c1.trans (st2 _ (Steps.refl _))).trans (by
    refine X2.alen hexec hx2.2.2.2.1 rfl rfl (hb hbytes d4) ?_
    exact Steps.refl _)
  have hz : V.slots.size = 0 ↔ n = 0 := by
    rcases hx.2.2.2.2.1 with ⟨-, q, -⟩ | ⟨-, q, -⟩ <;> omega
  by_cases h0 : n = 0
  · have c4 : Steps p.tables e below (s₁.setTop (entryFrame m #[.ref x] 1)) (T2.setTop (mkF m 13 #[.val (.ref x)] [.int 1])) := c3.trans (by
      refine XS.ifNo X2.here hexec rfl (hb hbytes d5) rfl (i0_ne_f (by rw [hz.mpr h0]; rfl)) ?_
      refine iconstV X2.here hexec rfl 1 (hb hbytes d8) (by decide) ?_
      refine XS.goto X2.here hexec rfl (pc0 := 9) rfl (hb hbytes d9) (by decide) rfl ?_
      exact Steps.refl _)
    exact ⟨T2, some (.int 1), _, _, _, X2, rfl, rfl, rfl, (fun h => by cases h), ⟨by rw [if_pos h0], hh2⟩, fun fs hl => c4.trans (X2.ireturnOut hexec hret rfl (Or.inr (Or.inl rfl)) (hb hbytes d13) hl)⟩
  · have c4 : Steps p.tables e below (s₁.setTop (entryFrame m #[.ref x] 1)) (T2.setTop (mkF m 13 #[.val (.ref x)] [.int 0])) := c3.trans (by
      refine XS.ifYes X2.here hexec rfl (pc0 := 5) rfl (hb hbytes d5) rfl (i0_ne_t (nz32 v31 (by omega))) (by decide) rfl ?_
      refine iconstV X2.here hexec rfl 0 (hb hbytes d12) (by decide) ?_
      exact Steps.refl _)
    exact ⟨T2, some (.int 0), _, _, _, X2, rfl, rfl, rfl, (fun h => by cases h), ⟨by rw [if_neg h0], hh2⟩, fun fs hl => c4.trans (X2.ireturnOut hexec hret rfl (Or.inr (Or.inl rfl)) (hb hbytes d13) hl)⟩
theorem pays {l : Launch} {R : Room} {p : Program} {e : Env} {below : List Frame} {s : State} {sargs : Array Value} {len W : Nat} (x t : Addr) (V : Cell) (cd : Int32) (n : Nat) (f : Nat → Int32) (htab : tab.before sargs s = true) (hfr : 1 ≤ R.frames) (hlo : W + 12 ≤ R.locals) :
    Back l R p e below s sargs yN len W (fun A₁ a₁ => A₁.cells + 0 ≤ R.cells ∧ A₁.slots + 0 ≤ R.slots ∧ P x t V cd n f a₁ A₁.U) (fun A₁ _ v₁ B₁ => E n v₁ A₁.U B₁.U ∧ B₁.locs = A₁.locs ++ [] ∧ B₁.cells = A₁.cells + 0 ∧ B₁.slots = A₁.slots + 0) :=
  (law l x t V cd n f).pays htab hfr (by omega)
end Emp
/-- what place i of a byte[]'s cell holds -/
def yv (A : Cell) (i : Nat) : Int32 := match A.slots[i]? with | some (.int x) => x | _ => 0
theorem yv_get {a : Addr} {A : Cell} {U : State} (h : XT.Arr .byte a A U) (ht : Typed .byte A) {i : Nat} (hi : i < A.slots.size) : A.slots[i]? = some (.int (yv A i)) := by
  have e := Array.getElem?_eq_getElem hi
  have f := ht i _ e
  unfold yv; rw [e]
  generalize A.slots[i] = v at f
  cases v <;> simp [fits] at f ⊢
/-- the two arrays are equal, place for place -/
def EqC (A B : Cell) : Prop := A.slots.size = B.slots.size ∧ ∀ i, i < A.slots.size → yv A i = yv B i
/-- a boolean that says whether p -/
def Says01 (q : Prop) (r : Option Value) (s u : State) : Prop := ∃ v : Int32, r = some (.int v) ∧ u.heap = s.heap ∧ ((v = 1 ∧ q) ∨ (v = 0 ∧ ¬ q))
theorem Says01.mv {q : Prop} : ∀ r (U U' V V' : State), U'.heap = U.heap → V.vm.Alike V'.vm → V'.heap = V.heap → Says01 q r U V → Says01 q r U' V' :=
  fun r U U' V V' h1 _ h2 ⟨v, a, b, c⟩ => ⟨v, a, by rw [h1, h2]; exact b, c⟩
namespace LEq
def yN : MethodName := ⟨"java/lang/StringLatin1", "equals", "([B[B)Z"⟩
abbrev yB : ByteArray := jdk_43_method_13_code
theorem d0 : decode yB 0 = .ok (.aload_n 0, 1) := by decide +kernel
theorem d1 : decode yB 1 = .ok (.arraylength, 1) := by decide +kernel
theorem d2 : decode yB 2 = .ok (.aload_n 1, 1) := by decide +kernel
theorem d3 : decode yB 3 = .ok (.arraylength, 1) := by decide +kernel
theorem d4 : decode yB 4 = .ok (.if_icmp (.ne) 30, 3) := by decide +kernel
theorem d7 : decode yB 7 = .ok (.iconst 0, 1) := by decide +kernel
theorem d8 : decode yB 8 = .ok (.istore_n 2, 1) := by decide +kernel
theorem d9 : decode yB 9 = .ok (.iload_n 2, 1) := by decide +kernel
theorem d10 : decode yB 10 = .ok (.aload_n 0, 1) := by decide +kernel
theorem d11 : decode yB 11 = .ok (.arraylength, 1) := by decide +kernel
theorem d12 : decode yB 12 = .ok (.if_icmp (.ge) 20, 3) := by decide +kernel
theorem d15 : decode yB 15 = .ok (.aload_n 0, 1) := by decide +kernel
theorem d16 : decode yB 16 = .ok (.iload_n 2, 1) := by decide +kernel
theorem d17 : decode yB 17 = .ok (.baload, 1) := by decide +kernel
theorem d18 : decode yB 18 = .ok (.aload_n 1, 1) := by decide +kernel
theorem d19 : decode yB 19 = .ok (.iload_n 2, 1) := by decide +kernel
theorem d20 : decode yB 20 = .ok (.baload, 1) := by decide +kernel
theorem d21 : decode yB 21 = .ok (.if_icmp (.eq) 5, 3) := by decide +kernel
theorem d24 : decode yB 24 = .ok (.iconst 0, 1) := by decide +kernel
theorem d25 : decode yB 25 = .ok (.ireturn, 1) := by decide +kernel
theorem d26 : decode yB 26 = .ok (.iinc 2 1, 3) := by decide +kernel
theorem d29 : decode yB 29 = .ok (.goto (-20), 3) := by decide +kernel
theorem d32 : decode yB 32 = .ok (.iconst 1, 1) := by decide +kernel
theorem d33 : decode yB 33 = .ok (.ireturn, 1) := by decide +kernel
theorem d34 : decode yB 34 = .ok (.iconst 0, 1) := by decide +kernel
theorem d35 : decode yB 35 = .ok (.ireturn, 1) := by decide +kernel
def site : List Cond := []
def tab : Cond := tabOf yN yB 3 (some .boolean) site
def P (a : Addr) (A : Cell) (b : Addr) (B : Cell) (args : Array Value) (s : State) : Prop := args = #[.ref a, .ref b] ∧ XT.Arr .byte a A s ∧ Typed .byte A ∧ XT.Arr .byte b B s ∧ Typed .byte B
/-- whether two byte[] are equal, place for place -/
theorem law (l : Launch) (a : Addr) (A : Cell) (b : Addr) (B : Cell) : Law l yN 2 2 0 0 yB 3 (some .boolean) site (P a A b B) (Says01 (EqC A B)) [] 0 0 := by
  refine Law.of_walk (plainFor_of_name (by decide +kernel)) (by decide +kernel) (by decide +kernel) (by decide) (fun _ _ h => by rw [h.1]; rfl) (fun _ U U' hal hh h => ⟨h.1, h.2.1.mv hal hh, h.2.2.1, h.2.2.2.1.mv hal hh, h.2.2.2.2⟩) (fun r U U' V V' h1 hal h2 h => Says01.mv r U U' V V' h1 hal h2 h) ?_
  intro p e s m args below meth c s₁ X0 hexec hbytes hml hret hlk hnm hown hh0 W hP
  obtain ⟨rfl, hA, tA, hB, tB⟩ := hP
  have a31 := hA.2.2.2
  have b31 := hB.2.2.2
  have hA0 := hA.mv X0.warmed.alike hh0
  have hB0 := hB.mv X0.warmed.alike hh0
  have c1 : Steps p.tables e below (s₁.setTop (entryFrame m #[.ref a, .ref b] 3)) (s₁.setTop (mkF m 0 #[.val (.ref a), .val (.ref b), .unset] [])) := entry rfl
  have c2 : Steps p.tables e below (s₁.setTop (entryFrame m #[.ref a, .ref b] 3)) (s₁.setTop (mkF m 4 #[.val (.ref a), .val (.ref b), .unset] [.int (Int32.ofNat B.slots.size), .int (Int32.ofNat A.slots.size)])) := c1.trans (by
    refine XS.aloadN X0.here hexec rfl (hb hbytes d0) rfl rfl ?_
    refine X0.alen hexec hA0 rfl rfl (hb hbytes d1) ?_
    refine XS.aloadN X0.here hexec rfl (hb hbytes d2) rfl rfl ?_
    refine X0.alen hexec hB0 rfl rfl (hb hbytes d3) ?_
    exact Steps.refl _)
  by_cases hs : A.slots.size = B.slots.size
  · have c3 : Steps p.tables e below (s₁.setTop (entryFrame m #[.ref a, .ref b] 3)) (s₁.setTop (mkF m 9 #[.val (.ref a), .val (.ref b), .val (.int 0)] [])) := c2.trans (by
      refine XS.icmpNo X0.here hexec rfl (hb hbytes d4) rfl (ii_ne_f (by rw [hs])) ?_
      refine iconstV X0.here hexec rfl 0 (hb hbytes d7) (by decide) ?_
      refine XS.istoreN X0.here hexec rfl (hb hbytes d8) rfl rfl ?_
      exact Steps.refl _)
    have loop : ∀ (r i : Nat), i + r = A.slots.size → (∀ j, j < i → yv A j = yv B j) → Steps p.tables e below (s₁.setTop (entryFrame m #[.ref a, .ref b] 3)) (s₁.setTop (mkF m 9 #[.val (.ref a), .val (.ref b), .val (.int (Int32.ofNat i))] [])) → ∃ (pc : Nat) (Ls : Array Slot) (v : Int32), (pc = 25 ∨ pc = 33) ∧ ((v = 1 ∧ EqC A B) ∨ (v = 0 ∧ ¬ EqC A B)) ∧ Steps p.tables e below (s₁.setTop (entryFrame m #[.ref a, .ref b] 3)) (s₁.setTop (mkF m pc Ls [.int v])) := by
      intro r
      induction r with
      | zero =>
        intro i hi he cl
        exact ⟨33, _, 1, Or.inr rfl, Or.inl ⟨rfl, hs, fun j hj => he j (by omega)⟩, cl.trans (by
          refine XS.iloadN X0.here hexec rfl (hb hbytes d9) rfl ?_
          refine XS.aloadN X0.here hexec rfl (hb hbytes d10) rfl rfl ?_
          refine X0.alen hexec hA0 rfl rfl (hb hbytes d11) ?_
          refine XS.icmpYes X0.here hexec rfl (pc0 := 12) rfl (hb hbytes d12) rfl (ii_ge_t (nlt32 (by omega) (by omega))) (by decide) rfl ?_
          refine iconstV X0.here hexec rfl 1 (hb hbytes d32) (by decide) ?_
          exact Steps.refl _)⟩
      | succ r ih =>
        intro i hi he cl
        have c4 : Steps p.tables e below (s₁.setTop (entryFrame m #[.ref a, .ref b] 3)) (s₁.setTop (mkF m 21 #[.val (.ref a), .val (.ref b), .val (.int (Int32.ofNat i))] [.int (yv B i), .int (yv A i)])) := cl.trans (by
          refine XS.iloadN X0.here hexec rfl (hb hbytes d9) rfl ?_
          refine XS.aloadN X0.here hexec rfl (hb hbytes d10) rfl rfl ?_
          refine X0.alen hexec hA0 rfl rfl (hb hbytes d11) ?_
          refine XS.icmpNo X0.here hexec rfl (hb hbytes d12) rfl (ii_ge_f (lt32 (by omega) (by omega))) ?_
          refine XS.aloadN X0.here hexec rfl (hb hbytes d15) rfl rfl ?_
          refine XS.iloadN X0.here hexec rfl (hb hbytes d16) rfl ?_
          refine X0.aget hexec hA0 rfl (yv_get hA tA (i := i) (by omega)) rfl rfl (hb hbytes d17) ?_
          refine XS.aloadN X0.here hexec rfl (hb hbytes d18) rfl rfl ?_
          refine XS.iloadN X0.here hexec rfl (hb hbytes d19) rfl ?_
          refine X0.aget hexec hB0 rfl (yv_get hB tB (i := i) (by omega)) rfl rfl (hb hbytes d20) ?_
          exact Steps.refl _)
        by_cases hv : yv A i = yv B i
        · have c5 : Steps p.tables e below (s₁.setTop (entryFrame m #[.ref a, .ref b] 3)) (s₁.setTop (mkF m 9 #[.val (.ref a), .val (.ref b), .val (.int (Int32.ofNat i + 1))] [])) := c4.trans (by
            refine XS.icmpYes X0.here hexec rfl (pc0 := 21) rfl (hb hbytes d21) rfl (ii_eq_t hv) (by decide) rfl ?_
            refine iincV X0.here hexec rfl 1 (hb hbytes d26) (by decide) rfl rfl ?_
            refine XS.goto X0.here hexec rfl (pc0 := 29) rfl (hb hbytes d29) (by decide) rfl ?_
            exact Steps.refl _)
          rw [succ32] at c5
          exact ih (i + 1) (by omega) (fun j hj => by
            by_cases e : j = i
            · rw [e]; exact hv
            · exact he j (by omega)) c5
        · exact ⟨25, _, 0, Or.inl rfl, Or.inr ⟨rfl, fun q => hv (q.2 i (by omega))⟩, c4.trans (by
            refine XS.icmpNo X0.here hexec rfl (hb hbytes d21) rfl (ii_eq_f hv) ?_
            refine iconstV X0.here hexec rfl 0 (hb hbytes d24) (by decide) ?_
            exact Steps.refl _)⟩
    obtain ⟨pc, Ls, v, hpc, hv, cz⟩ := loop A.slots.size 0 (by omega) (fun j hj => absurd hj (Nat.not_lt_zero j)) c3
    have nv : narrow .boolean (.int v) = .int v := by rcases hv with ⟨rfl, -⟩ | ⟨rfl, -⟩ <;> rfl
    rcases hpc with rfl | rfl
    · exact ⟨s₁, some (.int v), _, _, _, X0, rfl, rfl, rfl, (fun h => by cases h), ⟨v, rfl, hh0, hv⟩, fun fs hl => cz.trans (X0.ireturnOut hexec hret nv (Or.inr (Or.inl rfl)) (hb hbytes d25) hl)⟩
    · exact ⟨s₁, some (.int v), _, _, _, X0, rfl, rfl, rfl, (fun h => by cases h), ⟨v, rfl, hh0, hv⟩, fun fs hl => cz.trans (X0.ireturnOut hexec hret nv (Or.inr (Or.inl rfl)) (hb hbytes d33) hl)⟩
  · have c3 : Steps p.tables e below (s₁.setTop (entryFrame m #[.ref a, .ref b] 3)) (s₁.setTop (mkF m 35 #[.val (.ref a), .val (.ref b), .unset] [.int 0])) := c2.trans (by
      refine XS.icmpYes X0.here hexec rfl (pc0 := 4) rfl (hb hbytes d4) rfl (ii_ne_t (ne32 a31 b31 hs)) (by decide) rfl ?_
      refine iconstV X0.here hexec rfl 0 (hb hbytes d34) (by decide) ?_
      exact Steps.refl _)
    exact ⟨s₁, some (.int 0), _, _, _, X0, rfl, rfl, rfl, (fun h => by cases h), ⟨0, rfl, hh0, Or.inr ⟨rfl, fun q => hs q.1⟩⟩, fun fs hl => c3.trans (X0.ireturnOut hexec hret rfl (Or.inr (Or.inl rfl)) (hb hbytes d35) hl)⟩
end LEq
theorem Cod.ty {cd : Int32} {n : Nat} {f : Nat → Int32} {V : Cell} (h : Cod cd n f V) : Typed .byte V := fun i v hv => by
  have hi : i < V.slots.size := (Array.getElem?_eq_some_iff.mp hv).1
  rcases h with ⟨-, k1, k2⟩ | ⟨-, k1, k2, -⟩
  · rw [(k2 i (by omega)).1] at hv; cases hv; exact fits_lo8 _
  · rcases Nat.mod_two_eq_zero_or_one i with e | e
    · obtain ⟨j, rfl⟩ : ∃ j, i = 2 * j := ⟨i / 2, by omega⟩
      rw [(k2 j (by omega)).1] at hv; cases hv; exact fits_lo8 _
    · obtain ⟨j, rfl⟩ : ∃ j, i = 2 * j + 1 := ⟨i / 2, by omega⟩
      rw [(k2 j (by omega)).2] at hv; cases hv; exact fits_lo8 _
/-- the same text -/
def SameT (n : Nat) (f : Nat → Int32) (k : Nat) (g : Nat → Int32) : Prop := n = k ∧ ∀ j, j < n → f j = g j
theorem lo8_inj {x y : Int32} (h0 : ¬ x < 0) (h1 : ¬ 255 < x) (k0 : ¬ y < 0) (k1 : ¬ 255 < y) (h : lo8 x = lo8 y) : x = y := by
  rw [← lo8_mask h0 h1, ← lo8_mask k0 k1, h]
/-- arrays coded by one coder are equal just where the texts are -/
theorem Cod.eqv {cd : Int32} {n k : Nat} {f g : Nat → Int32} {V V' : Cell} (h : Cod cd n f V) (h' : Cod cd k g V') (hf : ∀ j, j < n → ¬ f j < 0 ∧ ¬ 65535 < f j) (hg : ∀ j, j < k → ¬ g j < 0 ∧ ¬ 65535 < g j) : EqC V V' ↔ SameT n f k g := by
  have yvv : ∀ {W : Cell} {i : Nat} {x : Int32}, W.slots[i]? = some (.int x) → yv W i = x := fun q => by unfold yv; rw [q]
  rcases h with ⟨rfl, k1, k2⟩ | ⟨rfl, k1, k2, -⟩
  · rcases h' with ⟨-, m1, m2⟩ | ⟨e, -⟩
    · constructor
      · rintro ⟨e1, e2⟩
        refine ⟨by omega, fun j hj => ?_⟩
        have q := e2 j (by omega)
        rw [yvv (k2 j hj).1, yvv (m2 j (by omega)).1] at q
        exact lo8_inj (hf j hj).1 (k2 j hj).2 (hg j (by omega)).1 (m2 j (by omega)).2 q
      · rintro ⟨rfl, e2⟩
        refine ⟨by omega, fun j hj => ?_⟩
        rw [yvv (k2 j (by omega)).1, yvv (m2 j (by omega)).1, e2 j (by omega)]
    · exact absurd e (by decide)
  · rcases h' with ⟨e, -⟩ | ⟨-, m1, m2, -⟩
    · exact absurd e (by decide)
    · constructor
      · rintro ⟨e1, e2⟩
        refine ⟨by omega, fun j hj => ?_⟩
        have q1 := e2 (2 * j) (by omega)
        have q2 := e2 (2 * j + 1) (by omega)
        rw [yvv (k2 j hj).1, yvv (m2 j (by omega)).1] at q1
        rw [yvv (k2 j hj).2, yvv (m2 j (by omega)).2] at q2
        rw [← pair_says (hf j hj).1 (hf j hj).2, ← pair_says (hg j (by omega)).1 (hg j (by omega)).2, q1, q2]
      · rintro ⟨rfl, e2⟩
        refine ⟨by omega, fun i hi => ?_⟩
        rcases Nat.mod_two_eq_zero_or_one i with e | e
        · obtain ⟨j, rfl⟩ : ∃ j, i = 2 * j := ⟨i / 2, by omega⟩
          rw [yvv (k2 j (by omega)).1, yvv (m2 j (by omega)).1, e2 j (by omega)]
        · obtain ⟨j, rfl⟩ : ∃ j, i = 2 * j + 1 := ⟨i / 2, by omega⟩
          rw [yvv (k2 j (by omega)).2, yvv (m2 j (by omega)).2, e2 j (by omega)]
/-- two codings differ: so do the texts -/
theorem Cod.dif {cd cd' : Int32} {n k : Nat} {f g : Nat → Int32} {V V' : Cell} (h : Cod cd n f V) (h' : Cod cd' k g V') (hne : ¬ cd = cd') : ¬ SameT n f k g := by
  rintro ⟨rfl, e⟩
  rcases h with ⟨rfl, -, k2⟩ | ⟨rfl, -, -, j, hj, hw⟩
  · rcases h' with ⟨rfl, -⟩ | ⟨-, -, -, j, hj, hw⟩
    · exact hne rfl
    · exact (k2 j hj).2 (by rw [e j hj]; exact hw)
  · rcases h' with ⟨-, -, m2⟩ | ⟨rfl, -⟩
    · exact (m2 j hj).2 (by rw [← e j hj]; exact hw)
    · exact hne rfl
/-- an object of exactly C is an instance of C -/
theorem cinst {p : Program} {l : Launch} {e : Env} {R : Room} {s : State} {m : MethodId} {args : Array Value} {below : List Frame} {meth : Method} {c : Code} {T : State} {locs : List Loc} {cells slots : Nat} (X : Stand p l e R s m args below meth c T locs cells slots) (hexec : p.tables.exec = Jvm.exec) {own C : String} {index : Nat} (hown : s.vm.findClass own = some m.cls) (hlink : (Cond.classLink own index C).before args s = true) {a : Addr} (hE : Exact C a T)
    {g : JFrame} (hg : g.method = m) {rest : List Value} (hstack : g.stack = .ref a :: rest) (hdg : decode c.code g.pc = .ok (.instanceof index, 3)) :
    ∃ T', Stand p l e R s m args below meth c T' locs cells slots ∧ T'.heap = T.heap ∧ ∀ target, Steps p.tables e below (T'.setTop { g with pc := g.pc + 3, stack := .int 1 :: rest }) target → Steps p.tables e below (T.setTop g) target := by
  obtain ⟨cB, h1, D, h2, h3, h4⟩ := hE
  have h1' : s.vm.findClass C = some cB := by rw [← X.warmed.alike.findClass]; exact h1
  obtain ⟨vm', X', st⟩ := X.instanceofYes hexec hown hlink h2 h4 h1' (by rw [h3]; exact Jvm.Free.SB.assignable_self _ _) hg hstack hdg
  exact ⟨_, X', rfl, st⟩
theorem cself {p : Program} {l : Launch} {e : Env} {R : Room} {s : State} {m : MethodId} {args : Array Value} {below : List Frame} {meth : Method} {c : Code} {T : State} {locs : List Loc} {cells slots : Nat} (X : Stand p l e R s m args below meth c T locs cells slots) (hexec : p.tables.exec = Jvm.exec) {own C : String} {index : Nat} (hown : s.vm.findClass own = some m.cls) (hlink : (Cond.classLink own index C).before args s = true) {a : Addr} (hE : Exact C a T)
    {g : JFrame} (hg : g.method = m) {rest : List Value} (hstack : g.stack = .ref a :: rest) (hdg : decode c.code g.pc = .ok (.checkcast index, 3)) :
    ∃ T', Stand p l e R s m args below meth c T' locs cells slots ∧ T'.heap = T.heap ∧ ∀ target, Steps p.tables e below (T'.setTop { g with pc := g.pc + 3, stack := .ref a :: rest }) target → Steps p.tables e below (T.setTop g) target := by
  obtain ⟨cB, h1, D, h2, h3, h4⟩ := hE
  have h1' : s.vm.findClass C = some cB := by rw [← X.warmed.alike.findClass]; exact h1
  obtain ⟨vm', X', st⟩ := X.checkcastYes hexec hown hlink h2 h4 h1' (by rw [h3]; exact Jvm.Free.SB.assignable_self _ _) hg hstack hdg
  exact ⟨_, X', rfl, fun t h => st t (by rw [← hstack] at h; exact h)⟩
namespace SEq
def yN : MethodName := ⟨"java/lang/String", "equals", "(Ljava/lang/Object;)Z"⟩
abbrev yB : ByteArray := jdk_42_method_66_code
theorem d0 : decode yB 0 = .ok (.aload_n 0, 1) := by decide +kernel
theorem d1 : decode yB 1 = .ok (.aload_n 1, 1) := by decide +kernel
theorem d2 : decode yB 2 = .ok (.if_acmp (.ne) 5, 3) := by decide +kernel
theorem d5 : decode yB 5 = .ok (.iconst 1, 1) := by decide +kernel
theorem d6 : decode yB 6 = .ok (.ireturn, 1) := by decide +kernel
theorem d7 : decode yB 7 = .ok (.aload_n 1, 1) := by decide +kernel
theorem d8 : decode yB 8 = .ok (.instanceof 10, 3) := by decide +kernel
theorem d11 : decode yB 11 = .ok (.ifCond (.eq) 43, 3) := by decide +kernel
theorem d14 : decode yB 14 = .ok (.aload_n 1, 1) := by decide +kernel
theorem d15 : decode yB 15 = .ok (.checkcast 10, 3) := by decide +kernel
theorem d18 : decode yB 18 = .ok (.astore_n 2, 1) := by decide +kernel
theorem d19 : decode yB 19 = .ok (.getstatic 38, 3) := by decide +kernel
theorem d22 : decode yB 22 = .ok (.ifCond (.eq) 14, 3) := by decide +kernel
theorem d25 : decode yB 25 = .ok (.aload_n 0, 1) := by decide +kernel
theorem d26 : decode yB 26 = .ok (.getfield 15, 3) := by decide +kernel
theorem d29 : decode yB 29 = .ok (.aload_n 2, 1) := by decide +kernel
theorem d30 : decode yB 30 = .ok (.getfield 15, 3) := by decide +kernel
theorem d33 : decode yB 33 = .ok (.if_icmp (.ne) 21, 3) := by decide +kernel
theorem d36 : decode yB 36 = .ok (.aload_n 0, 1) := by decide +kernel
theorem d37 : decode yB 37 = .ok (.getfield 9, 3) := by decide +kernel
theorem d40 : decode yB 40 = .ok (.aload_n 2, 1) := by decide +kernel
theorem d41 : decode yB 41 = .ok (.getfield 9, 3) := by decide +kernel
theorem d44 : decode yB 44 = .ok (.invokestatic 541, 3) := by decide +kernel
theorem d47 : decode yB 47 = .ok (.ifCond (.eq) 7, 3) := by decide +kernel
theorem d50 : decode yB 50 = .ok (.iconst 1, 1) := by decide +kernel
theorem d51 : decode yB 51 = .ok (.goto 4, 3) := by decide +kernel
theorem d54 : decode yB 54 = .ok (.iconst 0, 1) := by decide +kernel
theorem d55 : decode yB 55 = .ok (.ireturn, 1) := by decide +kernel
def site : List Cond := [.classLink "java/lang/String" 10 "java/lang/String", .fieldLink "java/lang/String" 38 "java/lang/String" "COMPACT_STRINGS" "Z", .fieldLink "java/lang/String" 15 "java/lang/String" "coder" "B", .fieldLink "java/lang/String" 9 "java/lang/String" "value" "[B", LEq.tab] ++ staticW "java/lang/String" 541 LEq.yN
def tab : Cond := tabOf yN yB 3 (some .boolean) site
def P (x t : Addr) (V : Cell) (cd : Int32) (n : Nat) (f : Nat → Int32) (y t' : Addr) (V' : Cell) (cd' : Int32) (k : Nat) (g : Nat → Int32) (z : Int32) (args : Array Value) (s : State) : Prop := args = #[.ref x, .ref y] ∧ Txt x t V cd n f s ∧ Txt y t' V' cd' k g s ∧ StaticIs s "java/lang/String" "COMPACT_STRINGS" "Z" (.int z) ∧ ¬ z = 0
/-- equals(Object) of two Strings: whether the texts are the same -/
theorem law (l : Launch) (x t : Addr) (V : Cell) (cd : Int32) (n : Nat) (f : Nat → Int32) (y t' : Addr) (V' : Cell) (cd' : Int32) (k : Nat) (g : Nat → Int32) (z : Int32) : Law l yN 2 1 1 14 yB 3 (some .boolean) site (P x t V cd n f y t' V' cd' k g z) (Says01 (SameT n f k g)) [] 0 0 := by
  refine Law.of_walk (plainFor_of_name (by decide +kernel)) (by decide +kernel) (by decide +kernel) (by decide) (fun _ _ h => by rw [h.1]; rfl) (fun _ U U' hal hh h => ⟨h.1, h.2.1.mv hal hh, h.2.2.1.mv hal hh, h.2.2.2.1.there hal hh, h.2.2.2.2⟩) (fun r U U' V V' h1 hal h2 h => Says01.mv r U U' V V' h1 hal h2 h) ?_
  intro p e s m args below meth c s₁ X0 hexec hbytes hml hret hlk hnm hown hh0 W hP
  obtain ⟨rfl, hx, hy, s1, hz⟩ := hP
  have c1 : Steps p.tables e below (s₁.setTop (entryFrame m #[.ref x, .ref y] 3)) (s₁.setTop (mkF m 2 #[.val (.ref x), .val (.ref y), .unset] [.ref y, .ref x])) := Steps.trans (entry rfl) (by
    show Steps p.tables e below (s₁.setTop (mkF m 0 #[.val (.ref x), .val (.ref y), .unset] [])) _
    refine XS.aloadN X0.here hexec rfl (hb hbytes d0) rfl rfl ?_
    refine XS.aloadN X0.here hexec rfl (hb hbytes d1) rfl rfl ?_
    exact Steps.refl _)
  by_cases hxy : x = y
  · have c2 : Steps p.tables e below (s₁.setTop (entryFrame m #[.ref x, .ref y] 3)) (s₁.setTop (mkF m 6 #[.val (.ref x), .val (.ref y), .unset] [.int 1])) := c1.trans (by
      refine acmpNo X0.here hexec rfl (hb hbytes d2) rfl rfl rfl (by simp [acmp, hxy]) ?_
      refine iconstV X0.here hexec rfl 1 (hb hbytes d5) (by decide) ?_
      exact Steps.refl _)
    subst hxy
    have ec : cd = cd' := by
      obtain ⟨D, fd, a1, a2, a3⟩ := hx.2.2.1
      obtain ⟨D', fd', b1, b2, b3⟩ := hy.2.2.1
      cases a1.symm.trans b1
      obtain ⟨q1, q2, q3, q4⟩ := a2.1
      obtain ⟨r1, r2, r3, r4⟩ := b2.1
      cases q4.symm.trans r4
      cases a3.symm.trans b3; rfl
    have et : t = t' := by
      obtain ⟨D, fd, a1, a2, a3⟩ := hx.2.1
      obtain ⟨D', fd', b1, b2, b3⟩ := hy.2.1
      cases a1.symm.trans b1
      obtain ⟨q1, q2, q3, q4⟩ := a2.1
      obtain ⟨r1, r2, r3, r4⟩ := b2.1
      cases q4.symm.trans r4
      cases a3.symm.trans b3; rfl
    subst ec et
    have ev : V = V' := by cases hx.2.2.2.1.1.symm.trans hy.2.2.2.1.1; rfl
    subst ev
    have hs : SameT n f k g := (Cod.eqv hx.2.2.2.2.1 hy.2.2.2.2.1 hx.2.2.2.2.2 hy.2.2.2.2.2).mp ⟨rfl, fun _ _ => rfl⟩
    exact ⟨s₁, some (.int 1), _, _, _, X0, rfl, rfl, rfl, (fun h => by cases h), ⟨1, rfl, hh0, Or.inl ⟨rfl, hs⟩⟩, fun fs hl => c2.trans (X0.ireturnOut hexec hret rfl (Or.inr (Or.inl rfl)) (hb hbytes d6) hl)⟩
  · have c2 : Steps p.tables e below (s₁.setTop (entryFrame m #[.ref x, .ref y] 3)) (s₁.setTop (mkF m 8 #[.val (.ref x), .val (.ref y), .unset] [.ref y])) := c1.trans (by
      refine acmpYes X0.here hexec rfl (pc0 := 2) rfl (hb hbytes d2) rfl rfl rfl (by simp [acmp, hxy]) (by decide) rfl ?_
      refine XS.aloadN X0.here hexec rfl (hb hbytes d7) rfl rfl ?_
      exact Steps.refl _)
    obtain ⟨T3, X3, q3, st3⟩ := cinst X0 hexec hown (wk W (.classLink "java/lang/String" 10 "java/lang/String")) (hy.mv X0.warmed.alike hh0).1 (g := (mkF m 8 #[.val (.ref x), .val (.ref y), .unset] [.ref y])) rfl (rest := []) rfl (hb hbytes d8)
    have hh3 := q3.trans hh0
    have c4 : Steps p.tables e below (s₁.setTop (entryFrame m #[.ref x, .ref y] 3)) (T3.setTop (mkF m 15 #[.val (.ref x), .val (.ref y), .unset] [.ref y])) := (c2.trans (st3 _ (Steps.refl _))).trans (by
      refine XS.ifNo X3.here hexec rfl (hb hbytes d11) rfl (i0_eq_f (by decide)) ?_
      refine XS.aloadN X3.here hexec rfl (hb hbytes d14) rfl rfl ?_
      exact Steps.refl _)
    obtain ⟨T5, X5, q5, st5⟩ := cself X3 hexec hown (wk W (.classLink "java/lang/String" 10 "java/lang/String")) (hy.mv X3.warmed.alike hh3).1 (g := (mkF m 15 #[.val (.ref x), .val (.ref y), .unset] [.ref y])) rfl (rest := []) rfl (hb hbytes d15)
    have hh5 := q5.trans hh3
    have c6 : Steps p.tables e below (s₁.setTop (entryFrame m #[.ref x, .ref y] 3)) (T5.setTop (mkF m 19 #[.val (.ref x), .val (.ref y), .val (.ref y)] [])) := (c4.trans (st5 _ (Steps.refl _))).trans (by
      refine XS.astoreN X5.here hexec rfl (hb hbytes d18) rfl rfl rfl ?_
      exact Steps.refl _)
    obtain ⟨T7, X7, q7, st7⟩ := X5.sget hexec hown (wk W (.fieldLink "java/lang/String" 38 "java/lang/String" "COMPACT_STRINGS" "Z")) s1 (fun _ _ h => by rw [hh5]; exact h) (g := (mkF m 19 #[.val (.ref x), .val (.ref y), .val (.ref y)] [])) rfl (hb hbytes d19)
    have hh7 := q7.trans hh5
    have c8 : Steps p.tables e below (s₁.setTop (entryFrame m #[.ref x, .ref y] 3)) (T7.setTop (mkF m 26 #[.val (.ref x), .val (.ref y), .val (.ref y)] [.ref x])) := (c6.trans (st7 _ (Steps.refl _))).trans (by
      refine XS.ifNo X7.here hexec rfl (hb hbytes d22) rfl (i0_eq_f hz) ?_
      refine XS.aloadN X7.here hexec rfl (hb hbytes d25) rfl rfl ?_
      exact Steps.refl _)
    obtain ⟨T9, X9, q9, st9⟩ := X7.hget hexec hown (wk W (.fieldLink "java/lang/String" 15 "java/lang/String" "coder" "B")) (hx.mv X7.warmed.alike hh7).2.2.1 (g := (mkF m 26 #[.val (.ref x), .val (.ref y), .val (.ref y)] [.ref x])) rfl (rest := []) rfl (hb hbytes d26)
    have hh9 := q9.trans hh7
    have c10 : Steps p.tables e below (s₁.setTop (entryFrame m #[.ref x, .ref y] 3)) (T9.setTop (mkF m 30 #[.val (.ref x), .val (.ref y), .val (.ref y)] [.ref y, .int cd])) := (c8.trans (st9 _ (Steps.refl _))).trans (by
      refine XS.aloadN X9.here hexec rfl (hb hbytes d29) rfl rfl ?_
      exact Steps.refl _)
    obtain ⟨T11, X11, q11, st11⟩ := X9.hget hexec hown (wk W (.fieldLink "java/lang/String" 15 "java/lang/String" "coder" "B")) (hy.mv X9.warmed.alike hh9).2.2.1 (g := (mkF m 30 #[.val (.ref x), .val (.ref y), .val (.ref y)] [.ref y, .int cd])) rfl (rest := [.int cd]) rfl (hb hbytes d30)
    have hh11 := q11.trans hh9
    have c12 : Steps p.tables e below (s₁.setTop (entryFrame m #[.ref x, .ref y] 3)) (T11.setTop (mkF m 33 #[.val (.ref x), .val (.ref y), .val (.ref y)] [.int cd', .int cd])) := c10.trans (st11 _ (Steps.refl _))
    by_cases hcd : cd = cd'
    · subst hcd
      have c13 : Steps p.tables e below (s₁.setTop (entryFrame m #[.ref x, .ref y] 3)) (T11.setTop (mkF m 37 #[.val (.ref x), .val (.ref y), .val (.ref y)] [.ref x])) := c12.trans (by
        refine XS.icmpNo X11.here hexec rfl (hb hbytes d33) rfl (ii_ne_f rfl) ?_
        refine XS.aloadN X11.here hexec rfl (hb hbytes d36) rfl rfl ?_
        exact Steps.refl _)
      obtain ⟨T14, X14, q14, st14⟩ := X11.hget hexec hown (wk W (.fieldLink "java/lang/String" 9 "java/lang/String" "value" "[B")) (hx.mv X11.warmed.alike hh11).2.1 (g := (mkF m 37 #[.val (.ref x), .val (.ref y), .val (.ref y)] [.ref x])) rfl (rest := []) rfl (hb hbytes d37)
      have hh14 := q14.trans hh11
      have c15 : Steps p.tables e below (s₁.setTop (entryFrame m #[.ref x, .ref y] 3)) (T14.setTop (mkF m 41 #[.val (.ref x), .val (.ref y), .val (.ref y)] [.ref y, .ref t])) := (c13.trans (st14 _ (Steps.refl _))).trans (by
        refine XS.aloadN X14.here hexec rfl (hb hbytes d40) rfl rfl ?_
        exact Steps.refl _)
      obtain ⟨T16, X16, q16, st16⟩ := X14.hget hexec hown (wk W (.fieldLink "java/lang/String" 9 "java/lang/String" "value" "[B")) (hy.mv X14.warmed.alike hh14).2.1 (g := (mkF m 41 #[.val (.ref x), .val (.ref y), .val (.ref y)] [.ref y, .ref t])) rfl (rest := [.ref t]) rfl (hb hbytes d41)
      have hh16 := q16.trans hh14
      have c17 : Steps p.tables e below (s₁.setTop (entryFrame m #[.ref x, .ref y] 3)) (T16.setTop (mkF m 44 #[.val (.ref x), .val (.ref y), .val (.ref y)] [.ref t', .ref t])) := c15.trans (st16 _ (Steps.refl _))
      obtain ⟨v18, T18, X18, E18, g18⟩ := X16.callS hexec (LEq.law l t V t' V') hown (wks W (staticW "java/lang/String" 541 LEq.yN)) (wk W LEq.tab) (W := 0) (Nat.le_of_ble_eq_true rfl) (Nat.le_of_ble_eq_true rfl) (Nat.le_refl _) (Nat.le_refl _) (g := (mkF m 44 #[.val (.ref x), .val (.ref y), .val (.ref y)] [.ref t', .ref t])) rfl (by rw [hml]; rfl) c17 (argsL := [.ref t, .ref t']) (rest := []) rfl rfl (by show 2 * 0 + 0 ≤ _; decide) (hb hbytes d44) (⟨rfl, hx.2.2.2.1.mv X16.warmed.alike hh16, hx.2.2.2.2.1.ty, hy.2.2.2.1.mv X16.warmed.alike hh16, hy.2.2.2.2.1.ty⟩)
      obtain ⟨v, rfl, q18, hv⟩ := E18
      have iff := Cod.eqv hx.2.2.2.2.1 hy.2.2.2.2.1 hx.2.2.2.2.2 hy.2.2.2.2.2
      rcases hv with ⟨rfl, he⟩ | ⟨rfl, he⟩
      · have c19 : Steps p.tables e below (s₁.setTop (entryFrame m #[.ref x, .ref y] 3)) (T18.setTop (mkF m 55 #[.val (.ref x), .val (.ref y), .val (.ref y)] [.int 1])) := Steps.trans g18 (by
          refine XS.ifNo X18.here hexec rfl (hb hbytes d47) rfl (i0_eq_f (by decide)) ?_
          refine iconstV X18.here hexec rfl 1 (hb hbytes d50) (by decide) ?_
          refine XS.goto X18.here hexec rfl (pc0 := 51) rfl (hb hbytes d51) (by decide) rfl ?_
          exact Steps.refl _)
        exact ⟨T18, some (.int 1), _, _, _, X18, rfl, rfl, rfl, (fun h => by cases h), ⟨1, rfl, q18.trans hh16, Or.inl ⟨rfl, iff.mp he⟩⟩, fun fs hl => c19.trans (X18.ireturnOut hexec hret rfl (Or.inr (Or.inl rfl)) (hb hbytes d55) hl)⟩
      · have c19 : Steps p.tables e below (s₁.setTop (entryFrame m #[.ref x, .ref y] 3)) (T18.setTop (mkF m 55 #[.val (.ref x), .val (.ref y), .val (.ref y)] [.int 0])) := Steps.trans g18 (by
          refine XS.ifYes X18.here hexec rfl (pc0 := 47) rfl (hb hbytes d47) rfl (i0_eq_t rfl) (by decide) rfl ?_
          refine iconstV X18.here hexec rfl 0 (hb hbytes d54) (by decide) ?_
          exact Steps.refl _)
        exact ⟨T18, some (.int 0), _, _, _, X18, rfl, rfl, rfl, (fun h => by cases h), ⟨0, rfl, q18.trans hh16, Or.inr ⟨rfl, fun q => he (iff.mpr q)⟩⟩, fun fs hl => c19.trans (X18.ireturnOut hexec hret rfl (Or.inr (Or.inl rfl)) (hb hbytes d55) hl)⟩
    · have c13 : Steps p.tables e below (s₁.setTop (entryFrame m #[.ref x, .ref y] 3)) (T11.setTop (mkF m 55 #[.val (.ref x), .val (.ref y), .val (.ref y)] [.int 0])) := c12.trans (by
        refine XS.icmpYes X11.here hexec rfl (pc0 := 33) rfl (hb hbytes d33) rfl (ii_ne_t hcd) (by decide) rfl ?_
        refine iconstV X11.here hexec rfl 0 (hb hbytes d54) (by decide) ?_
        exact Steps.refl _)
      exact ⟨T11, some (.int 0), _, _, _, X11, rfl, rfl, rfl, (fun h => by cases h), ⟨0, rfl, hh11, Or.inr ⟨rfl, Cod.dif hx.2.2.2.2.1 hy.2.2.2.2.1 hcd⟩⟩, fun fs hl => c13.trans (X11.ireturnOut hexec hret rfl (Or.inr (Or.inl rfl)) (hb hbytes d55) hl)⟩
theorem pays {l : Launch} {R : Room} {p : Program} {e : Env} {below : List Frame} {s : State} {sargs : Array Value} {len W : Nat} (x t : Addr) (V : Cell) (cd : Int32) (n : Nat) (f : Nat → Int32) (y t' : Addr) (V' : Cell) (cd' : Int32) (k : Nat) (g : Nat → Int32) (z : Int32) (htab : tab.before sargs s = true) (hfr : 2 ≤ R.frames) (hlo : W + 28 ≤ R.locals) :
    Back l R p e below s sargs yN len W (fun A₁ a₁ => A₁.cells + 0 ≤ R.cells ∧ A₁.slots + 0 ≤ R.slots ∧ P x t V cd n f y t' V' cd' k g z a₁ A₁.U) (fun A₁ _ v₁ B₁ => Says01 (SameT n f k g) v₁ A₁.U B₁.U ∧ B₁.locs = A₁.locs ++ [] ∧ B₁.cells = A₁.cells + 0 ∧ B₁.slots = A₁.slots + 0) :=
  (law l x t V cd n f y t' V' cd' k g z).pays htab hfr (by omega)
end SEq
end StrChars
namespace StrChars.Road
open Jvm Sem ClassFile Op Lib Jvm.Stand Jvm.Free Jvm.Free.XT
open Jvm.Lib.Cold (StaticIs)
/-- the words of String.isEmpty() -/
abbrev wordsEmp : List Jvm.Cond := [.code Emp.yN Emp.yB 1 (some .boolean), .initialized ST, .fieldLink ST 9 ST "value" "[B"]
theorem tabEmp_of {a : Array Value} {s : State} (h : ∀ w ∈ wordsEmp, w.before a s = true) : Emp.tab.before a s = true := unparts (wk h (.code Emp.yN Emp.yB 1 (some .boolean))) (wks h (.initialized Emp.yN.cls :: Emp.site))
theorem movedEmp {Z s : State} {a0 args : Array Value} (hZ : Z.Warmed39 s.vm) (hw : ∀ d ∈ wordsEmp, d.before a0 Z = true) : ∀ d ∈ wordsEmp, d.before args s = true := fun d hd => by
  have t : ∀ d ∈ wordsEmp, (d.onTables && d.keepsFace) = true := by decide +kernel
  exact RoadKit.mv hZ (hw d hd) (t d hd)
/-- the words of String.equals(Object) -/
abbrev wordsEq : List Jvm.Cond := [.code SEq.yN SEq.yB 3 (some .boolean), .initialized ST, .classLink ST 10 ST, .fieldLink ST 38 ST "COMPACT_STRINGS" "Z", .fieldLink ST 15 ST "coder" "B", .fieldLink ST 9 ST "value" "[B", .methodLink ST 541 LEq.yN, .static LEq.yN, .code LEq.yN LEq.yB 3 (some .boolean), .initialized "java/lang/StringLatin1"]
theorem tabEq_of {a : Array Value} {s : State} (h : ∀ w ∈ wordsEq, w.before a s = true) : SEq.tab.before a s = true := by
  have hl : LEq.tab.before a s = true := unparts (wk h (.code LEq.yN LEq.yB 3 (some .boolean))) (wks h (.initialized LEq.yN.cls :: LEq.site))
  have q := consq hl h
  exact unparts (wk q (.code SEq.yN SEq.yB 3 (some .boolean))) (wks q (.initialized SEq.yN.cls :: SEq.site))
theorem movedEq {Z s : State} {a0 args : Array Value} (hZ : Z.Warmed39 s.vm) (hw : ∀ d ∈ wordsEq, d.before a0 Z = true) : ∀ d ∈ wordsEq, d.before args s = true := fun d hd => by
  have t : ∀ d ∈ wordsEq, (d.onTables && d.keepsFace) = true := by decide +kernel
  exact RoadKit.mv hZ (hw d hd) (t d hd)
/-- the road's facts of a String, as the laws ask it -/
theorem txt_of {Z U : State} {a0 : Array Value} {kI : Nat} (wi : (Jvm.Cond.instantiable ST kI).before a0 Z = true) (al : Z.vm.Alike U.vm) {x t : Addr} {kb : ClassId} {cs : List Int32} {cd N2 : Int32} {vs : List Value} (E : RoadKit.Exa Z U.heap x ST) (V : RoadKit.Fld Z U.heap x ST "value" "[B" (.ref t)) (C : RoadKit.Fld Z U.heap x ST "coder" "B" (.int cd)) (K : RoadKit.Arv Z U.heap t kb .byte N2 vs (.int 0)) (hc : CodA cs cd N2 vs) (hb : ∀ c ∈ cs, ¬ c < 0 ∧ ¬ (65535 : Int32) < c) (l2 : cs.length ≤ 4000) :
    ∃ A, Txt x t A cd cs.length (fun j => cs.getD j 0) U := by
  obtain ⟨A, K1, K2, K3, K4, K5, K6⟩ := K
  have hcod := hc.cod (by omega) K3 K5
  obtain ⟨D, fV, fC, hB, F1, F2, g1, g2, -, -⟩ := strObj wi al E V C
  exact ⟨A, ⟨_, hB.2.2.1, D, hB.1, rfl, by cases q : D.vm <;> first | rfl | exact absurd q (hB.2.1.2 _)⟩, Has.of hB F1 g1, Has.of hB F2 g2, ⟨K1.1, State.isArrayOf_alike al K1.2.1, K1.2.2, by rcases hcod with ⟨-, q, -⟩ | ⟨-, q, -⟩ <;> omega⟩, hcod, fun j hj => by
    have e : cs.getD j 0 = cs[j] := by simp [List.getD_eq_getElem?_getD, hj]
    show ¬ cs.getD j 0 < 0 ∧ ¬ 65535 < cs.getD j 0
    rw [e]; exact hb _ (List.getElem_mem _)⟩
theorem same_list (cs ds : List Int32) : SameT cs.length (fun j => cs.getD j 0) ds.length (fun j => ds.getD j 0) ↔ cs = ds := by
  constructor
  · rintro ⟨e, q⟩
    refine List.ext_getElem e fun j h1 h2 => ?_
    have := q j h1
    simpa [List.getD_eq_getElem?_getD, h1, h2] using this
  · rintro rfl
    exact ⟨rfl, fun _ _ => rfl⟩
/-- **isEmpty() OF SUCH A STRING** -/
theorem empW {p : Program} {l : Launch} {e : Env} {R : Room} {s : State} {args : Array Value} {below : List Frame} {len W : Nat} {Z : State} {a0 : Array Value} {h : Heap} (hZ : Z.Warmed39 s.vm) (hw : ∀ d ∈ wordsEmp, d.before a0 Z = true) {kI : Nat} (wi : (Jvm.Cond.instantiable ST kI).before a0 Z = true)
    {x t : Addr} {kb : ClassId} {cs : List Int32} {cd N2 : Int32} {vs : List Value} (E : RoadKit.Exa Z h x ST) (V : RoadKit.Fld Z h x ST "value" "[B" (.ref t)) (C : RoadKit.Fld Z h x ST "coder" "B" (.int cd)) (K : RoadKit.Arv Z h t kb .byte N2 vs (.int 0)) (hc : CodA cs cd N2 vs) (hb : ∀ c ∈ cs, ¬ c < 0 ∧ ¬ (65535 : Int32) < c) (l2 : cs.length ≤ 4000) (hfr : 1 ≤ R.frames) (hlo : W + 12 ≤ R.locals) :
    Back l R p e below s args (⟨"java/lang/String", "isEmpty", "()Z"⟩ : MethodName) len W (fun P a => a = #[.ref x] ∧ P.U.heap = h ∧ P.cells + 0 ≤ R.cells ∧ P.slots + 0 ≤ R.slots)
      (fun P _ v B => ∃ L, (v = some (.int (if cs.length = 0 then 1 else 0)) ∧ L = [] ∧ B.U.heap = h) ∧ B.locs = P.locs ++ L ∧ B.cells = P.cells + 0 ∧ B.slots = P.slots + 0) := by
  intro m meth c P g ig mk a X hg hsize hdg hW hn hp'
  obtain ⟨rfl, rfl, r1, r2⟩ := hp'
  have al : Z.vm.Alike P.U.vm := hZ.alike.trans X.warmed.alike
  obtain ⟨A, hx⟩ := txt_of wi al E V C K hc hb l2
  obtain ⟨v, B, X', ⟨⟨hv, hh⟩, hl, hk, hs⟩, st⟩ := Emp.pays x t A cd cs.length (fun j => cs.getD j 0) (tabEmp_of (movedEmp hZ hw)) hfr hlo m meth c P g ig mk _ X hg hsize hdg hW hn ⟨r1, r2, rfl, hx⟩
  exact ⟨v, B, X', ⟨[], ⟨hv, rfl, hh⟩, hl, hk, hs⟩, st⟩
/-- **equals(Object) OF TWO SUCH STRINGS**: 1 just where the chars are the same -/
theorem eqW {p : Program} {l : Launch} {e : Env} {R : Room} {s : State} {args : Array Value} {below : List Frame} {len W : Nat} {Z : State} {a0 : Array Value} {h : Heap} (hZ : Z.Warmed39 s.vm) (hw : ∀ d ∈ wordsEq, d.before a0 Z = true) {kI : Nat} (wi : (Jvm.Cond.instantiable ST kI).before a0 Z = true)
    {x t : Addr} {kb : ClassId} {cs : List Int32} {cd N2 : Int32} {vs : List Value} (E : RoadKit.Exa Z h x ST) (V : RoadKit.Fld Z h x ST "value" "[B" (.ref t)) (C : RoadKit.Fld Z h x ST "coder" "B" (.int cd)) (K : RoadKit.Arv Z h t kb .byte N2 vs (.int 0)) (hc : CodA cs cd N2 vs) (hb : ∀ c ∈ cs, ¬ c < 0 ∧ ¬ (65535 : Int32) < c) (l2 : cs.length ≤ 4000)
    {y t' : Addr} {kb' : ClassId} {ds : List Int32} {cd' N2' : Int32} {vs' : List Value} (E' : RoadKit.Exa Z h y ST) (V' : RoadKit.Fld Z h y ST "value" "[B" (.ref t')) (C' : RoadKit.Fld Z h y ST "coder" "B" (.int cd')) (K' : RoadKit.Arv Z h t' kb' .byte N2' vs' (.int 0)) (hc' : CodA ds cd' N2' vs') (hb' : ∀ c ∈ ds, ¬ c < 0 ∧ ¬ (65535 : Int32) < c) (l2' : ds.length ≤ 4000)
    {z : Int32} (S : RoadKit.Sta Z h ST "COMPACT_STRINGS" "Z" (.int z)) (hz : ¬ z = 0) (hfr : 2 ≤ R.frames) (hlo : W + 28 ≤ R.locals) :
    Back l R p e below s args (⟨"java/lang/String", "equals", "(Ljava/lang/Object;)Z"⟩ : MethodName) len W (fun P a => a = #[.ref x, .ref y] ∧ P.U.heap = h ∧ P.cells + 0 ≤ R.cells ∧ P.slots + 0 ≤ R.slots)
      (fun P _ v B => ∃ L, (((v = some (.int 1) ∧ cs = ds) ∨ (v = some (.int 0) ∧ ¬ cs = ds)) ∧ L = [] ∧ B.U.heap = h) ∧ B.locs = P.locs ++ L ∧ B.cells = P.cells + 0 ∧ B.slots = P.slots + 0) := by
  intro m meth c P g ig mk a X hg hsize hdg hW hn hp'
  obtain ⟨rfl, rfl, r1, r2⟩ := hp'
  have al : Z.vm.Alike P.U.vm := hZ.alike.trans X.warmed.alike
  obtain ⟨A, hx⟩ := txt_of wi al E V C K hc hb l2
  obtain ⟨A', hy⟩ := txt_of wi al E' V' C' K' hc' hb' l2'
  obtain ⟨v, B, X', ⟨⟨w, hv, hh, hq⟩, hl, hk, hs⟩, st⟩ := SEq.pays x t A cd cs.length (fun j => cs.getD j 0) y t' A' cd' ds.length (fun j => ds.getD j 0) z (tabEq_of (movedEq hZ hw)) hfr hlo m meth c P g ig mk _ X hg hsize hdg hW hn ⟨r1, r2, rfl, hx, hy, sta_is al S, hz⟩
  refine ⟨v, B, X', ⟨[], ⟨?_, rfl, hh⟩, hl, hk, hs⟩, st⟩
  rcases hq with ⟨rfl, q⟩ | ⟨rfl, q⟩
  · exact Or.inl ⟨hv, (same_list cs ds).mp q⟩
  · exact Or.inr ⟨hv, fun e => q ((same_list cs ds).mpr e)⟩
end StrChars.Road
namespace StrChars
open Jvm Sem ClassFile Op Lib Jvm.Stand Jvm.Free.XT Jvm.Free.ALB Jvm.Free.JM Jvm.Free
open Jvm.Lib.Cold (StaticIs)
namespace ChN
def yN : MethodName := ⟨"java/lang/String", "charAt", "(I)C"⟩
abbrev yB : ByteArray := jdk_42_method_56_code
theorem d0 : decode yB 0 = .ok (.aload_n 0, 1) := by decide +kernel
theorem d1 : decode yB 1 = .ok (.invokevirtual 492, 3) := by decide +kernel
theorem d4 : decode yB 4 = .ok (.ifCond (.eq) 12, 3) := by decide +kernel
theorem d7 : decode yB 7 = .ok (.aload_n 0, 1) := by decide +kernel
theorem d8 : decode yB 8 = .ok (.getfield 9, 3) := by decide +kernel
theorem d11 : decode yB 11 = .ok (.iload_n 1, 1) := by decide +kernel
theorem d12 : decode yB 12 = .ok (.invokestatic 495, 3) := by decide +kernel
theorem d15 : decode yB 15 = .ok (.ireturn, 1) := by decide +kernel
def site : List Cond := [.fieldLink "java/lang/String" 9 "java/lang/String" "value" "[B", IsL.tab, LChA.tab] ++ virtW "java/lang/String" 492 "java/lang/String" IsL.yN IsL.yN ++ staticW "java/lang/String" 495 LChA.yN
def tab : Cond := tabOf yN yB 2 (some .char) site
def P (x t : Addr) (V : Cell) (n : Nat) (f : Nat → Int32) (z : Int32) (fm : Value) (i : Nat) (args : Array Value) (s : State) : Prop := args = #[.ref x, .int (Int32.ofNat i)] ∧ Txt x t V 0 n f s ∧ i < n ∧ StaticIs s "java/lang/String" "COMPACT_STRINGS" "Z" (.int z) ∧ ¬ z = 0 ∧ StaticIs s "jdk/internal/util/Preconditions" "SIOOBE_FORMATTER" "Ljava/util/function/BiFunction;" fm ∧ fm.isRef = true
def E (f : Nat → Int32) (i : Nat) (r : Option Value) (s u : State) : Prop := XT.PureE (some (.int (f i))) r s u
/-- charAt(i) of a Latin-1 String of n chars, i < n: f i -/
theorem law (l : Launch) (x t : Addr) (V : Cell) (n : Nat) (f : Nat → Int32) (z : Int32) (fm : Value) (i : Nat) : Law l yN 2 1 3 40 yB 2 (some .char) site (P x t V n f z fm i) (E f i) [] 0 0 := by
  refine Law.of_walk (plainFor_of_name (by decide +kernel)) (by decide +kernel) (by decide +kernel) (by decide) (fun _ _ h => by rw [h.1]; rfl) (fun _ U U' hal hh h => ⟨h.1, h.2.1.mv hal hh, h.2.2.1, h.2.2.2.1.there hal hh, h.2.2.2.2.1, h.2.2.2.2.2.1.there hal hh, h.2.2.2.2.2.2⟩) (fun r U U' V V' h1 hal h2 h => XT.PureE.mv r U U' V V' h1 hal h2 h) ?_
  intro p e s m args below meth c s₁ X0 hexec hbytes hml hret hlk hnm hown hh0 W hP
  obtain ⟨rfl, hx, hi, s1, hz, s3, rf⟩ := hP
  have v31 := hx.2.2.2.1.2.2.2
  have hr := hx.2.2.2.2.2 i hi
  have hx0 := hx.mv X0.warmed.alike hh0
  have c1 : Steps p.tables e below (s₁.setTop (entryFrame m #[.ref x, .int (Int32.ofNat i)] 2)) (s₁.setTop (mkF m 1 #[.val (.ref x), .val (.int (Int32.ofNat i))] [.ref x])) := Steps.trans (entry rfl) (by
    show Steps p.tables e below (s₁.setTop (mkF m 0 #[.val (.ref x), .val (.int (Int32.ofNat i))] [])) _
    refine XS.aloadN X0.here hexec rfl (hb hbytes d0) rfl rfl ?_
    exact Steps.refl _)
  obtain ⟨v2, T2, X2, E2, g2⟩ := X0.callV hexec (IsL.law l x 0 z) hown (wks W (virtW "java/lang/String" 492 "java/lang/String" IsL.yN IsL.yN)) rfl (by decide) (wk W IsL.tab) (W := 0) (Nat.le_of_ble_eq_true rfl) (Nat.le_of_ble_eq_true rfl) (Nat.le_refl _) (Nat.le_refl _) (hx0.1.fc X0.warmed.alike) hx0.1.is (g := (mkF m 1 #[.val (.ref x), .val (.int (Int32.ofNat i))] [.ref x])) rfl (by rw [hml]; rfl) c1 (argsL := []) (rest := []) rfl rfl (by show 2 * 0 + 0 ≤ _; decide) (hb hbytes d1) (⟨rfl, hx0.2.2.1, hx.2.2.2.2.1.cd, s1.there X0.warmed.alike hh0, hz⟩)
  obtain ⟨rfl, q2⟩ := E2
  have hh2 := q2.trans hh0
  have hx2 := hx.mv X2.warmed.alike hh2
  obtain ⟨-, k1, k2⟩ | ⟨k0, -⟩ := hx.2.2.2.2.1
  · have c3 : Steps p.tables e below (s₁.setTop (entryFrame m #[.ref x, .int (Int32.ofNat i)] 2)) (T2.setTop (mkF m 8 #[.val (.ref x), .val (.int (Int32.ofNat i))] [.ref x])) := Steps.trans g2 (by
      refine XS.ifNo X2.here hexec rfl (hb hbytes d4) rfl (i0_eq_f (by decide)) ?_
      refine XS.aloadN X2.here hexec rfl (hb hbytes d7) rfl rfl ?_
      exact Steps.refl _)
    obtain ⟨T4, X4, q4, st4⟩ := X2.hget hexec hown (wk W (.fieldLink "java/lang/String" 9 "java/lang/String" "value" "[B")) hx2.2.1 (g := (mkF m 8 #[.val (.ref x), .val (.int (Int32.ofNat i))] [.ref x])) rfl (rest := []) rfl (hb hbytes d8)
    have hh4 := q4.trans hh2
    have c5 : Steps p.tables e below (s₁.setTop (entryFrame m #[.ref x, .int (Int32.ofNat i)] 2)) (T4.setTop (mkF m 12 #[.val (.ref x), .val (.int (Int32.ofNat i))] [.int (Int32.ofNat i), .ref t])) := (c3.trans (st4 _ (Steps.refl _))).trans (by
      refine XS.iloadN X4.here hexec rfl (hb hbytes d11) rfl ?_
      exact Steps.refl _)
    obtain ⟨v6, T6, X6, E6, g6⟩ := X4.callS hexec (LChA.law l t V i (lo8 (f i)) fm) hown (wks W (staticW "java/lang/String" 495 LChA.yN)) (wk W LChA.tab) (W := 0) (Nat.le_of_ble_eq_true rfl) (Nat.le_of_ble_eq_true rfl) (Nat.le_refl _) (Nat.le_refl _) (g := (mkF m 12 #[.val (.ref x), .val (.int (Int32.ofNat i))] [.int (Int32.ofNat i), .ref t])) rfl (by rw [hml]; rfl) c5 (argsL := [.ref t, .int (Int32.ofNat i)]) (rest := []) rfl rfl (by show 2 * 0 + 0 ≤ _; decide) (hb hbytes d12) (⟨rfl, hx.2.2.2.1.mv X4.warmed.alike hh4, (k2 i hi).1, s3.there X4.warmed.alike hh4, rf⟩)
    obtain ⟨rfl, q6⟩ := E6
    rw [chr8_lo8 hr.1 (k2 i hi).2] at g6
    exact ⟨T6, some (.int (f i)), _, _, _, X6, rfl, rfl, rfl, (fun h => by cases h), ⟨rfl, q6.trans hh4⟩, fun fs hl => Steps.trans g6 (X6.ireturnOut hexec hret (narrow_ch hr.1 hr.2) (Or.inr (Or.inr (Or.inr (Or.inl rfl)))) (hb hbytes d15) hl)⟩
  · exact absurd k0 (by decide)
theorem pays {l : Launch} {R : Room} {p : Program} {e : Env} {below : List Frame} {s : State} {sargs : Array Value} {len W : Nat} (x t : Addr) (V : Cell) (n : Nat) (f : Nat → Int32) (z : Int32) (fm : Value) (i : Nat) (htab : tab.before sargs s = true) (hfr : 4 ≤ R.frames) (hlo : W + 53 ≤ R.locals) :
    Back l R p e below s sargs yN len W (fun A₁ a₁ => A₁.cells + 0 ≤ R.cells ∧ A₁.slots + 0 ≤ R.slots ∧ P x t V n f z fm i a₁ A₁.U) (fun A₁ _ v₁ B₁ => E f i v₁ A₁.U B₁.U ∧ B₁.locs = A₁.locs ++ [] ∧ B₁.cells = A₁.cells + 0 ∧ B₁.slots = A₁.slots + 0) :=
  (law l x t V n f z fm i).pays htab hfr (by omega)
end ChN
end StrChars
namespace StrChars.Road
open Jvm Sem ClassFile Op Lib Jvm.Stand Jvm.Free Jvm.Free.XT
open Jvm.Lib.Cold (StaticIs)
/-- the words of String.charAt(int), the Latin-1 road alone -/
abbrev wordsChN : List Jvm.Cond := [.code ChN.yN ChN.yB 2 (some .char), .initialized ST, .fieldLink ST 9 ST "value" "[B", .fieldLink ST 38 ST "COMPACT_STRINGS" "Z", .fieldLink ST 15 ST "coder" "B", .code IsL.yN IsL.yB 1 (some .boolean), .methodLink ST 492 IsL.yN, .declares IsL.yN, .selects ST IsL.yN IsL.yN, .instanceMethod IsL.yN,
  .methodLink ST 495 LChA.yN, .static LChA.yN, .code LChA.yN LChA.yB 2 (some .char), .initialized "java/lang/StringLatin1", .methodLink "java/lang/StringLatin1" 9 JO.Str_checkIndex.yN, .static JO.Str_checkIndex.yN, .code JO.Str_checkIndex.yN JO.Str_checkIndex.yB 2 none,
  .fieldLink ST 1053 "jdk/internal/util/Preconditions" "SIOOBE_FORMATTER" "Ljava/util/function/BiFunction;", .methodLink ST 1059 JC.PreCheck.yN, .static JC.PreCheck.yN, .code JC.PreCheck.yN JC.PreCheck.yB 3 (some .int), .initialized "jdk/internal/util/Preconditions"]
theorem tabChN_of {a : Array Value} {s : State} (h : ∀ w ∈ wordsChN, w.before a s = true) : ChN.tab.before a s = true := by
  have hp : JC.PreCheck.tab.before a s = true := unparts (wk h (.code JC.PreCheck.yN JC.PreCheck.yB 3 (some .int))) (wks h (.initialized JC.PreCheck.yN.cls :: JC.PreCheck.site))
  have qk := consq hp h
  have hk : JO.Str_checkIndex.tab.before a s = true := unparts (wk qk (.code JO.Str_checkIndex.yN JO.Str_checkIndex.yB 2 none)) (wks qk (.initialized JO.Str_checkIndex.yN.cls :: JO.Str_checkIndex.site))
  have ql := consq hk h
  have hl : LChA.tab.before a s = true := unparts (wk ql (.code LChA.yN LChA.yB 2 (some .char))) (wks ql (.initialized LChA.yN.cls :: LChA.site))
  have hi : IsL.tab.before a s = true := unparts (wk h (.code IsL.yN IsL.yB 1 (some .boolean))) (wks h (.initialized IsL.yN.cls :: IsL.site))
  have q := consq hi (consq hl h)
  exact unparts (wk q (.code ChN.yN ChN.yB 2 (some .char))) (wks q (.initialized ChN.yN.cls :: ChN.site))
theorem movedChN {Z s : State} {a0 args : Array Value} (hZ : Z.Warmed39 s.vm) (hw : ∀ d ∈ wordsChN, d.before a0 Z = true) : ∀ d ∈ wordsChN, d.before args s = true := fun d hd => by
  have t : ∀ d ∈ wordsChN, (d.onTables && d.keepsFace) = true := by decide +kernel
  exact RoadKit.mv hZ (hw d hd) (t d hd)
/-- **charAt(i) OF A LATIN-1 STRING**, i < n: the char -/
theorem chN {p : Program} {l : Launch} {e : Env} {R : Room} {s : State} {args : Array Value} {below : List Frame} {len W : Nat} {Z : State} {a0 : Array Value} {h : Heap} (hZ : Z.Warmed39 s.vm) (hw : ∀ d ∈ wordsChN, d.before a0 Z = true) {kI : Nat} (wi : (Jvm.Cond.instantiable ST kI).before a0 Z = true)
    {x t : Addr} {kb : ClassId} {cs : List Int32} {N2 z : Int32} {vs : List Value} {fm : Value} {i : Nat} {j : Int32} (E : RoadKit.Exa Z h x ST) (V : RoadKit.Fld Z h x ST "value" "[B" (.ref t)) (C : RoadKit.Fld Z h x ST "coder" "B" (.int 0)) (K : RoadKit.Arv Z h t kb .byte N2 vs (.int 0)) (hc : CodA cs 0 N2 vs) (hb : ∀ c ∈ cs, ¬ c < 0 ∧ ¬ (65535 : Int32) < c)
    (S : RoadKit.Sta Z h ST "COMPACT_STRINGS" "Z" (.int z)) (hz : ¬ z = 0) (F : RoadKit.Sta Z h "jdk/internal/util/Preconditions" "SIOOBE_FORMATTER" "Ljava/util/function/BiFunction;" fm) (rf : fm.isRef = true) (l2 : cs.length ≤ 4000) (hi : i < cs.length) (hj : j = Int32.ofNat i) (hfr : 4 ≤ R.frames) (hlo : W + 53 ≤ R.locals) :
    Back l R p e below s args (⟨"java/lang/String", "charAt", "(I)C"⟩ : MethodName) len W (fun P a => a = #[.ref x, .int j] ∧ P.U.heap = h ∧ P.cells + 0 ≤ R.cells ∧ P.slots + 0 ≤ R.slots)
      (fun P _ v B => ∃ L, (v = some (.int (cs.getD i 0)) ∧ L = [] ∧ B.U.heap = h) ∧ B.locs = P.locs ++ L ∧ B.cells = P.cells + 0 ∧ B.slots = P.slots + 0) := by
  subst hj
  intro m meth c P g ig mk a X hg hsize hdg hW hn hp'
  obtain ⟨rfl, rfl, r1, r2⟩ := hp'
  have al : Z.vm.Alike P.U.vm := hZ.alike.trans X.warmed.alike
  obtain ⟨A, hx⟩ := txt_of wi al E V C K hc hb l2
  obtain ⟨v, B, X', ⟨⟨hv, hh⟩, hl, hk, hs⟩, st⟩ := ChN.pays x t A cs.length (fun j => cs.getD j 0) z fm i (tabChN_of (movedChN hZ hw)) hfr hlo m meth c P g ig mk _ X hg hsize hdg hW hn ⟨r1, r2, rfl, hx, hi, sta_is al S, hz, sta_is al F, rf⟩
  exact ⟨v, B, X', ⟨[], ⟨hv, rfl, hh⟩, hl, hk, hs⟩, st⟩
/-- what backV says of its String, as the contracts of this text ask it: cs's low bytes, coder 0 -/
theorem codOf {cs : List Int32} {n : Nat} (hn : cs.length = n) (hb : ∀ c ∈ cs, ¬ 255 < c) : CodA cs 0 (Int32.ofNat n) ((cs.map lo8).map Value.int) := Or.inl ⟨rfl, by rw [hn], by simp [List.map_map, Function.comp_def], hb⟩
end StrChars.Road
end Jvm.Pilot.@@N@@
namespace Jvm.Pilot.@@N@@
open Jvm Jvm.ClassFile Sem Op Lib Jvm.Free Jvm.Stand Jvm.LawKit Jvm.RoadKit Bundle Jvm.Pilot.@@N@@.Jvm.D
-- OWN KIT: walks in continuation style over the library's Stand laws (own text, pasted into each Proof.lean)
section OwnKit
variable {p : Program} {l : Launch} {e : Env} {R : Room} {s : State} {m : MethodId} {args : Array Value} {below : List Frame} {meth : Method} {c : Code} {T : State} {locs : List Loc} {cells slots : Nat} {Z : State} {a0 : Array Value} {h : Heap} {own : String} {cd : ByteArray} {maxL : Nat} {ret : Option FieldType} {nm : String} {n0 : Nat} {F : Option Value → Heap → Prop} {kc ks : Nat} {En : Outcome → State → Prop} {pc : Nat} {ls : Array Slot} {st : List Value}
/-- from the frame g over T the method runs to its end, returns v, leaves a heap, F holds of both; only new cells are written -/
def own_Go (p : Program) (e : Env) (below : List Frame) (En : Outcome → State → Prop) (T : State) (g : JFrame) : Prop :=
  ∃ s₂ o, Steps p.tables e below (T.setTop g) s₂ ∧ s₂.status = .running ∧ Ended s₂ below o ∧ En o s₂
def own_En (s : State) (n0 : Nat) (F : Option Value → Heap → Prop) (kc ks : Nat) (o : Outcome) (s₂ : State) : Prop := ∃ v L, o = .returned v ∧ (F v s₂.heap ∧ Fr n0 L) ∧ FrameEnd s o s₂ L kc ks
theorem own_step {T' : State} {g g' : JFrame} (st : ∀ t, Steps p.tables e below (T'.setTop g') t → Steps p.tables e below (T.setTop g) t) (k : own_Go p e below En T' g') : own_Go p e below En T g := by
  obtain ⟨s₂, o, h1, h2⟩ := k
  exact ⟨s₂, o, st _ h1, h2⟩
/-- what stays the same in one body -/
def own_Cx (p : Program) (s : State) (m : MethodId) (meth : Method) (c : Code) (Z : State) (own : String) (cd : ByteArray) (maxL : Nat) (ret : Option FieldType) (nm : String) : Prop :=
  p.tables.exec = Jvm.exec ∧ c.code = cd ∧ c.maxLocals = maxL ∧ s.vm.findClass own = some m.cls ∧ meth.name = nm ∧ meth.sig.returnType = ret ∧ meth.locks = false ∧ Z.Warmed39 s.vm
/-- where the walk stands: the heap is h, at most so many cells and slots have been made, nothing old was written -/
def own_S (p : Program) (l : Launch) (e : Env) (R : Room) (s : State) (m : MethodId) (args : Array Value) (below : List Frame) (meth : Method) (c : Code) (n0 : Nat) (T : State) (h : Heap) (cells slots : Nat) : Prop :=
  ∃ locs k n, Stand p l e R s m args below meth c T locs k n ∧ T.heap = h ∧ Fr n0 locs ∧ k ≤ cells ∧ n ≤ slots
theorem own_S.mono {c' s' : Nat} (S : own_S p l e R s m args below meth c n0 T h cells slots) (h1 : cells ≤ c') (h2 : slots ≤ s') : own_S p l e R s m args below meth c n0 T h c' s' := by
  obtain ⟨locs, k, n, X, e1, N, q1, q2⟩ := S
  exact ⟨locs, k, n, X, e1, N, Nat.le_trans q1 h1, Nat.le_trans q2 h2⟩
theorem own_hd (C : own_Cx p s m meth c Z own cd maxL ret nm) {i : Instr} {len : Nat} (hd : decode cd pc = .ok (i, len)) : decode c.code pc = .ok (i, len) := by rw [C.2.1]; exact hd
theorem own_hsz (C : own_Cx p s m meth c Z own cd maxL ret nm) (hsz : ls.size = maxL) : ls.size = c.maxLocals := by rw [C.2.2.1]; exact hsz
/-- the k-th table word -/
theorem own_wd {L : List Jvm.Cond} (hw : ∀ d ∈ L, d.before a0 Z = true) (i : Nat) {d : Jvm.Cond} (hi : L[i]? = some d) : d.before a0 Z = true := hw d (List.mem_of_getElem? hi)
/-- one plain instruction -/
def own_st (i : Instr) (len pc : Nat) (ls : Array Slot) (st : List Value) : Option (Nat × Array Slot × List Value) :=
  match i with
  | .iload_n k => match len, ls[k.val]? with | 1, some (.val (.int v)) => some (pc + 1, ls, .int v :: st) | _, _ => none
  | .iload k => match len, ls[k]? with | 2, some (.val (.int v)) => some (pc + 2, ls, .int v :: st) | _, _ => none
  | .lload_n k => match len, ls[k.val]? with | 1, some (.val (.long v)) => some (pc + 1, ls, .long v :: st) | _, _ => none
  | .lload k => match len, ls[k]? with | 2, some (.val (.long v)) => some (pc + 2, ls, .long v :: st) | _, _ => none
  | .dload_n k => match len, ls[k.val]? with | 1, some (.val (.double v)) => some (pc + 1, ls, .double v :: st) | _, _ => none
  | .dload k => match len, ls[k]? with | 2, some (.val (.double v)) => some (pc + 2, ls, .double v :: st) | _, _ => none
  | .aload_n k => match len, ls[k.val]? with | 1, some (.val (.ref v)) => some (pc + 1, ls, .ref v :: st) | 1, some (.val .null) => some (pc + 1, ls, .null :: st) | _, _ => none
  | .aload k => match len, ls[k]? with | 2, some (.val (.ref v)) => some (pc + 2, ls, .ref v :: st) | 2, some (.val .null) => some (pc + 2, ls, .null :: st) | _, _ => none
  | .istore_n k => match len, st with | 1, .int x :: r => (match storeLocals ls k.val (.int x) with | some l' => some (pc + 1, l', r) | none => none) | _, _ => none
  | .istore k => match len, st with | 2, .int x :: r => (match storeLocals ls k (.int x) with | some l' => some (pc + 2, l', r) | none => none) | _, _ => none
  | .lstore_n k => match len, st with | 1, .long x :: r => (match storeLocals ls k.val (.long x) with | some l' => some (pc + 1, l', r) | none => none) | _, _ => none
  | .lstore k => match len, st with | 2, .long x :: r => (match storeLocals ls k (.long x) with | some l' => some (pc + 2, l', r) | none => none) | _, _ => none
  | .dstore_n k => match len, st with | 1, .double x :: r => (match storeLocals ls k.val (.double x) with | some l' => some (pc + 1, l', r) | none => none) | _, _ => none
  | .dstore k => match len, st with | 2, .double x :: r => (match storeLocals ls k (.double x) with | some l' => some (pc + 2, l', r) | none => none) | _, _ => none
  | .astore_n k => match len, st with
    | 1, .ref x :: r => (match storeLocals ls k.val (.ref x) with | some l' => some (pc + 1, l', r) | none => none)
    | 1, .null :: r => (match storeLocals ls k.val .null with | some l' => some (pc + 1, l', r) | none => none)
    | _, _ => none
  | .astore k => match len, st with
    | 2, .ref x :: r => (match storeLocals ls k (.ref x) with | some l' => some (pc + 2, l', r) | none => none)
    | 2, .null :: r => (match storeLocals ls k .null with | some l' => some (pc + 2, l', r) | none => none)
    | _, _ => none
  | .iinc k d => match len, ls[k]? with | 3, some (.val (.int x)) => (match storeLocals ls k (.int (x + Int32.ofInt d)) with | some l' => some (pc + 3, l', st) | none => none) | _, _ => none
  | .iconst i => match len with | 1 => some (pc + 1, ls, .int (Int32.ofInt i) :: st) | _ => none
  | .bipush i => match len with | 2 => some (pc + 2, ls, .int (Int8.ofInt i).toInt32 :: st) | _ => none
  | .sipush i => match len with | 3 => some (pc + 3, ls, .int (Int16.ofInt i).toInt32 :: st) | _ => none
  | .lconst k => match len with | 1 => some (pc + 1, ls, .long (Int64.ofNat k) :: st) | _ => none
  | .aconst_null => match len with | 1 => some (pc + 1, ls, .null :: st) | _ => none
  | .iadd => match len, st with | 1, .int y :: .int x :: r => some (pc + 1, ls, .int (x + y) :: r) | _, _ => none
  | .isub => match len, st with | 1, .int y :: .int x :: r => some (pc + 1, ls, .int (x - y) :: r) | _, _ => none
  | .imul => match len, st with | 1, .int y :: .int x :: r => some (pc + 1, ls, .int (x * y) :: r) | _, _ => none
  | .iand => match len, st with | 1, .int y :: .int x :: r => some (pc + 1, ls, .int (x &&& y) :: r) | _, _ => none
  | .ior => match len, st with | 1, .int y :: .int x :: r => some (pc + 1, ls, .int (x ||| y) :: r) | _, _ => none
  | .ixor => match len, st with | 1, .int y :: .int x :: r => some (pc + 1, ls, .int (x ^^^ y) :: r) | _, _ => none
  | .ishl => match len, st with | 1, .int y :: .int x :: r => some (pc + 1, ls, .int (x <<< (y &&& 31)) :: r) | _, _ => none
  | .ishr => match len, st with | 1, .int y :: .int x :: r => some (pc + 1, ls, .int (x >>> (y &&& 31)) :: r) | _, _ => none
  | .iushr => match len, st with | 1, .int y :: .int x :: r => some (pc + 1, ls, .int (Jvm.Free.XT.ushr x y) :: r) | _, _ => none
  | .ineg => match len, st with | 1, .int x :: r => some (pc + 1, ls, .int (-x) :: r) | _, _ => none
  | .ladd => match len, st with | 1, .long y :: .long x :: r => some (pc + 1, ls, .long (x + y) :: r) | _, _ => none
  | .lsub => match len, st with | 1, .long y :: .long x :: r => some (pc + 1, ls, .long (x - y) :: r) | _, _ => none
  | .lmul => match len, st with | 1, .long y :: .long x :: r => some (pc + 1, ls, .long (x * y) :: r) | _, _ => none
  | .land => match len, st with | 1, .long y :: .long x :: r => some (pc + 1, ls, .long (x &&& y) :: r) | _, _ => none
  | .lor => match len, st with | 1, .long y :: .long x :: r => some (pc + 1, ls, .long (x ||| y) :: r) | _, _ => none
  | .lshl => match len, st with | 1, .int y :: .long x :: r => some (pc + 1, ls, .long (x <<< (y.toInt64 &&& 63)) :: r) | _, _ => none
  | .lshr => match len, st with | 1, .int y :: .long x :: r => some (pc + 1, ls, .long (x >>> (y.toInt64 &&& 63)) :: r) | _, _ => none
  | .lushr => match len, st with | 1, .int y :: .long x :: r => some (pc + 1, ls, .long (Jvm.Free.XT.ushrL x y) :: r) | _, _ => none
  | .lcmp => match len, st with | 1, .long y :: .long x :: r => some (pc + 1, ls, .int (Jvm.Free.XT.cmpL x y) :: r) | _, _ => none
  | .i2l => match len, st with | 1, .int x :: r => some (pc + 1, ls, .long x.toInt64 :: r) | _, _ => none
  | .l2i => match len, st with | 1, .long x :: r => some (pc + 1, ls, .int x.toInt32 :: r) | _, _ => none
  | .i2b => match len, st with | 1, .int x :: r => some (pc + 1, ls, .int x.toInt8.toInt32 :: r) | _, _ => none
  | .i2c => match len, st with | 1, .int x :: r => some (pc + 1, ls, .int x.toUInt32.toUInt16.toUInt32.toInt32 :: r) | _, _ => none
  | .i2s => match len, st with | 1, .int x :: r => some (pc + 1, ls, .int x.toInt16.toInt32 :: r) | _, _ => none
  | .i2d => match len, st with | 1, .int x :: r => some (pc + 1, ls, .double (FP.i2d x) :: r) | _, _ => none
  | .dup => match len, st with | 1, .int x :: r => some (pc + 1, ls, .int x :: .int x :: r) | 1, .ref x :: r => some (pc + 1, ls, .ref x :: .ref x :: r) | 1, .null :: r => some (pc + 1, ls, .null :: .null :: r) | _, _ => none
  | .pop => match len, st with | 1, .int x :: r => some (pc + 1, ls, r) | 1, .ref x :: r => some (pc + 1, ls, r) | 1, .null :: r => some (pc + 1, ls, r) | _, _ => none
  | .dup_x1 => match len, st with | 1, .int x :: .ref y :: r => some (pc + 1, ls, .int x :: .ref y :: .int x :: r) | 1, .int x :: .int y :: r => some (pc + 1, ls, .int x :: .int y :: .int x :: r) | 1, .ref x :: .ref y :: r => some (pc + 1, ls, .ref x :: .ref y :: .ref x :: r) | _, _ => none
  | .dup2 => match len, st with | 1, .int x :: .ref y :: r => some (pc + 1, ls, .int x :: .ref y :: .int x :: .ref y :: r) | 1, .int x :: .int y :: r => some (pc + 1, ls, .int x :: .int y :: .int x :: .int y :: r) | 1, .long x :: r => some (pc + 1, ls, .long x :: .long x :: r) | _, _ => none
  | .goto o => match len, decide (0 ≤ (pc : Int) + o) with | 3, true => some (((pc : Int) + o).toNat, ls, st) | _, _ => none
  | .ifnull o => match len, st, decide (0 ≤ (pc : Int) + o) with | 3, .null :: r, true => some (((pc : Int) + o).toNat, ls, r) | 3, .ref _ :: r, _ => some (pc + 3, ls, r) | _, _, _ => none
  | .ifnonnull o => match len, st, decide (0 ≤ (pc : Int) + o) with | 3, .ref _ :: r, true => some (((pc : Int) + o).toNat, ls, r) | 3, .null :: r, _ => some (pc + 3, ls, r) | _, _, _ => none
  | _ => none
theorem own_st_ok (X : Stand p l e R s m args below meth c T locs cells slots) (hx : p.tables.exec = Jvm.exec) {i : Instr} {len pc' : Nat} {ls' : Array Slot} {st' : List Value} (hd : decode c.code pc = .ok (i, len)) (hs : own_st i len pc ls st = some (pc', ls', st')) (t : State)
    (k : Steps p.tables e below (T.setTop (mkF m pc' ls' st')) t) : Steps p.tables e below (T.setTop (mkF m pc ls st)) t := by
  unfold own_st at hs
  split at hs
  · split at hs <;> first | cases hs | skip
    rename_i q; exact XS.iloadN X.here hx rfl hd q k
  · split at hs <;> first | cases hs | skip
    rename_i q; exact XS.iload X.here hx rfl hd q k
  · split at hs <;> first | cases hs | skip
    rename_i q; exact Jvm.Free.XT.lloadN X.here hx rfl hd q k
  · split at hs <;> first | cases hs | skip
    rename_i q; exact Jvm.Free.XT.lload X.here hx rfl hd q k
  · split at hs <;> first | cases hs | skip
    rename_i q; exact XS.dloadN X.here hx rfl hd q k
  · split at hs <;> first | cases hs | skip
    rename_i q; exact XS.dload X.here hx rfl hd q k
  · split at hs <;> first | cases hs | skip
    · rename_i q; exact XS.aloadN X.here hx rfl hd q rfl k
    · rename_i q; exact XS.aloadN X.here hx rfl hd q rfl k
  · split at hs <;> first | cases hs | skip
    · rename_i q; exact XS.aload X.here hx rfl hd q rfl k
    · rename_i q; exact XS.aload X.here hx rfl hd q rfl k
  · split at hs <;> first | cases hs | skip
    split at hs <;> first | cases hs | skip
    rename_i q; exact XS.istoreN X.here hx rfl hd rfl q k
  · split at hs <;> first | cases hs | skip
    split at hs <;> first | cases hs | skip
    rename_i q; exact XS.istore X.here hx rfl hd rfl q k
  · split at hs <;> first | cases hs | skip
    split at hs <;> first | cases hs | skip
    rename_i q; exact Jvm.Free.XT.lstoreN X.here hx rfl hd rfl q k
  · split at hs <;> first | cases hs | skip
    split at hs <;> first | cases hs | skip
    rename_i q; exact Jvm.Free.XT.lstore X.here hx rfl hd rfl q k
  · split at hs <;> first | cases hs | skip
    split at hs <;> first | cases hs | skip
    rename_i q; exact XS.dstoreN X.here hx rfl hd rfl q k
  · split at hs <;> first | cases hs | skip
    split at hs <;> first | cases hs | skip
    rename_i q; exact XS.dstore X.here hx rfl hd rfl q k
  · split at hs <;> first | cases hs | skip
    all_goals
      split at hs <;> first | cases hs | skip
      rename_i q; exact XS.astoreN X.here hx rfl hd rfl rfl q k
  · split at hs <;> first | cases hs | skip
    all_goals
      split at hs <;> first | cases hs | skip
      rename_i q; exact XS.astore X.here hx rfl hd rfl rfl q k
  · split at hs <;> first | cases hs | skip
    rename_i q0
    split at hs <;> first | cases hs | skip
    rename_i q; exact XS.iinc X.here hx rfl hd q0 q k
  · split at hs <;> first | cases hs | skip
    exact XS.iconst X.here hx rfl hd k
  · split at hs <;> first | cases hs | skip
    exact XS.bipush X.here hx rfl hd k
  · split at hs <;> first | cases hs | skip
    exact XS.sipush X.here hx rfl hd k
  · split at hs <;> first | cases hs | skip
    exact Jvm.Free.XT.lconst X.here hx rfl hd k
  · split at hs <;> first | cases hs | skip
    exact XS.aconstNull X.here hx rfl hd k
  · split at hs <;> first | cases hs | skip
    exact XS.iadd X.here hx rfl hd rfl k
  · split at hs <;> first | cases hs | skip
    exact XS.isub X.here hx rfl hd rfl k
  · split at hs <;> first | cases hs | skip
    exact XS.imul X.here hx rfl hd rfl k
  · split at hs <;> first | cases hs | skip
    exact XS.iand X.here hx rfl hd rfl k
  · split at hs <;> first | cases hs | skip
    exact Jvm.Free.XT.ior X.here hx rfl hd rfl k
  · split at hs <;> first | cases hs | skip
    exact Jvm.Free.XT.ixor X.here hx rfl hd rfl k
  · split at hs <;> first | cases hs | skip
    exact Jvm.Free.XT.ishl X.here hx rfl hd rfl k
  · split at hs <;> first | cases hs | skip
    exact Jvm.Free.XT.ishr X.here hx rfl hd rfl k
  · split at hs <;> first | cases hs | skip
    exact Jvm.Free.XT.iushr X.here hx rfl hd rfl k
  · split at hs <;> first | cases hs | skip
    exact XS.ineg X.here hx rfl hd rfl k
  · split at hs <;> first | cases hs | skip
    exact Jvm.Free.XT.ladd X.here hx rfl hd rfl k
  · split at hs <;> first | cases hs | skip
    exact Jvm.Free.XT.lsub X.here hx rfl hd rfl k
  · split at hs <;> first | cases hs | skip
    exact Jvm.Free.XT.lmul X.here hx rfl hd rfl k
  · split at hs <;> first | cases hs | skip
    exact Jvm.Free.XT.land X.here hx rfl hd rfl k
  · split at hs <;> first | cases hs | skip
    exact Jvm.Free.XT.lor X.here hx rfl hd rfl k
  · split at hs <;> first | cases hs | skip
    exact Jvm.Free.XT.lshl X.here hx rfl hd rfl k
  · split at hs <;> first | cases hs | skip
    exact Jvm.Free.XT.lshr X.here hx rfl hd rfl k
  · split at hs <;> first | cases hs | skip
    exact Jvm.Free.XT.lushr X.here hx rfl hd rfl k
  · split at hs <;> first | cases hs | skip
    exact Jvm.Free.XT.lcmp X.here hx rfl hd rfl k
  · split at hs <;> first | cases hs | skip
    exact Jvm.Free.XT.i2l X.here hx rfl hd rfl k
  · split at hs <;> first | cases hs | skip
    exact Jvm.Free.XT.l2i X.here hx rfl hd rfl k
  · split at hs <;> first | cases hs | skip
    exact Jvm.Free.XT.i2b X.here hx rfl hd rfl k
  · split at hs <;> first | cases hs | skip
    exact Jvm.Free.XT.i2c X.here hx rfl hd rfl k
  · split at hs <;> first | cases hs | skip
    exact Jvm.Free.XT.i2s X.here hx rfl hd rfl k
  · split at hs <;> first | cases hs | skip
    exact XS.i2dS X.here hx rfl hd rfl rfl k
  · split at hs <;> first | cases hs | skip
    all_goals exact XS.dup X.here hx rfl hd rfl rfl k
  · split at hs <;> first | cases hs | skip
    all_goals exact Jvm.Free.XT.pop X.here hx rfl hd rfl rfl k
  · split at hs <;> first | cases hs | skip
    all_goals exact Jvm.Free.XT.dupX1 X.here hx rfl hd rfl rfl rfl k
  · split at hs <;> first | cases hs | skip
    · exact Jvm.Free.XT.dup2 X.here hx rfl hd rfl rfl rfl k
    · exact Jvm.Free.XT.dup2 X.here hx rfl hd rfl rfl rfl k
    · exact Jvm.Free.XT.dup2L X.here hx rfl hd rfl k
  · split at hs <;> first | cases hs | skip
    rename_i q; exact XS.goto X.here hx rfl rfl hd (of_decide_eq_true q) rfl k
  · split at hs <;> first | cases hs | skip
    · rename_i q; exact XS.ifnullYes X.here hx rfl rfl hd rfl (of_decide_eq_true q) rfl k
    · exact XS.ifnullNo X.here hx rfl hd rfl k
  · split at hs <;> first | cases hs | skip
    · rename_i q; exact Jvm.Free.XT.ifnonnullYes X.here hx rfl rfl hd rfl (of_decide_eq_true q) rfl k
    · exact Jvm.Free.XT.ifnonnullNo X.here hx rfl hd rfl k
  · cases hs
/-- a row of plain instructions -/
def own_run : List (Nat × Instr × Nat) → Nat → Array Slot → List Value → Option (Nat × Array Slot × List Value)
  | [], pc, ls, st => some (pc, ls, st)
  | x :: seg, pc, ls, st => match decide (pc = x.1) with
    | true => (match own_st x.2.1 x.2.2 x.1 ls st with | some (pc', ls', st') => own_run seg pc' ls' st' | none => none)
    | false => none
def own_dec (cd : ByteArray) (seg : List (Nat × Instr × Nat)) : Bool := seg.all fun x => decide (decode cd x.1 = .ok x.2)
theorem own_run_ok (X : Stand p l e R s m args below meth c T locs cells slots) (hx : p.tables.exec = Jvm.exec) (hby : c.code = cd) : ∀ (seg : List (Nat × Instr × Nat)) {pc pc' : Nat} {ls ls' : Array Slot} {st st' : List Value}, own_dec cd seg = true → own_run seg pc ls st = some (pc', ls', st') → ∀ t,
    Steps p.tables e below (T.setTop (mkF m pc' ls' st')) t → Steps p.tables e below (T.setTop (mkF m pc ls st)) t := by
  intro seg
  induction seg with
  | nil =>
    intro pc pc' ls ls' st st' _ hr t k
    simp only [own_run, Option.some.injEq, Prod.mk.injEq] at hr
    obtain ⟨rfl, rfl, rfl⟩ := hr
    exact k
  | cons x seg ih =>
    intro pc pc' ls ls' st st' hd hr t k
    simp only [own_dec, List.all_cons, Bool.and_eq_true, decide_eq_true_eq] at hd
    simp only [own_run] at hr
    split at hr
    · rename_i q
      have q' : pc = x.1 := of_decide_eq_true q
      subst q'
      split at hr
      · rename_i a1 b1 c1 q2
        exact own_st_ok X hx (by rw [hby]; exact hd.1) q2 t (ih hd.2 hr t k)
      · cases hr
    · cases hr
theorem own_seg (C : own_Cx p s m meth c Z own cd maxL ret nm) (S : own_S p l e R s m args below meth c n0 T h cells slots) (seg : List (Nat × Instr × Nat)) (hd : own_dec cd seg = true) (pc' : Nat) (ls' : Array Slot) (st' : List Value)
    (hr : own_run seg pc ls st = some (pc', ls', st')) (k : own_Go p e below En T (mkF m pc' ls' st')) : own_Go p e below En T (mkF m pc ls st) := by
  obtain ⟨locs, kk, n, X, -⟩ := S
  exact own_step (own_run_ok X C.1 C.2.1 seg hd hr) k
/-! branches -/
def own_P : ClassFile.Cond → Int32 → Int32 → Prop
  | .eq, x, y => x = y | .ne, x, y => ¬ x = y | .lt, x, y => x < y | .ge, x, y => ¬ x < y | .gt, x, y => y < x | .le, x, y => ¬ y < x
def own_N : ClassFile.Cond → Int32 → Int32 → Prop
  | .eq, x, y => ¬ x = y | .ne, x, y => x = y | .lt, x, y => ¬ x < y | .ge, x, y => x < y | .gt, x, y => ¬ y < x | .le, x, y => y < x
theorem own_holds (q : ClassFile.Cond) (x y : Int32) : (own_P q x y ∧ if_icmp.holds q x y = true) ∨ (own_N q x y ∧ if_icmp.holds q x y = false) := by
  cases q
  · by_cases g : x = y
    · exact Or.inl ⟨g, (teq g).1⟩
    · exact Or.inr ⟨g, (feq g).1⟩
  · by_cases g : x = y
    · exact Or.inr ⟨g, (teq g).2⟩
    · exact Or.inl ⟨g, (feq g).2⟩
  · by_cases g : x < y
    · exact Or.inl ⟨g, (tlt g).1⟩
    · exact Or.inr ⟨g, (flt g).1⟩
  · by_cases g : x < y
    · exact Or.inr ⟨g, (tlt g).2.1⟩
    · exact Or.inl ⟨g, (flt g).2.1⟩
  · by_cases g : y < x
    · exact Or.inl ⟨g, (tlt g).2.2.1⟩
    · exact Or.inr ⟨g, (flt g).2.2.1⟩
  · by_cases g : y < x
    · exact Or.inr ⟨g, (tlt g).2.2.2⟩
    · exact Or.inl ⟨g, (flt g).2.2.2⟩
theorem own_icmp (C : own_Cx p s m meth c Z own cd maxL ret nm) (S : own_S p l e R s m args below meth c n0 T h cells slots) {q : ClassFile.Cond} {o : Int} {x y : Int32} (hd : decode cd pc = .ok (.if_icmp q o, 3)) (pc' : Nat) (ho : 0 ≤ (pc : Int) + o) (hp : ((pc : Int) + o).toNat = pc')
    (k1 : own_P q x y → own_Go p e below En T (mkF m pc' ls st)) (k2 : own_N q x y → own_Go p e below En T (mkF m (pc + 3) ls st)) : own_Go p e below En T (mkF m pc ls (.int y :: .int x :: st)) := by
  obtain ⟨locs, kk, n, X, -⟩ := S
  rcases own_holds q x y with ⟨g, hc⟩ | ⟨g, hc⟩
  · exact own_step (fun t k => XS.icmpYes X.here C.1 rfl rfl (own_hd C hd) rfl hc ho hp k) (k1 g)
  · exact own_step (fun t k => XS.icmpNo X.here C.1 rfl (own_hd C hd) rfl hc k) (k2 g)
theorem own_if (C : own_Cx p s m meth c Z own cd maxL ret nm) (S : own_S p l e R s m args below meth c n0 T h cells slots) {q : ClassFile.Cond} {o : Int} {x : Int32} (hd : decode cd pc = .ok (.ifCond q o, 3)) (pc' : Nat) (ho : 0 ≤ (pc : Int) + o) (hp : ((pc : Int) + o).toNat = pc')
    (k1 : own_P q x 0 → own_Go p e below En T (mkF m pc' ls st)) (k2 : own_N q x 0 → own_Go p e below En T (mkF m (pc + 3) ls st)) : own_Go p e below En T (mkF m pc ls (.int x :: st)) := by
  obtain ⟨locs, kk, n, X, -⟩ := S
  rcases own_holds q x 0 with ⟨g, hc⟩ | ⟨g, hc⟩ <;> rw [← if0] at hc
  · exact own_step (fun t k => XS.ifYes X.here C.1 rfl rfl (own_hd C hd) rfl hc ho hp k) (k1 g)
  · exact own_step (fun t k => XS.ifNo X.here C.1 rfl (own_hd C hd) rfl hc k) (k2 g)
def own_A : ClassFile.ACond → Value → Value → Prop
  | .eq, x, y => x = y | .ne, x, y => ¬ x = y
def own_B : ClassFile.ACond → Value → Value → Prop
  | .eq, x, y => ¬ x = y | .ne, x, y => x = y
theorem own_acmp (C : own_Cx p s m meth c Z own cd maxL ret nm) (S : own_S p l e R s m args below meth c n0 T h cells slots) {q : ClassFile.ACond} {o : Int} {x y : Value} (hx' : x.isRef = true) (hy' : y.isRef = true) (hd : decode cd pc = .ok (.if_acmp q o, 3)) (pc' : Nat) (ho : 0 ≤ (pc : Int) + o) (hp : ((pc : Int) + o).toNat = pc')
    (k1 : own_A q x y → own_Go p e below En T (mkF m pc' ls st)) (k2 : own_B q x y → own_Go p e below En T (mkF m (pc + 3) ls st)) : own_Go p e below En T (mkF m pc ls (y :: x :: st)) := by
  obtain ⟨locs, kk, n, X, -⟩ := S
  cases q <;> by_cases g : x = y
  · exact own_step (fun t k => Jvm.Free.XT.acmpYes X.here C.1 rfl rfl (own_hd C hd) rfl hx' hy' (Jvm.Free.XT.aa_eq_t g) ho hp k) (k1 g)
  · exact own_step (fun t k => Jvm.Free.XT.acmpNo X.here C.1 rfl (own_hd C hd) rfl hx' hy' (Jvm.Free.XT.aa_eq_f g) k) (k2 g)
  · exact own_step (fun t k => Jvm.Free.XT.acmpNo X.here C.1 rfl (own_hd C hd) rfl hx' hy' (Jvm.Free.XT.aa_ne_f g) k) (k2 g)
  · exact own_step (fun t k => Jvm.Free.XT.acmpYes X.here C.1 rfl rfl (own_hd C hd) rfl hx' hy' (Jvm.Free.XT.aa_ne_t g) ho hp k) (k1 g)
/-! arithmetic with premises -/
theorem own_idiv (C : own_Cx p s m meth c Z own cd maxL ret nm) (S : own_S p l e R s m args below meth c n0 T h cells slots) {x y : Int32} (hd : decode cd pc = .ok (.idiv, 1)) (hy : y ≠ 0) (k : own_Go p e below En T (mkF m (pc + 1) ls (.int (x / y) :: st))) : own_Go p e below En T (mkF m pc ls (.int y :: .int x :: st)) := by
  obtain ⟨locs, kk, n, X, -⟩ := S
  exact own_step (fun t k => XS.idiv X.here C.1 rfl (own_hd C hd) rfl hy k) k
theorem own_irem (C : own_Cx p s m meth c Z own cd maxL ret nm) (S : own_S p l e R s m args below meth c n0 T h cells slots) {x y : Int32} (hd : decode cd pc = .ok (.irem, 1)) (hy : y ≠ 0) (k : own_Go p e below En T (mkF m (pc + 1) ls (.int (x % y) :: st))) : own_Go p e below En T (mkF m pc ls (.int y :: .int x :: st)) := by
  obtain ⟨locs, kk, n, X, -⟩ := S
  exact own_step (fun t k => iremM X C.1 rfl (own_hd C hd) rfl hy k) k
theorem own_dcmp (C : own_Cx p s m meth c Z own cd maxL ret nm) (S : own_S p l e R s m args below meth c n0 T h cells slots) {o : CmpOp} {x y : UInt64} (v : Int32) (hd : decode cd pc = .ok (.dcmp o, 1)) (hv : cmpValue (FP.dcmp x y) o = v) (k : own_Go p e below En T (mkF m (pc + 1) ls (.int v :: st))) : own_Go p e below En T (mkF m pc ls (.double y :: .double x :: st)) := by
  obtain ⟨locs, kk, n, X, -⟩ := S
  exact own_step (fun t k => XS.dcmpS X.here C.1 rfl (own_hd C hd) rfl hv k) k
theorem own_ddiv (C : own_Cx p s m meth c Z own cd maxL ret nm) (S : own_S p l e R s m args below meth c n0 T h cells slots) {x y : UInt64} (v : UInt64) (hd : decode cd pc = .ok (.ddiv, 1)) (hn : Jvm.Free.Fl.NoNaN64 (FP.ddiv x y)) (hv : FP.ddiv x y = v) (k : own_Go p e below En T (mkF m (pc + 1) ls (.double v :: st))) : own_Go p e below En T (mkF m pc ls (.double y :: .double x :: st)) := by
  obtain ⟨locs, kk, n, X, -⟩ := S
  exact own_step (fun t k => XS.ddivS X.here C.1 rfl (own_hd C hd) rfl hn hv k) k
theorem own_dmul (C : own_Cx p s m meth c Z own cd maxL ret nm) (S : own_S p l e R s m args below meth c n0 T h cells slots) {x y : UInt64} (v : UInt64) (hd : decode cd pc = .ok (.dmul, 1)) (hn : Jvm.Free.Fl.NoNaN64 (FP.dmul x y)) (hv : FP.dmul x y = v) (k : own_Go p e below En T (mkF m (pc + 1) ls (.double v :: st))) : own_Go p e below En T (mkF m pc ls (.double y :: .double x :: st)) := by
  obtain ⟨locs, kk, n, X, -⟩ := S
  exact own_step (fun t k => XS.dmulS X.here C.1 rfl (own_hd C hd) rfl hn hv k) k
theorem own_dadd (C : own_Cx p s m meth c Z own cd maxL ret nm) (S : own_S p l e R s m args below meth c n0 T h cells slots) {x y : UInt64} (v : UInt64) (hd : decode cd pc = .ok (.dadd, 1)) (hn : Jvm.Free.Fl.NoNaN64 (FP.dadd x y)) (hv : FP.dadd x y = v) (k : own_Go p e below En T (mkF m (pc + 1) ls (.double v :: st))) : own_Go p e below En T (mkF m pc ls (.double y :: .double x :: st)) := by
  obtain ⟨locs, kk, n, X, -⟩ := S
  exact own_step (fun t k => XS.daddS X.here C.1 rfl (own_hd C hd) rfl hn hv k) k
theorem own_dconst0 (C : own_Cx p s m meth c Z own cd maxL ret nm) (S : own_S p l e R s m args below meth c n0 T h cells slots) (hd : decode cd pc = .ok (.dconst 0, 1)) (k : own_Go p e below En T (mkF m (pc + 1) ls (.double 0 :: st))) : own_Go p e below En T (mkF m pc ls st) := by
  obtain ⟨locs, kk, n, X, -⟩ := S
  exact own_step (fun t k => XS.dconst0 X.here C.1 rfl (own_hd C hd) rfl k) k
/-! constants -/
theorem own_ldc (C : own_Cx p s m meth c Z own cd maxL ret nm) (S : own_S p l e R s m args below meth c n0 T h cells slots) {index : Nat} {v : Int32} (w : (Jvm.Cond.constant own index v).before a0 Z = true) (hd : decode cd pc = .ok (.ldc index, 2)) (k : own_Go p e below En T (mkF m (pc + 2) ls (.int v :: st))) : own_Go p e below En T (mkF m pc ls st) := by
  obtain ⟨locs, kk, n, X, -⟩ := S
  exact own_step (fun t k => X.ldcInt C.1 C.2.2.2.1 (mv C.2.2.2.2.2.2.2 w) (g := mkF m pc ls st) rfl (own_hd C hd) t k) k
theorem own_ldc2D (C : own_Cx p s m meth c Z own cd maxL ret nm) (S : own_S p l e R s m args below meth c n0 T h cells slots) {index : Nat} {v : UInt64} (w : (Jvm.Cond.constantDouble own index v).before a0 Z = true) (hd : decode cd pc = .ok (.ldc2_w index, 3)) (k : own_Go p e below En T (mkF m (pc + 3) ls (.double v :: st))) : own_Go p e below En T (mkF m pc ls st) := by
  obtain ⟨locs, kk, n, X, -⟩ := S
  exact own_step (fun t k => X.ldc2DoubleC C.1 C.2.2.2.1 (mv C.2.2.2.2.2.2.2 w) (g := mkF m pc ls st) rfl (own_hd C hd) t k) k
theorem own_ldc2J (C : own_Cx p s m meth c Z own cd maxL ret nm) (S : own_S p l e R s m args below meth c n0 T h cells slots) {index : Nat} {v : Int64} (w : (Jvm.Cond.constantLong own index v).before a0 Z = true) (hd : decode cd pc = .ok (.ldc2_w index, 3)) (k : own_Go p e below En T (mkF m (pc + 3) ls (.long v :: st))) : own_Go p e below En T (mkF m pc ls st) := by
  obtain ⟨locs, kk, n, X, -⟩ := S
  exact own_step (fun t k => X.ldc2Long C.1 C.2.2.2.1 (mv C.2.2.2.2.2.2.2 w) (g := mkF m pc ls st) rfl (own_hd C hd) t k) k
/-! fields and objects -/
theorem own_getF (C : own_Cx p s m meth c Z own cd maxL ret nm) (S : own_S p l e R s m args below meth c n0 T h cells slots) {index : Nat} {R0 O n d host : String} {a : Addr} {v : Value} (w : (Jvm.Cond.fieldLink own index R0 n d).before a0 Z = true ∨ (Jvm.Cond.fieldLinkNest own index R0 n d host).before a0 Z = true) (via : Via Z R0 O n d) (FF : Fld Z h a O n d v) (hd : decode cd pc = .ok (.getfield index, 3))
    (k : ∀ T', own_S p l e R s m args below meth c n0 T' h cells slots → own_Go p e below En T' (mkF m (pc + 3) ls (v :: st))) : own_Go p e below En T (mkF m pc ls (.ref a :: st)) := by
  obtain ⟨locs, kk, nn, X, eT, N, q1, q2⟩ := S
  obtain ⟨T', X', e', stp⟩ := getF X C.1 C.2.2.2.2.2.2.2 C.2.2.2.1 w via eT FF (g := mkF m pc ls (.ref a :: st)) rfl rfl (own_hd C hd)
  exact own_step stp (k T' ⟨_, _, _, X', e', N, q1, q2⟩)
theorem own_getS (C : own_Cx p s m meth c Z own cd maxL ret nm) (S : own_S p l e R s m args below meth c n0 T h cells slots) {index : Nat} {R0 O n d : String} {v : Value} (w : (Jvm.Cond.fieldLink own index R0 n d).before a0 Z = true) (via : Via Z R0 O n d) (FF : Sta Z h O n d v) (hd : decode cd pc = .ok (.getstatic index, 3))
    (k : ∀ T', own_S p l e R s m args below meth c n0 T' h cells slots → own_Go p e below En T' (mkF m (pc + 3) ls (v :: st))) : own_Go p e below En T (mkF m pc ls st) := by
  obtain ⟨locs, kk, nn, X, eT, N, q1, q2⟩ := S
  obtain ⟨T', X', e', stp⟩ := getS X C.1 C.2.2.2.2.2.2.2 (host := "") C.2.2.2.1 w via eT FF (g := mkF m pc ls st) rfl (own_hd C hd)
  exact own_step stp (k T' ⟨_, _, _, X', e', N, q1, q2⟩)
theorem own_putF (C : own_Cx p s m meth c Z own cd maxL ret nm) (S : own_S p l e R s m args below meth c n0 T h cells slots) {index ki : Nat} {R0 O n d host Cl : String} {a : Addr} {v old : Value} {ty : FieldType} (w : (Jvm.Cond.fieldLink own index R0 n d).before a0 Z = true ∨ (Jvm.Cond.fieldLinkNest own index R0 n d host).before a0 Z = true) (via : Via Z R0 O n d) (FF : Fld Z h a O n d old) (E : Exa Z h a Cl)
    (L : (Jvm.Cond.lays Cl O n d).before a0 Z = true ∨ ((Jvm.Cond.laysFinal Cl O n d).before a0 Z = true ∧ own = O ∧ nm = "<init>")) (wi : (Jvm.Cond.instantiable Cl ki).before a0 Z = true) (hty : parseFieldDescriptor d = some ty) (hn : narrow ty v = v) (hf : fits ty v = true) (hge : n0 ≤ a) (hd : decode cd pc = .ok (.putfield index, 3))
    (k : ∀ T' h', own_S p l e R s m args below meth c n0 T' h' cells slots → Wr h h' a (Jvm.RoadKit.slotOf Z O n d) v → own_Go p e below En T' (mkF m (pc + 3) ls st)) : own_Go p e below En T (mkF m pc ls (v :: .ref a :: st)) := by
  obtain ⟨locs, kk, nn, X, eT, N, q1, q2⟩ := S
  obtain ⟨T', h', X', e', W, stp⟩ := putF X C.1 C.2.2.2.2.2.2.2 C.2.2.2.1 w via eT FF E (L.imp id (fun q => ⟨q.1, q.2.1, C.2.2.2.2.1.trans q.2.2⟩)) wi hty hn hf (g := mkF m pc ls (v :: .ref a :: st)) rfl rfl (own_hd C hd)
  exact own_step stp (k T' h' ⟨_, _, _, X', e', Fr.snoc X' N hge, q1, q2⟩ W)
theorem own_new (C : own_Cx p s m meth c Z own cd maxL ret nm) (S : own_S p l e R s m args below meth c n0 T h cells slots) {index ki : Nat} {Cl : String} (w : (Jvm.Cond.classLink own index Cl).before a0 Z = true) (wi : (Jvm.Cond.instantiable Cl ki).before a0 Z = true) (wz : (Jvm.Cond.initialized Cl).before a0 Z = true) (hd : decode cd pc = .ok (.new index, 3)) (hc : cells + 1 ≤ R.cells) (hl : slots + ki ≤ R.slots)
    (k : ∀ T' h' a, own_S p l e R s m args below meth c n0 T' h' (cells + 1) (slots + ki) → a = h.size → Ext h h' → Exa Z h' a Cl → (∀ {O nm d : String} {ty : FieldType}, Laid Z a0 Cl O nm d → parseFieldDescriptor d = some ty → Fld Z h' a O nm d (defaultValue ty)) → own_Go p e below En T' (mkF m (pc + 3) ls (.ref a :: st))) : own_Go p e below En T (mkF m pc ls st) := by
  obtain ⟨locs, kk, nn, X, eT, N, q1, q2⟩ := S
  obtain ⟨T', h', X', e', E, A, D, -, stp⟩ := newO X C.1 C.2.2.2.2.2.2.2 C.2.2.2.1 w wi wz eT (g := mkF m pc ls st) rfl (own_hd C hd) (by omega) (by omega)
  exact own_step stp (k T' h' _ ⟨_, _, _, X', e', N, by omega, by omega⟩ rfl E A D)
theorem own_initO (C : own_Cx p s m meth c Z own cd maxL ret nm) (S : own_S p l e R s m args below meth c n0 T h cells slots) {index : Nat} (w1 : (Jvm.Cond.methodLink own index Lib.objectInit).before a0 Z = true) (w2 : (Jvm.Cond.instanceMethod Lib.objectInit).before a0 Z = true) (w3 : (Jvm.Cond.code Lib.objectInit ⟨#[0xb1]⟩ 1 none).before a0 Z = true) {a : Addr} (hsz : ls.size = maxL) (hd : decode cd pc = .ok (.invokespecial index, 3)) (hf : 1 ≤ R.frames) (W : Nat) (hW : (st.map fun v => v.category).sum ≤ W) (hl : W + 12 ≤ R.locals)
    (k : ∀ T', own_S p l e R s m args below meth c n0 T' h cells slots → own_Go p e below En T' (mkF m (pc + 3) ls st)) : own_Go p e below En T (mkF m pc ls (.ref a :: st)) := by
  obtain ⟨locs, kk, nn, X, eT, N, q1, q2⟩ := S
  obtain ⟨T', X', e', stp⟩ := initO X C.1 C.2.2.2.2.2.2.2 C.2.2.2.1 w1 w2 w3 eT (g := mkF m pc ls (.ref a :: st)) rfl (own_hsz C hsz) rfl (own_hd C hd) hf (W := W) (by show 2 * 0 + _ ≤ W; omega) hl
  exact own_step stp (k T' ⟨_, _, _, X', e', N, q1, q2⟩)
/-! arrays -/
theorem own_newP (C : own_Cx p s m meth c Z own cd maxL ret nm) (S : own_S p l e R s m args below meth c n0 T h cells slots) {aty : ArrayType} (w : (Jvm.Cond.arrayClass (newarray.typeOf aty)).before a0 Z = true) (hd : decode cd pc = .ok (.newarray aty, 2)) {n : Int32} (hn : ¬ n < 0) (cap : Nat) (hcap : n.toNatClampNeg ≤ cap) (hb : cap * 8 ≤ 536870912) (hc : cells + 1 ≤ R.cells) (hl : slots + cap ≤ R.slots)
    (k : ∀ T' h' a cA, own_S p l e R s m args below meth c n0 T' h' (cells + 1) (slots + cap) → a = h.size → Ext h h' → Arv Z h' a cA (newarray.typeOf aty) n [] (defaultValue (newarray.typeOf aty)) → own_Go p e below En T' (mkF m (pc + 2) ls (.ref a :: st))) : own_Go p e below En T (mkF m pc ls (.int n :: st)) := by
  obtain ⟨locs, kk, nn, X, eT, N, q1, q2⟩ := S
  obtain ⟨T', h', cA, X', e', E, A, stp⟩ := newP X C.1 C.2.2.2.2.2.2.2 w eT (g := mkF m pc ls (.int n :: st)) rfl (own_hd C hd) rfl hn hcap hb (by omega) (by omega)
  exact own_step stp (k T' h' _ cA ⟨_, _, _, X', e', N, by omega, by omega⟩ rfl E (Arv.new A hn))
theorem own_alen (C : own_Cx p s m meth c Z own cd maxL ret nm) (S : own_S p l e R s m args below meth c n0 T h cells slots) {a : Addr} {ka : ClassId} {ty : FieldType} {N : Int32} {vs : List Value} {dv : Value} (FF : Arv Z h a ka ty N vs dv) (hd : decode cd pc = .ok (.arraylength, 1)) (k : own_Go p e below En T (mkF m (pc + 1) ls (.int N :: st))) : own_Go p e below En T (mkF m pc ls (.ref a :: st)) := by
  obtain ⟨locs, kk, nn, X, eT, -⟩ := S
  obtain ⟨cl, A, -, sz, hN, -⟩ := FF
  rw [← len_of sz hN] at k
  exact own_step (fun t k => X.arraylength C.1 (by rw [eT]; exact A.1) (State.isArrayOf_alike C.2.2.2.2.2.2.2.alike A.2.1) (g := mkF m pc ls (.ref a :: st)) rfl rfl (own_hd C hd) t k) k
theorem own_caload (C : own_Cx p s m meth c Z own cd maxL ret nm) (S : own_S p l e R s m args below meth c n0 T h cells slots) {a : Addr} {ka : ClassId} {N j : Int32} {vs : List Value} {dv : Value} (FF : Arv Z h a ka .char N vs dv) (hin : ¬ j < 0 ∧ j < N) (v : Value) (hv : vs.getD j.toNatClampNeg dv = v) (hd : decode cd pc = .ok (.caload, 1)) (k : own_Go p e below En T (mkF m (pc + 1) ls (v :: st))) : own_Go p e below En T (mkF m pc ls (.int j :: .ref a :: st)) := by
  obtain ⟨locs, kk, nn, X, eT, -⟩ := S
  obtain ⟨cl, A, -, sz, hN, H, -⟩ := FF
  exact own_step (fun t k => X.caload C.1 (by rw [eT]; exact A.1) (State.isArrayOf_alike C.2.2.2.2.2.2.2.alike A.2.1) A.2.2 (inb_of sz hin) (Has.at H (inb_of sz hin) hv) (g := mkF m pc ls (.int j :: .ref a :: st)) rfl rfl (own_hd C hd) t k) k
theorem own_iaload (C : own_Cx p s m meth c Z own cd maxL ret nm) (S : own_S p l e R s m args below meth c n0 T h cells slots) {a : Addr} {ka : ClassId} {N j : Int32} {vs : List Value} {dv : Value} (FF : Arv Z h a ka .int N vs dv) (hin : ¬ j < 0 ∧ j < N) (v : Value) (hv : vs.getD j.toNatClampNeg dv = v) (hd : decode cd pc = .ok (.iaload, 1)) (k : own_Go p e below En T (mkF m (pc + 1) ls (v :: st))) : own_Go p e below En T (mkF m pc ls (.int j :: .ref a :: st)) := by
  obtain ⟨locs, kk, nn, X, eT, -⟩ := S
  obtain ⟨cl, A, -, sz, hN, H, -⟩ := FF
  exact own_step (fun t k => X.iaload C.1 (by rw [eT]; exact A.1) (State.isArrayOf_alike C.2.2.2.2.2.2.2.alike A.2.1) A.2.2 (inb_of sz hin) (Has.at H (inb_of sz hin) hv) (g := mkF m pc ls (.int j :: .ref a :: st)) rfl rfl (own_hd C hd) t k) k
theorem own_baload (C : own_Cx p s m meth c Z own cd maxL ret nm) (S : own_S p l e R s m args below meth c n0 T h cells slots) {a : Addr} {ka : ClassId} {N j : Int32} {vs : List Value} {dv : Value} (FF : Arv Z h a ka .byte N vs dv) (hin : ¬ j < 0 ∧ j < N) (v : Value) (hv : vs.getD j.toNatClampNeg dv = v) (hd : decode cd pc = .ok (.baload, 1)) (k : own_Go p e below En T (mkF m (pc + 1) ls (v :: st))) : own_Go p e below En T (mkF m pc ls (.int j :: .ref a :: st)) := by
  obtain ⟨locs, kk, nn, X, eT, -⟩ := S
  obtain ⟨cl, A, -, sz, hN, H, -⟩ := FF
  exact own_step (fun t k => X.baloadBytes C.1 (by rw [eT]; exact A.1) (State.isArrayOf_alike C.2.2.2.2.2.2.2.alike A.2.1) A.2.2 (inb_of sz hin) (Has.at H (inb_of sz hin) hv) (g := mkF m pc ls (.int j :: .ref a :: st)) rfl rfl (own_hd C hd) t k) k
theorem own_daload (C : own_Cx p s m meth c Z own cd maxL ret nm) (S : own_S p l e R s m args below meth c n0 T h cells slots) {a : Addr} {ka : ClassId} {N j : Int32} {vs : List Value} {dv : Value} (FF : Arv Z h a ka .double N vs dv) (hin : ¬ j < 0 ∧ j < N) (v : Value) (hv : vs.getD j.toNatClampNeg dv = v) (hd : decode cd pc = .ok (.daload, 1)) (k : own_Go p e below En T (mkF m (pc + 1) ls (v :: st))) : own_Go p e below En T (mkF m pc ls (.int j :: .ref a :: st)) := by
  obtain ⟨locs, kk, nn, X, eT, -⟩ := S
  obtain ⟨cl, A, -, sz, hN, H, -⟩ := FF
  exact own_step (fun t k => X.daload C.1 (by rw [eT]; exact A.1) (State.isArrayOf_alike C.2.2.2.2.2.2.2.alike A.2.1) A.2.2 (inb_of sz hin) (Has.at H (inb_of sz hin) hv) (g := mkF m pc ls (.int j :: .ref a :: st)) rfl rfl (own_hd C hd) t k) k
theorem own_castore (C : own_Cx p s m meth c Z own cd maxL ret nm) (S : own_S p l e R s m args below meth c n0 T h cells slots) {a : Addr} {ka : ClassId} {N j x : Int32} {vs : List Value} {dv : Value} (FF : Arv Z h a ka .char N vs dv) (hin : ¬ j < 0 ∧ j < N) (i : Nat) (hj : j.toNatClampNeg = i) (hi : i < vs.length) (x' : Int32) (hx' : nar .char x = x') (hge : n0 ≤ a) (hd : decode cd pc = .ok (.castore, 1))
    (k : ∀ T' h', own_S p l e R s m args below meth c n0 T' h' cells slots → Wr h h' a j.toNatClampNeg (.int x') → Arv Z h' a ka .char N (vs.set i (.int x')) dv → own_Go p e below En T' (mkF m (pc + 1) ls st)) : own_Go p e below En T (mkF m pc ls (.int x :: .int j :: .ref a :: st)) := by
  subst hx'
  obtain ⟨locs, kk, nn, X, eT, N, q1, q2⟩ := S
  obtain ⟨cl, A, ck, sz, hN, H, G⟩ := FF
  obtain ⟨T', h', X', e', W, stp⟩ := stC X C.1 C.2.2.2.2.2.2.2 eT A (inb_of sz hin) (g := mkF m pc ls (.int x :: .int j :: .ref a :: st)) rfl rfl (own_hd C hd)
  exact own_step stp (k T' h' ⟨_, _, _, X', e', Fr.snoc X' N hge, q1, q2⟩ W (Arv.set A ck sz hN H G (fits_nar_char x) W i hj hi))
theorem own_bastore (C : own_Cx p s m meth c Z own cd maxL ret nm) (S : own_S p l e R s m args below meth c n0 T h cells slots) {a : Addr} {ka : ClassId} {N j x : Int32} {vs : List Value} {dv : Value} (FF : Arv Z h a ka .byte N vs dv) (hin : ¬ j < 0 ∧ j < N) (i : Nat) (hj : j.toNatClampNeg = i) (hi : i < vs.length) (x' : Int32) (hx' : nar .byte x = x') (hge : n0 ≤ a) (hd : decode cd pc = .ok (.bastore, 1))
    (k : ∀ T' h', own_S p l e R s m args below meth c n0 T' h' cells slots → Wr h h' a j.toNatClampNeg (.int x') → Arv Z h' a ka .byte N (vs.set i (.int x')) dv → own_Go p e below En T' (mkF m (pc + 1) ls st)) : own_Go p e below En T (mkF m pc ls (.int x :: .int j :: .ref a :: st)) := by
  subst hx'
  obtain ⟨locs, kk, nn, X, eT, N, q1, q2⟩ := S
  obtain ⟨cl, A, ck, sz, hN, H, G⟩ := FF
  obtain ⟨T', h', X', e', W, stp⟩ := stB X C.1 C.2.2.2.2.2.2.2 eT A (inb_of sz hin) (g := mkF m pc ls (.int x :: .int j :: .ref a :: st)) rfl rfl (own_hd C hd)
  exact own_step stp (k T' h' ⟨_, _, _, X', e', Fr.snoc X' N hge, q1, q2⟩ W (Arv.set A ck sz hN H G (fits_nar_byte x) W i hj hi))
theorem own_iastore (C : own_Cx p s m meth c Z own cd maxL ret nm) (S : own_S p l e R s m args below meth c n0 T h cells slots) {a : Addr} {ka : ClassId} {N j x : Int32} {vs : List Value} {dv : Value} (FF : Arv Z h a ka .int N vs dv) (hin : ¬ j < 0 ∧ j < N) (i : Nat) (hj : j.toNatClampNeg = i) (hi : i < vs.length) (hge : n0 ≤ a) (hd : decode cd pc = .ok (.iastore, 1))
    (k : ∀ T' h', own_S p l e R s m args below meth c n0 T' h' cells slots → Wr h h' a j.toNatClampNeg (.int x) → Arv Z h' a ka .int N (vs.set i (.int x)) dv → own_Go p e below En T' (mkF m (pc + 1) ls st)) : own_Go p e below En T (mkF m pc ls (.int x :: .int j :: .ref a :: st)) := by
  obtain ⟨locs, kk, nn, X, eT, N, q1, q2⟩ := S
  obtain ⟨cl, A, ck, sz, hN, H, G⟩ := FF
  obtain ⟨T', h', X', e', W, stp⟩ := stI X C.1 C.2.2.2.2.2.2.2 eT A (inb_of sz hin) (g := mkF m pc ls (.int x :: .int j :: .ref a :: st)) rfl rfl (own_hd C hd)
  exact own_step stp (k T' h' ⟨_, _, _, X', e', Fr.snoc X' N hge, q1, q2⟩ W (Arv.set A ck sz hN H G rfl W i hj hi))
theorem own_dastore (C : own_Cx p s m meth c Z own cd maxL ret nm) (S : own_S p l e R s m args below meth c n0 T h cells slots) {a : Addr} {ka : ClassId} {N j : Int32} {x : UInt64} {vs : List Value} {dv : Value} (FF : Arv Z h a ka .double N vs dv) (hin : ¬ j < 0 ∧ j < N) (i : Nat) (hj : j.toNatClampNeg = i) (hi : i < vs.length) (hge : n0 ≤ a) (hd : decode cd pc = .ok (.dastore, 1))
    (k : ∀ T' h', own_S p l e R s m args below meth c n0 T' h' cells slots → Wr h h' a j.toNatClampNeg (.double x) → Arv Z h' a ka .double N (vs.set i (.double x)) dv → own_Go p e below En T' (mkF m (pc + 1) ls st)) : own_Go p e below En T (mkF m pc ls (.double x :: .int j :: .ref a :: st)) := by
  obtain ⟨locs, kk, nn, X, eT, N, q1, q2⟩ := S
  obtain ⟨cl, A, ck, sz, hN, H, G⟩ := FF
  obtain ⟨T', h', X', e', W, stp⟩ := stD X C.1 C.2.2.2.2.2.2.2 eT A (inb_of sz hin) (g := mkF m pc ls (.double x :: .int j :: .ref a :: st)) rfl rfl (own_hd C hd)
  exact own_step stp (k T' h' ⟨_, _, _, X', e', Fr.snoc X' N hge, q1, q2⟩ W (Arv.set A ck sz hN H G rfl W i hj hi))
/-! arrays of objects, casts -/
theorem own_newR (C : own_Cx p s m meth c Z own cd maxL ret nm) (S : own_S p l e R s m args below meth c n0 T h cells slots) {index : Nat} {Cl : String} (w1 : (Jvm.Cond.classLink own index Cl).before a0 Z = true) (w2 : (Jvm.Cond.arrayOver (.object Cl)).before a0 Z = true) (hd : decode cd pc = .ok (.anewarray index, 3)) {n : Int32} (hn : ¬ n < 0) (cap : Nat) (hcap : n.toNatClampNeg ≤ cap) (hb : cap * 8 ≤ 536870912) (hc : cells + 1 ≤ R.cells) (hl : slots + cap ≤ R.slots)
    (k : ∀ T' h' a cA, own_S p l e R s m args below meth c n0 T' h' (cells + 1) (slots + cap) → a = h.size → Ext h h' → Arv Z h' a cA (.object Cl) n [] .null → Ovr Z cA Cl → own_Go p e below En T' (mkF m (pc + 3) ls (.ref a :: st))) : own_Go p e below En T (mkF m pc ls (.int n :: st)) := by
  obtain ⟨locs, kk, nn, X, eT, N, q1, q2⟩ := S
  obtain ⟨T', h', cA, X', e', E, A, O, stp⟩ := newR X C.1 C.2.2.2.2.2.2.2 C.2.2.2.1 w1 w2 eT (g := mkF m pc ls (.int n :: st)) rfl (own_hd C hd) rfl hn hcap hb (by omega) (by omega)
  exact own_step stp (k T' h' _ cA ⟨_, _, _, X', e', N, by omega, by omega⟩ rfl E (Arv.new A hn) O)
theorem own_aaload (C : own_Cx p s m meth c Z own cd maxL ret nm) (S : own_S p l e R s m args below meth c n0 T h cells slots) {a : Addr} {ka : ClassId} {ty : FieldType} {N j : Int32} {vs : List Value} {dv : Value} (FF : Arv Z h a ka ty N vs dv) (hty : ty.isReference = true) (hin : ¬ j < 0 ∧ j < N) (v : Value) (hv : vs.getD j.toNatClampNeg dv = v) (hd : decode cd pc = .ok (.aaload, 1)) (k : own_Go p e below En T (mkF m (pc + 1) ls (v :: st))) : own_Go p e below En T (mkF m pc ls (.int j :: .ref a :: st)) := by
  obtain ⟨locs, kk, nn, X, eT, -⟩ := S
  obtain ⟨cl, A, -, sz, hN, H, -⟩ := FF
  exact own_step (fun t k => X.aaload C.1 (by rw [eT]; exact A.1) (State.isArrayOf_alike C.2.2.2.2.2.2.2.alike A.2.1) hty A.2.2 (inb_of sz hin) (Has.at H (inb_of sz hin) hv) (g := mkF m pc ls (.int j :: .ref a :: st)) rfl rfl (own_hd C hd) t k) k
theorem own_aastore (C : own_Cx p s m meth c Z own cd maxL ret nm) (S : own_S p l e R s m args below meth c n0 T h cells slots) {a y : Addr} {ka : ClassId} {Cl : String} {N j : Int32} {vs : List Value} {dv : Value} (FF : Arv Z h a ka (.object Cl) N vs dv) (O : Ovr Z ka Cl) (I : Ins Z h y Cl true) (hin : ¬ j < 0 ∧ j < N) (i : Nat) (hj : j.toNatClampNeg = i) (hi : i < vs.length) (hge : n0 ≤ a) (hd : decode cd pc = .ok (.aastore, 1))
    (k : ∀ T' h', own_S p l e R s m args below meth c n0 T' h' cells slots → Wr h h' a j.toNatClampNeg (.ref y) → Arv Z h' a ka (.object Cl) N (vs.set i (.ref y)) dv → own_Go p e below En T' (mkF m (pc + 1) ls st)) : own_Go p e below En T (mkF m pc ls (.ref y :: .int j :: .ref a :: st)) := by
  obtain ⟨locs, kk, nn, X, eT, N, q1, q2⟩ := S
  obtain ⟨cl, A, ck, sz, hN, H, G⟩ := FF
  obtain ⟨T', h', X', e', W, stp⟩ := stR X C.1 C.2.2.2.2.2.2.2 eT A (inb_of sz hin) rfl (Sto.ofV A ck O I) (g := mkF m pc ls (.ref y :: .int j :: .ref a :: st)) rfl rfl (own_hd C hd)
  exact own_step stp (k T' h' ⟨_, _, _, X', e', Fr.snoc X' N hge, q1, q2⟩ W (Arv.set A ck sz hN H G rfl W i hj hi))
theorem own_cast (C : own_Cx p s m meth c Z own cd maxL ret nm) (S : own_S p l e R s m args below meth c n0 T h cells slots) {index : Nat} {K : String} {a : Addr} (w : (Jvm.Cond.classLink own index K).before a0 Z = true) (FF : Ins Z h a K true) (hd : decode cd pc = .ok (.checkcast index, 3))
    (k : ∀ T', own_S p l e R s m args below meth c n0 T' h cells slots → own_Go p e below En T' (mkF m (pc + 3) ls (.ref a :: st))) : own_Go p e below En T (mkF m pc ls (.ref a :: st)) := by
  obtain ⟨locs, kk, nn, X, eT, N, q1, q2⟩ := S
  obtain ⟨T', X', e', stp⟩ := castY X C.1 C.2.2.2.2.2.2.2 C.2.2.2.1 w eT FF (g := mkF m pc ls (.ref a :: st)) rfl rfl (own_hd C hd)
  exact own_step stp (k T' ⟨_, _, _, X', e', N, q1, q2⟩)
theorem own_inst (C : own_Cx p s m meth c Z own cd maxL ret nm) (S : own_S p l e R s m args below meth c n0 T h cells slots) {index : Nat} {K : String} {a : Addr} (w : (Jvm.Cond.classLink own index K).before a0 Z = true) (FF : Ins Z h a K true) (hd : decode cd pc = .ok (.instanceof index, 3))
    (k : ∀ T', own_S p l e R s m args below meth c n0 T' h cells slots → own_Go p e below En T' (mkF m (pc + 3) ls (.int 1 :: st))) : own_Go p e below En T (mkF m pc ls (.ref a :: st)) := by
  obtain ⟨locs, kk, nn, X, eT, N, q1, q2⟩ := S
  obtain ⟨T', X', e', stp⟩ := instY X C.1 C.2.2.2.2.2.2.2 C.2.2.2.1 w eT FF (g := mkF m pc ls (.ref a :: st)) rfl rfl (own_hd C hd)
  exact own_step stp (k T' ⟨_, _, _, X', e', N, q1, q2⟩)
/-! the end -/
theorem own_ret {t : FieldType} (C : own_Cx p s m meth c Z own cd maxL (some t) nm) (S : own_S p l e R s m args below meth c n0 T h cells slots) {i : Instr} {w : Value} (hd : decode cd pc = .ok (i, 1)) (hn : narrow t w = w)
    (hi : (i = .ireturn ∧ (t = .int ∨ t = .boolean ∨ t = .byte ∨ t = .char ∨ t = .short) ∧ ∃ z, w = .int z) ∨ (i = .lreturn ∧ t = .long ∧ ∃ z, w = .long z) ∨ (i = .dreturn ∧ t = .double ∧ ∃ z, w = .double z) ∨ (i = .freturn ∧ t = .float ∧ ∃ z, w = .float z) ∨ (i = .areturn ∧ t.isReference = true ∧ w.isRef = true))
    (hc : cells ≤ kc) (hs : slots ≤ ks) (hF : F (some w) h) : own_Go p e below (own_En s n0 F kc ks) T (mkF m pc ls (w :: st)) := by
  obtain ⟨locs, kk, nn, X, eT, N, q1, q2⟩ := S
  obtain ⟨fs, hr, hrun, hended, hW, hsame⟩ := X.leave (v := some w) (fun q => by rw [C.2.2.2.2.2.1] at q; cases q) C.2.2.2.2.2.2.1
  refine ⟨_, _, retOut X C.1 C.2.2.2.2.2.1 hn hi (own_hd C hd) hr, hrun, hended, _, _, rfl, ⟨?_, N⟩, ⟨_, rfl⟩, hW, hsame.mono (Nat.le_trans q1 hc) (Nat.le_trans q2 hs)⟩
  show F (some w) T.heap
  rw [eT]; exact hF
theorem own_retI (C : own_Cx p s m meth c Z own cd maxL (some .int) nm) (S : own_S p l e R s m args below meth c n0 T h cells slots) {z : Int32} (hd : decode cd pc = .ok (.ireturn, 1)) (hc : cells ≤ kc) (hs : slots ≤ ks) (hF : F (some (.int z)) h) : own_Go p e below (own_En s n0 F kc ks) T (mkF m pc ls (.int z :: st)) :=
  own_ret C S hd rfl (Or.inl ⟨rfl, Or.inl rfl, z, rfl⟩) hc hs hF
theorem own_retZ (C : own_Cx p s m meth c Z own cd maxL (some .boolean) nm) (S : own_S p l e R s m args below meth c n0 T h cells slots) {z : Int32} (hd : decode cd pc = .ok (.ireturn, 1)) (hz : z &&& 1 = z) (hc : cells ≤ kc) (hs : slots ≤ ks) (hF : F (some (.int z)) h) : own_Go p e below (own_En s n0 F kc ks) T (mkF m pc ls (.int z :: st)) :=
  own_ret C S hd (by show Value.int (z &&& 1) = _; rw [hz]) (Or.inl ⟨rfl, Or.inr (Or.inl rfl), z, rfl⟩) hc hs hF
theorem own_retC (C : own_Cx p s m meth c Z own cd maxL (some .char) nm) (S : own_S p l e R s m args below meth c n0 T h cells slots) {z : Int32} (hd : decode cd pc = .ok (.ireturn, 1)) (hz : z.toUInt32.toUInt16.toUInt32.toInt32 = z) (hc : cells ≤ kc) (hs : slots ≤ ks) (hF : F (some (.int z)) h) : own_Go p e below (own_En s n0 F kc ks) T (mkF m pc ls (.int z :: st)) :=
  own_ret C S hd (by show Value.int (z.toUInt32.toUInt16.toUInt32.toInt32) = _; rw [hz]) (Or.inl ⟨rfl, by simp, z, rfl⟩) hc hs hF
theorem own_retA {t : FieldType} (C : own_Cx p s m meth c Z own cd maxL (some t) nm) (S : own_S p l e R s m args below meth c n0 T h cells slots) {w : Value} (ht : t.isReference = true) (hr : w.isRef = true) (hd : decode cd pc = .ok (.areturn, 1)) (hc : cells ≤ kc) (hs : slots ≤ ks) (hF : F (some w) h) : own_Go p e below (own_En s n0 F kc ks) T (mkF m pc ls (w :: st)) :=
  own_ret C S hd (by cases w <;> simp [Value.isRef] at hr <;> cases t <;> first | rfl | (simp [FieldType.isReference] at ht)) (by simp [ht, hr]) hc hs hF
theorem own_retD (C : own_Cx p s m meth c Z own cd maxL (some .double) nm) (S : own_S p l e R s m args below meth c n0 T h cells slots) {z : UInt64} (hd : decode cd pc = .ok (.dreturn, 1)) (hc : cells ≤ kc) (hs : slots ≤ ks) (hF : F (some (.double z)) h) : own_Go p e below (own_En s n0 F kc ks) T (mkF m pc ls (.double z :: st)) :=
  own_ret C S hd rfl (by simp) hc hs hF
theorem own_retV (C : own_Cx p s m meth c Z own cd maxL none nm) (S : own_S p l e R s m args below meth c n0 T h cells slots) (hd : decode cd pc = .ok (.return_, 1)) (hc : cells ≤ kc) (hs : slots ≤ ks) (hF : F none h) : own_Go p e below (own_En s n0 F kc ks) T (mkF m pc ls []) := by
  obtain ⟨locs, kk, nn, X, eT, N, q1, q2⟩ := S
  obtain ⟨fs, hr, hrun, hended, hW, hsame⟩ := X.leave (v := none) (fun _ => rfl) C.2.2.2.2.2.2.1
  refine ⟨_, _, X.returnOut C.1 C.2.2.2.2.2.1 (own_hd C hd) hr, hrun, hended, _, _, rfl, ⟨?_, N⟩, ⟨_, rfl⟩, hW, hsame.mono (Nat.le_trans q1 hc) (Nat.le_trans q2 hs)⟩
  show F none T.heap
  rw [eT]; exact hF
/-! contracts -/
def own_Met (l : Launch) (Z : State) (y : MethodName) (cd : ByteArray) (maxL : Nat) (ret : Option FieldType) (rm : Room) (n0 : Nat) (as' : Array Value) (h0 : Heap) (Q : Option Value → Heap → Prop) : Prop :=
  ∀ ws, MetFree l y (head1 (Jvm.Cond.code y cd maxL ret :: ws) rm) (fun a U => a = as' ∧ Z.Warmed39 U.vm ∧ U.heap = h0) (fun _ _ _ _ _ => True) (fun _ U o U' => ∃ v L, o = .returned v ∧ (Q v U'.heap ∧ Fr n0 L) ∧ FrameEnd U o U' L rm.cells rm.slots)
theorem own_met {y : MethodName} {rm : Room} {as' : Array Value} {h0 : Heap} {Q : Option Value → Heap → Prop} (hp : plainFor y = true) (ls : Array Slot) (hef : ∀ m, entryFrame m as' maxL = mkF m 0 ls [])
    (H : ∀ (p : Program) (e : Env) (s : State) (m : MethodId) (below : List Frame) (meth : Method) (c : Code) (T : State), own_Cx p s m meth c Z y.cls cd maxL ret y.name → own_S p l e rm s m as' below meth c n0 T h0 0 0 → own_Go p e below (own_En s n0 Q rm.cells rm.slots) T (mkF m 0 ls [])) : own_Met l Z y cd maxL ret rm n0 as' h0 Q := by
  intro ws
  refine MetFree.of_bodySF hp hisR ?_
  intro p e s m args below meth c s₁ Bd hml hP hK
  obtain ⟨rfl, hZ, hh⟩ := hP
  have e0 : s₁.heap = h0 := by rw [← hh, Bd.state]; rfl
  have G := H p e s m below meth c s₁ ⟨Bd.exec, Bd.bytes, hml, findClass_of_methodNamed Bd.named, (name_of_methodNamed Bd.named Bd.method).1, Bd.returns, BodyLoose.notSynchronized Bd, hZ⟩ ⟨_, _, _, Stand.of_body Bd, e0, Fr.nil n0, Nat.le_refl _, Nat.le_refl _⟩
  rw [← hef m] at G
  exact G
/-! calls -/
/-- who pays a call -/
abbrev own_Pay (l : Launch) (R : Room) (p : Program) (e : Env) (below : List Frame) (s : State) (args : Array Value) (y : MethodName) (len W : Nat) (as' : Array Value) (h : Heap) (k1 k2 : Nat) (Q : Option Value → Heap → List Loc → Prop) : Prop :=
  Back l R p e below s args y len W (fun P a => a = as' ∧ P.U.heap = h ∧ P.cells + k1 ≤ R.cells ∧ P.slots + k2 ≤ R.slots) (fun P _ v B => ∃ L, Q v B.U.heap L ∧ B.locs = P.locs ++ L ∧ B.cells = P.cells + k1 ∧ B.slots = P.slots + k2)
theorem own_Met.pay {y : MethodName} {cdy : ByteArray} {maxy : Nat} {rety : Option FieldType} {rm : Room} {as' : Array Value} {Q : Option Value → Heap → Prop} (M : own_Met l Z y cdy maxy rety rm n0 as' h Q) (C : own_Cx p s m meth c Z own cd maxL ret nm) {len : Nat} (W : Nat) (wc : (Jvm.Cond.code y cdy maxy rety).before a0 Z = true) (wz : (Jvm.Cond.initialized y.cls).before a0 Z = true) (hf : rm.frames + 1 ≤ R.frames) (hl : W + (maxy + 11) + rm.locals ≤ R.locals) :
    own_Pay l R p e below s args y len W as' h rm.cells rm.slots (fun v h' L => Q v h' ∧ Fr n0 L) := backOf (Q := fun v h' L => Q v h' ∧ Fr n0 L) (M []) C.2.2.2.2.2.2.2 wc wz hf hl
theorem own_callS (C : own_Cx p s m meth c Z own cd maxL ret nm) (S : own_S p l e R s m args below meth c n0 T h cells slots) {y : MethodName} {index : Nat} {cdy : ByteArray} {maxy : Nat} {rety : Option FieldType} {W k1 k2 : Nat} {as' : Array Value} {Q : Option Value → Heap → List Loc → Prop}
    (w1 : (Jvm.Cond.methodLink own index y).before a0 Z = true) (w2 : (Jvm.Cond.static y).before a0 Z = true) (w3 : (Jvm.Cond.initialized y.cls).before a0 Z = true) (w4 : (Jvm.Cond.code y cdy maxy rety).before a0 Z = true) (hy : y.cls ≠ "java/lang/invoke/MethodHandle" ∧ y.cls ≠ "java/lang/invoke/VarHandle")
    (hK : own_Pay l R p e below s args y 3 W as' h k1 k2 Q) (hfr : ∀ v h' L, Q v h' L → Fr n0 L) (argsL rest : List Value) {ps : List FieldType} {rr : Option FieldType} (has : argsL.toArray = as') (hpd : parseMethodDescriptor y.desc = some ⟨ps, rr⟩) (hlen : argsL.length = ps.length) (hstk : st = argsL.reverse ++ rest) (hsz : ls.size = maxL) (hW : (rest.map fun v => v.category).sum ≤ W)
    (hc : cells + k1 ≤ R.cells) (hs : slots + k2 ≤ R.slots) (hd : decode cd pc = .ok (.invokestatic index, 3))
    (k : ∀ T' h' v L, own_S p l e R s m args below meth c n0 T' h' (cells + k1) (slots + k2) → Q v h' L → own_Go p e below En T' (mkF m (pc + 3) ls (v.toList ++ rest))) : own_Go p e below En T (mkF m pc ls st) := by
  obtain ⟨locs, kk, nn, X, eT, N, q1, q2⟩ := S
  have hZ := C.2.2.2.2.2.2.2
  obtain ⟨v, vm1, B, -, X', ⟨L, hQ, l1, l2, l3⟩, stp⟩ := Jvm.LawKit.callS X C.1 C.2.2.2.1 (mvT hZ w1) (mvT hZ w2) (mvT hZ w3) (mvT hZ w4) hy hK (g := mkF m pc ls st) rfl (own_hsz C hsz) (argsL := argsL) (rest := rest) (lenOf hpd hlen) hstk (by show 2 * 0 + _ ≤ W; omega) (own_hd C hd) (fun _ _ => ⟨has, eT, by show kk + k1 ≤ _; omega, by show nn + k2 ≤ _; omega⟩)
  refine own_step stp (k B.U _ v L ⟨B.locs, B.cells, B.slots, X', rfl, ?_, ?_, ?_⟩ hQ)
  · rw [l1]; exact Fr.app N (hfr _ _ _ hQ)
  · rw [l2]; show kk + k1 ≤ _; omega
  · rw [l3]; show nn + k2 ≤ _; omega
theorem own_callI (C : own_Cx p s m meth c Z own cd maxL ret nm) (S : own_S p l e R s m args below meth c n0 T h cells slots) {y : MethodName} {index : Nat} {cdy : ByteArray} {maxy : Nat} {W k1 k2 : Nat} {as' : Array Value} {Q : Option Value → Heap → List Loc → Prop}
    (hy1 : y.name = "<init>") (w1 : (Jvm.Cond.methodLink own index y).before a0 Z = true) (w2 : (Jvm.Cond.instanceMethod y).before a0 Z = true) (w4 : (Jvm.Cond.code y cdy maxy none).before a0 Z = true) (hy : y.cls ≠ "java/lang/invoke/MethodHandle" ∧ y.cls ≠ "java/lang/invoke/VarHandle")
    (hK : own_Pay l R p e below s args y 3 W as' h k1 k2 Q) (hfr : ∀ v h' L, Q v h' L → Fr n0 L) {a : Addr} (argsL rest : List Value) {ps : List FieldType} {rr : Option FieldType} (has : (.ref a :: argsL).toArray = as') (hpd : parseMethodDescriptor y.desc = some ⟨ps, rr⟩) (hlen : argsL.length = ps.length) (hstk : st = argsL.reverse ++ .ref a :: rest) (hsz : ls.size = maxL) (hW : (rest.map fun v => v.category).sum ≤ W)
    (hc : cells + k1 ≤ R.cells) (hs : slots + k2 ≤ R.slots) (hd : decode cd pc = .ok (.invokespecial index, 3))
    (k : ∀ T' h' v L, own_S p l e R s m args below meth c n0 T' h' (cells + k1) (slots + k2) → Q v h' L → own_Go p e below En T' (mkF m (pc + 3) ls (v.toList ++ rest))) : own_Go p e below En T (mkF m pc ls st) := by
  obtain ⟨locs, kk, nn, X, eT, N, q1, q2⟩ := S
  have hZ := C.2.2.2.2.2.2.2
  obtain ⟨v, vm1, B, -, X', ⟨L, hQ, l1, l2, l3⟩, stp⟩ := X.specialBack C.1 hy1 C.2.2.2.1 (mvT hZ w1) (mvT hZ w2) (mvT hZ w4) hy hK (g := mkF m pc ls st) rfl (own_hsz C hsz) (Steps.refl _) (a := a) (argsL := argsL) (rest := rest) (lenOf hpd hlen) hstk (by show 2 * 0 + _ ≤ W; omega) (own_hd C hd) (fun _ _ => ⟨has, eT, by show kk + k1 ≤ _; omega, by show nn + k2 ≤ _; omega⟩)
  refine own_step (fun t k => stp.trans k) (k B.U _ v L ⟨B.locs, B.cells, B.slots, X', rfl, ?_, ?_, ?_⟩ hQ)
  · rw [l1]; exact Fr.app N (hfr _ _ _ hQ)
  · rw [l2]; show kk + k1 ≤ _; omega
  · rw [l3]; show nn + k2 ≤ _; omega
theorem own_nf {args : Array Value} {s : State} {C : String} {y y' : MethodName} (hyc : y'.cls = y.cls) (hsel : (Jvm.Cond.selects C y' y').before args s = true) : NotFace s y := fun r0 h0 => by
  obtain ⟨c2, r2, m2, q1, q2, q3, q4, kP, hkP, hkPi⟩ := Cond.selects_spec hsel
  have e1 := findClass_of_methodNamed h0
  have e2 := findClass_of_methodNamed q3
  rw [hyc, e1] at e2
  rw [Option.some.inj e2]
  exact ⟨kP, hkP, hkPi⟩
theorem own_selfP {C : String} {y : MethodName} (w1 : (Jvm.Cond.instanceMethod y).before a0 Z = true) (w2 : (Jvm.Cond.privateMethod y).before a0 Z = true) (w3 : (Jvm.Cond.selects C y y).before a0 Z = true) (hy : y.cls ≠ "java/lang/invoke/MethodHandle" ∧ y.cls ≠ "java/lang/invoke/VarHandle") : (Jvm.Cond.selects y.cls y y).before a0 Z = true := by
  obtain ⟨mk, methM, hnamed, hmethM, -, -⟩ := Cond.instanceMethod_spec w1
  obtain ⟨k, hk, hki⟩ := notFace_of_selects w3 mk hnamed
  exact selects_self_of_private (findClass_of_methodNamed hnamed) hk hki (Cond.privateMethod_at w2) w1 hy
theorem own_same {C : String} {y y' : MethodName} (hyc : y'.cls = y.cls) (w1 : (Jvm.Cond.instanceMethod y).before a0 Z = true) (w3 : (Jvm.Cond.selects C y' y').before a0 Z = true) (hy : y.cls ≠ "java/lang/invoke/MethodHandle" ∧ y.cls ≠ "java/lang/invoke/VarHandle") : (Jvm.Cond.sameMethod y.cls y.cls y.name y.desc).before a0 Z = true := by
  obtain ⟨mk, methM, hnamed, hmethM, -, -⟩ := Cond.instanceMethod_spec w1
  obtain ⟨k, hk, hki⟩ := own_nf hyc w3 mk hnamed
  have hf : Z.methodFound? y.cls y.name y.desc = some mk := State.methodFound?_of_named hnamed hy
  have hc := findClass_of_methodNamed hnamed
  have hn' : Z.methodNamed? ⟨y.cls, y.name, y.desc⟩ = some mk := hnamed
  simp only [Cond.before, Cond.holds, Cond.value, hc, hf, hn', hk]
  simp [hki]
theorem own_callV (C : own_Cx p s m meth c Z own cd maxL ret nm) (S : own_S p l e R s m args below meth c n0 T h cells slots) {y z : MethodName} {Cl : String} {index : Nat} {W k1 k2 : Nat} {as' : Array Value} {Q : Option Value → Heap → List Loc → Prop}
    (w1 : (Jvm.Cond.methodLink own index y).before a0 Z = true) (w2 : (Jvm.Cond.declares y).before a0 Z = true) (w3 : (Jvm.Cond.selects Cl y z).before a0 Z = true) {Cl' : String} {y' : MethodName} (hyc : y'.cls = y.cls) (w3' : (Jvm.Cond.selects Cl' y' y').before a0 Z = true) (w4 : (Jvm.Cond.instanceMethod z).before a0 Z = true) (hy : y.cls ≠ "java/lang/invoke/MethodHandle" ∧ y.cls ≠ "java/lang/invoke/VarHandle")
    (hK : own_Pay l R p e below s args z 3 W as' h k1 k2 Q) (hfr : ∀ v h' L, Q v h' L → Fr n0 L) {a : Addr} (E : Exa Z h a Cl) (argsL rest : List Value) {ps : List FieldType} {rr : Option FieldType} (has : (.ref a :: argsL).toArray = as') (hpd : parseMethodDescriptor y.desc = some ⟨ps, rr⟩) (hlen : argsL.length = ps.length) (hstk : st = argsL.reverse ++ .ref a :: rest) (hsz : ls.size = maxL) (hW : (rest.map fun v => v.category).sum ≤ W)
    (hc : cells + k1 ≤ R.cells) (hs : slots + k2 ≤ R.slots) (hd : decode cd pc = .ok (.invokevirtual index, 3))
    (k : ∀ T' h' v L, own_S p l e R s m args below meth c n0 T' h' (cells + k1) (slots + k2) → Q v h' L → own_Go p e below En T' (mkF m (pc + 3) ls (v.toList ++ rest))) : own_Go p e below En T (mkF m pc ls st) := by
  obtain ⟨locs, kk, nn, X, eT, N, q1, q2⟩ := S
  have hZ := C.2.2.2.2.2.2.2
  obtain ⟨cq, kq, qa, qb, qc⟩ := isOf (T := T) hZ eT E
  obtain ⟨v, vm1, B, -, X', ⟨L, hQ, l1, l2, l3⟩, stp⟩ := X.virtualBack C.1 C.2.2.2.1 (mvT hZ w1) (mvT hZ w2) (own_nf (args := #[]) hyc (mvT hZ w3')) (mvT hZ w3) (mvT hZ w4) hy hK qa qc (g := mkF m pc ls st) rfl (own_hsz C hsz) (Steps.refl _) (argsL := argsL) (rest := rest) (lenOf hpd hlen) hstk (by show 2 * 0 + _ ≤ W; omega) (own_hd C hd) (fun _ _ => ⟨has, eT, by show kk + k1 ≤ _; omega, by show nn + k2 ≤ _; omega⟩)
  refine own_step (fun t k => stp.trans k) (k B.U _ v L ⟨B.locs, B.cells, B.slots, X', rfl, ?_, ?_, ?_⟩ hQ)
  · rw [l1]; exact Fr.app N (hfr _ _ _ hQ)
  · rw [l2]; show kk + k1 ≤ _; omega
  · rw [l3]; show nn + k2 ≤ _; omega
theorem own_callP (C : own_Cx p s m meth c Z own cd maxL ret nm) (S : own_S p l e R s m args below meth c n0 T h cells slots) {y : MethodName} {index : Nat} {cdy : ByteArray} {maxy : Nat} {rety : Option FieldType} {W k1 k2 : Nat} {as' : Array Value} {Q : Option Value → Heap → List Loc → Prop}
    (w1 : (Jvm.Cond.methodLink own index y).before a0 Z = true) (w2 : (Jvm.Cond.instanceMethod y).before a0 Z = true) (w3 : (Jvm.Cond.selects y.cls y y).before a0 Z = true) (w4 : (Jvm.Cond.privateMethod y).before a0 Z = true) (w5 : (Jvm.Cond.code y cdy maxy rety).before a0 Z = true) (hy : y.cls ≠ "java/lang/invoke/MethodHandle" ∧ y.cls ≠ "java/lang/invoke/VarHandle")
    (hK : own_Pay l R p e below s args y 3 W as' h k1 k2 Q) (hfr : ∀ v h' L, Q v h' L → Fr n0 L) {a : Addr} {Cl : String} (E : Exa Z h a Cl) (argsL rest : List Value) {ps : List FieldType} {rr : Option FieldType} (has : (.ref a :: argsL).toArray = as') (hpd : parseMethodDescriptor y.desc = some ⟨ps, rr⟩) (hlen : argsL.length = ps.length) (hstk : st = argsL.reverse ++ .ref a :: rest) (hsz : ls.size = maxL) (hW : (rest.map fun v => v.category).sum ≤ W)
    (hc : cells + k1 ≤ R.cells) (hs : slots + k2 ≤ R.slots) (hd : decode cd pc = .ok (.invokevirtual index, 3))
    (k : ∀ T' h' v L, own_S p l e R s m args below meth c n0 T' h' (cells + k1) (slots + k2) → Q v h' L → own_Go p e below En T' (mkF m (pc + 3) ls (v.toList ++ rest))) : own_Go p e below En T (mkF m pc ls st) := by
  obtain ⟨locs, kk, nn, X, eT, N, q1, q2⟩ := S
  have hZ := C.2.2.2.2.2.2.2
  obtain ⟨cl, hcl, hns⟩ := E.cell
  obtain ⟨v, vm1, B, -, X', ⟨L, hQ, l1, l2, l3⟩, stp⟩ := X.privateBack C.1 C.2.2.2.1 (mvT hZ w1) (mvT hZ w2) (mvT hZ w3) (Cond.privateMethod_at (mvP (args := args) hZ w4)) (mvT hZ w5) hy hK (g := mkF m pc ls st) rfl (own_hsz C hsz) (Steps.refl _) (a := a) (cell := cl) (by rw [eT]; exact hcl) hns (argsL := argsL) (rest := rest) (lenOf hpd hlen) hstk (by show 2 * 0 + _ ≤ W; omega) (own_hd C hd) (fun _ _ => ⟨has, eT, by show kk + k1 ≤ _; omega, by show nn + k2 ≤ _; omega⟩)
  refine own_step (fun t k => stp.trans k) (k B.U _ v L ⟨B.locs, B.cells, B.slots, X', rfl, ?_, ?_, ?_⟩ hQ)
  · rw [l1]; exact Fr.app N (hfr _ _ _ hQ)
  · rw [l2]; show kk + k1 ≤ _; omega
  · rw [l3]; show nn + k2 ≤ _; omega
theorem own_callF (C : own_Cx p s m meth c Z own cd maxL ret nm) (S : own_S p l e R s m args below meth c n0 T h cells slots) {y z : MethodName} {Cl : String} {index count : Nat} {W k1 k2 : Nat} {as' : Array Value} {Q : Option Value → Heap → List Loc → Prop}
    (w1 : (Jvm.Cond.methodLink own index y).before a0 Z = true) (w2 : (Jvm.Cond.declares y).before a0 Z = true) (w3 : (Jvm.Cond.interfaceMethod y.cls y.cls y.name y.desc).before a0 Z = true) (hfa : ((Jvm.Cond.interfaceMethod y.cls y.cls y.name y.desc).onTables && (Jvm.Cond.interfaceMethod y.cls y.cls y.name y.desc).keepsFace) = true) (w4 : (Jvm.Cond.selects Cl y z).before a0 Z = true) (w5 : (Jvm.Cond.instanceMethod z).before a0 Z = true) (w6 : (Jvm.Cond.publicMethod z).before a0 Z = true) (w7 : (Jvm.Cond.unhidden Cl y.name y.desc).before a0 Z = true) (w8 : (Jvm.Cond.castable Cl y.cls).before a0 Z = true) (hy : y.cls ≠ "java/lang/invoke/MethodHandle" ∧ y.cls ≠ "java/lang/invoke/VarHandle")
    (hK : own_Pay l R p e below s args z 5 W as' h k1 k2 Q) (hfr : ∀ v h' L, Q v h' L → Fr n0 L) {a : Addr} (E : Exa Z h a Cl) (argsL rest : List Value) {ps : List FieldType} {rr : Option FieldType} (has : (.ref a :: argsL).toArray = as') (hpd : parseMethodDescriptor y.desc = some ⟨ps, rr⟩) (hlen : argsL.length = ps.length) (hstk : st = argsL.reverse ++ .ref a :: rest) (hsz : ls.size = maxL) (hW : (rest.map fun v => v.category).sum ≤ W)
    (hc : cells + k1 ≤ R.cells) (hs : slots + k2 ≤ R.slots) (hd : decode cd pc = .ok (.invokeinterface index count, 5))
    (k : ∀ T' h' v L, own_S p l e R s m args below meth c n0 T' h' (cells + k1) (slots + k2) → Q v h' L → own_Go p e below En T' (mkF m (pc + 5) ls (v.toList ++ rest))) : own_Go p e below En T (mkF m pc ls st) := by
  obtain ⟨locs, kk, nn, X, eT, N, q1, q2⟩ := S
  have hZ := C.2.2.2.2.2.2.2
  obtain ⟨cq, kq, qa, qb, qc⟩ := isOf (T := T) hZ eT E
  obtain ⟨v, vm1, B, -, X', ⟨L, hQ, l1, l2, l3⟩, stp⟩ := X.interfaceBack C.1 C.2.2.2.1 (mvT hZ w1) (mvT hZ w2) (mvT hZ w3 hfa) (mvT hZ w4) (mvT hZ w5) (mvT hZ w6) (mvT hZ w7) (mvT hZ w8) hy hK qa qb qc (g := mkF m pc ls st) rfl (own_hsz C hsz) (Steps.refl _) (argsL := argsL) (rest := rest) (lenOf hpd hlen) hstk (by show 2 * 0 + _ ≤ W; omega) (own_hd C hd) (fun _ _ => ⟨has, eT, by show kk + k1 ≤ _; omega, by show nn + k2 ≤ _; omega⟩)
  refine own_step (fun t k => stp.trans k) (k B.U _ v L ⟨B.locs, B.cells, B.slots, X', rfl, ?_, ?_, ?_⟩ hQ)
  · rw [l1]; exact Fr.app N (hfr _ _ _ hQ)
  · rw [l2]; show kk + k1 ≤ _; omega
  · rw [l3]; show nn + k2 ≤ _; omega
theorem own_callX (C : own_Cx p s m meth c Z own cd maxL ret nm) (S : own_S p l e R s m args below meth c n0 T h cells slots) {y : MethodName} {K : String} {index : Nat} {cdy : ByteArray} {maxy : Nat} {rety : Option FieldType} {W k1 k2 : Nat} {as' : Array Value} {Q : Option Value → Heap → List Loc → Prop}
    (w1 : (Jvm.Cond.methodLink own index y).before a0 Z = true) (w2 : (Jvm.Cond.sameMethod y.cls y.cls y.name y.desc).before a0 Z = true) (w3 : (Jvm.Cond.instanceMethod y).before a0 Z = true) (w4 : (Jvm.Cond.superclass own y.cls).before a0 Z = true) (hn : y.name ≠ "<init>") (w5 : (Jvm.Cond.code y cdy maxy rety).before a0 Z = true)
    (hK : own_Pay l R p e below s args y 3 W as' h k1 k2 Q) (hfr : ∀ v h' L, Q v h' L → Fr n0 L) {a : Addr} (E : Ins Z h a K true) (argsL rest : List Value) {ps : List FieldType} {rr : Option FieldType} (has : (.ref a :: argsL).toArray = as') (hpd : parseMethodDescriptor y.desc = some ⟨ps, rr⟩) (hlen : argsL.length = ps.length) (hstk : st = argsL.reverse ++ .ref a :: rest) (hsz : ls.size = maxL) (hW : (rest.map fun v => v.category).sum ≤ W)
    (hc : cells + k1 ≤ R.cells) (hs : slots + k2 ≤ R.slots) (hd : decode cd pc = .ok (.invokespecial index, 3))
    (k : ∀ T' h' v L, own_S p l e R s m args below meth c n0 T' h' (cells + k1) (slots + k2) → Q v h' L → own_Go p e below En T' (mkF m (pc + 3) ls (v.toList ++ rest))) : own_Go p e below En T (mkF m pc ls st) := by
  obtain ⟨locs, kk, nn, X, eT, N, q1, q2⟩ := S
  obtain ⟨v, vm1, B, -, X', ⟨L, hQ, l1, l2, l3⟩, stp⟩ := superBack X C.1 C.2.2.2.2.2.2.2 C.2.2.2.1 w1 w2 w3 w4 hn hK eT E (g := mkF m pc ls st) rfl (own_hsz C hsz) w5 (argsL := argsL) (rest := rest) (lenOf hpd hlen) hstk (by show 2 * 0 + _ ≤ W; omega) (own_hd C hd) (fun _ _ => ⟨has, eT, by show kk + k1 ≤ _; omega, by show nn + k2 ≤ _; omega⟩)
  refine own_step (fun t k => stp.trans k) (k B.U _ v L ⟨B.locs, B.cells, B.slots, X', rfl, ?_, ?_, ?_⟩ hQ)
  · rw [l1]; exact Fr.app N (hfr _ _ _ hQ)
  · rw [l2]; show kk + k1 ≤ _; omega
  · rw [l3]; show nn + k2 ≤ _; omega
/-- System.arraycopy over arrays of one plain kind -/
theorem own_copy (C : own_Cx p s m meth c Z own cd maxL ret nm) (S : own_S p l e R s m args below meth c n0 T h cells slots) {index : Nat} (w1 : (Jvm.Cond.methodLink own index Jvm.Stand.acN).before a0 Z = true) (w2 : (Jvm.Cond.native Jvm.Stand.acN).before a0 Z = true) (w3 : (Jvm.Cond.static Jvm.Stand.acN).before a0 Z = true) (w4 : (Jvm.Cond.initialized "java/lang/System").before a0 Z = true)
    {a b : Addr} {ka kb : ClassId} {ty : FieldType} {z z' sp dp nn : Int32} {vs vd : List Value} {dv dd : Value} (A : Arv Z h a ka ty z vs dv) (B : Arv Z h b kb ty z' vd dd) (hty : refKind ty = false) (h1 : ¬ sp < 0) (h2 : ¬ dp < 0) (h3 : ¬ nn < 0) (h4 : sp.toNatClampNeg + nn.toNatClampNeg ≤ z.toNatClampNeg) (h5 : dp.toNatClampNeg + nn.toNatClampNeg ≤ z'.toNatClampNeg) (hl : dp.toNatClampNeg + nn.toNatClampNeg ≤ vd.length) (ge : n0 ≤ b)
    (us : List Value) (hus : vd.take dp.toNatClampNeg ++ ((List.range nn.toNatClampNeg).map fun i => vs.getD (sp.toNatClampNeg + i) dv) ++ vd.drop (dp.toNatClampNeg + nn.toNatClampNeg) = us) (hsz : ls.size = maxL) (hd : decode cd pc = .ok (.invokestatic index, 3)) (hf : 1 ≤ R.frames) (W : Nat) (hW : (st.map fun v => v.category).sum ≤ W) (hlo : W + (nativeFrameWords "java/lang/System" "arraycopy" 5 + 11) ≤ R.locals)
    (k : ∀ T' h', own_S p l e R s m args below meth c n0 T' h' cells slots → Keep h h' [b] → Arv Z h' b kb ty z' us dd → own_Go p e below En T' (mkF m (pc + 3) ls st)) : own_Go p e below En T (mkF m pc ls (.int nn :: .int dp :: .ref b :: .int sp :: .ref a :: st)) := by
  obtain ⟨locs, kk, nn', X, eT, N, q1, q2⟩ := S
  obtain ⟨T', h', L, X', e', N', K, B', stp⟩ := cpA X C.1 C.2.2.2.2.2.2.2 C.2.2.2.1 w1 w2 w3 w4 eT A B (Or.inl ⟨rfl, hty⟩) h1 h2 h3 h4 h5 rfl hl N ge (g := mkF m pc ls (.int nn :: .int dp :: .ref b :: .int sp :: .ref a :: st)) rfl (own_hsz C hsz) rfl (own_hd C hd) hf (W := W) (by show 2 * 0 + _ ≤ W; omega) hlo
  rw [hus] at B'
  exact own_step stp (k T' h' ⟨_, _, _, X', e', N', q1, q2⟩ K B')
/-- ireturn of a byte -/
theorem own_retB (C : own_Cx p s m meth c Z own cd maxL (some .byte) nm) (S : own_S p l e R s m args below meth c n0 T h cells slots) {z : Int32} (hd : decode cd pc = .ok (.ireturn, 1)) (hz : z.toInt8.toInt32 = z) (hc : cells ≤ kc) (hs : slots ≤ ks) (hF : F (some (.int z)) h) : own_Go p e below (own_En s n0 F kc ks) T (mkF m pc ls (.int z :: st)) :=
  own_ret C S hd (by show Value.int (z.toInt8.toInt32) = _; rw [hz]) (Or.inl ⟨rfl, by simp, z, rfl⟩) hc hs hF
end OwnKit
-- OWN KIT, WIDE: walks that may load String constants (the library's CHv, CHr, Safe, Since)
section OwnKitW
open Jvm.Free.SB Jvm.Free.SBG
variable {p : Program} {l : Launch} {e : Env} {R : Room} {s : State} {m : MethodId} {args : Array Value} {below : List Frame} {meth : Method} {c : Code} {T : State} {locs : List Loc} {cells slots : Nat} {Z : State} {a0 : Array Value} {h : Heap} {own : String} {cd : ByteArray} {maxL : Nat} {ret : Option FieldType} {nm : String} {n0 : Nat} {F : Option Value → Heap → Prop} {kc ks : Nat} {En : Outcome → State → Prop} {pc : Nat} {ls : Array Slot} {st : List Value} {EL : List (String × Nat)} {G : List Addr}
def own_EnW (s : State) (n0 : Nat) (Z : State) (EL : List (String × Nat)) (F : Option Value → Heap → Prop) (kc ks : Nat) (o : Outcome) (s₂ : State) : Prop :=
  ∃ v L, o = .returned v ∧ (F v s₂.heap ∧ Fr n0 L) ∧ CHr Z EL s.vm s.heap s₂.vm s₂.heap ∧ ReturnedEndW s o s₂ L kc ks
def own_CxW (p : Program) (meth : Method) (c : Code) (Z : State) (a0 : Array Value) (EL : List (String × Nat)) (cd : ByteArray) (maxL : Nat) (ret : Option FieldType) (nm : String) : Prop :=
  p.tables.exec = Jvm.exec ∧ c.code = cd ∧ c.maxLocals = maxL ∧ meth.name = nm ∧ meth.sig.returnType = ret ∧ meth.locks = false ∧ EW Z a0 EL ∧ ∀ a ∈ Bundle.stringAtoms, a.before a0 Z = true
def own_SW (p : Program) (l : Launch) (e : Env) (R : Room) (s : State) (m : MethodId) (args : Array Value) (below : List Frame) (meth : Method) (c : Code) (n0 : Nat) (Z : State) (EL : List (String × Nat)) (own : String) (T : State) (h : Heap) (G : List Addr) (cells slots : Nat) : Prop :=
  ∃ vm0 k0, own_S p l e R (s.setVm vm0) m args below meth c n0 T h cells slots ∧ s.Since vm0 k0 ∧ k0 ≤ h.size ∧ Z.Warmed39 vm0 ∧ vm0.findClass own = some m.cls ∧ CHr Z EL s.vm s.heap vm0 h ∧ ∀ x ∈ G, x < h.size ∧ Safe Z EL vm0 h x
/-- an object of another class than String and byte[] is safe -/
theorem own_SW.addE (S : own_SW p l e R s m args below meth c n0 Z EL own T h G cells slots) {a : Addr} {C : String} (E : Exa Z h a C) (h1 : C ≠ "java/lang/String") (h2 : C ≠ "[B") : own_SW p l e R s m args below meth c n0 Z EL own T h (a :: G) cells slots := by
  obtain ⟨vm0, k0, S0, hS, hk, hZ, ho, hC, hG⟩ := S
  refine ⟨vm0, k0, S0, hS, hk, hZ, ho, hC, fun x hx => ?_⟩
  rcases List.mem_cons.mp hx with rfl | hx
  · exact ⟨E.lt, Safe.exa hZ.alike E h1 h2⟩
  · exact hG x hx
theorem own_SW.addA (S : own_SW p l e R s m args below meth c n0 Z EL own T h G cells slots) {a : Addr} {k : ClassId} {ty : FieldType} {z : Int32} {vs : List Value} {dv : Value} (A : Arv Z h a k ty z vs dv) (h1 : ty ≠ .byte) : own_SW p l e R s m args below meth c n0 Z EL own T h (a :: G) cells slots := by
  obtain ⟨vm0, k0, S0, hS, hk, hZ, ho, hC, hG⟩ := S
  refine ⟨vm0, k0, S0, hS, hk, hZ, ho, hC, fun x hx => ?_⟩
  rcases List.mem_cons.mp hx with rfl | hx
  · exact ⟨A.lt, Safe.arv hZ.alike A h1⟩
  · exact hG x hx
/-- between two loads the walk is a narrow one, over the start with the tables at hand; 'rb' leads back -/
theorem own_lift (C : own_CxW p meth c Z a0 EL cd maxL ret nm) (S : own_SW p l e R s m args below meth c n0 Z EL own T h G cells slots) {g : JFrame}
    (k : ∀ vm0, own_Cx p (s.setVm vm0) m meth c Z own cd maxL ret nm → own_S p l e R (s.setVm vm0) m args below meth c n0 T h cells slots →
      (∀ T' h' c' s' ws N, own_S p l e R (s.setVm vm0) m args below meth c n0 T' h' c' s' → Keep h h' ws → (∀ x ∈ ws, x ∈ G) → (∀ x ∈ N, h.size ≤ x ∧ x < h'.size) → own_SW p l e R s m args below meth c n0 Z EL own T' h' (N ++ G) c' s') → own_Go p e below En T g) : own_Go p e below En T g := by
  obtain ⟨vm0, k0, S0, hS, hk, hZ, ho, hC, hG⟩ := S
  refine k vm0 ⟨C.1, C.2.1, C.2.2.1, ho, C.2.2.2.1, C.2.2.2.2.1, C.2.2.2.2.2.1, hZ⟩ S0 fun T' h' c' s' ws N S' K hws hN => ?_
  have hs : ∀ x ∈ ws, Safe Z EL vm0 h x := fun x hx => (hG x (hws x hx)).2
  refine ⟨vm0, k0, S', hS, Nat.le_trans hk K.1, hZ, ho, hC.trans (CHr.keep K hs hC.1), fun x hx => ?_⟩
  rcases List.mem_append.mp hx with hx | hx
  · exact ⟨(hN x hx).2, Safe.keep K hs hC.1 (Safe.new (hN x hx).1)⟩
  · exact ⟨Nat.lt_of_lt_of_le (hG x hx).1 K.1, Safe.keep K hs hC.1 (hG x hx).2⟩
/-- ldc of a String constant of EL, read -/
theorem own_ldcW (C : own_CxW p meth c Z a0 EL cd maxL ret nm) (S : own_SW p l e R s m args below meth c n0 Z EL own T h G cells slots) {index : Nat} {text : String} (w : (Jvm.Cond.stringLink own index text).before a0 Z = true) (hmem : (own, index) ∈ EL) {vs : List Value} {z : Int32} (ht : (∀ c ∈ text.toList, c.toNat < 256) ∧ text.toList.map (fun c => Value.int (Jvm.Lit.byteI c.toNat.toUInt16)) = vs) (hz : ¬ z < 0) (hl : z.toNatClampNeg = vs.length)
    (hd : decode cd pc = .ok (.ldc index, 2)) (n : Nat) (hn : 4 * text.toList.length ≤ n) (hbig : n ≤ 536870912) (hc : cells + 2 ≤ R.cells) (hl' : slots + (n + 4) ≤ R.slots)
    (k : ∀ T' h' a b kb, own_SW p l e R s m args below meth c n0 Z EL own T' h' G (cells + 2) (slots + (n + 4)) → Ext h h' → Exa Z h' a "java/lang/String" → Fld Z h' a "java/lang/String" "coder" "B" (.int 0) → Fld Z h' a "java/lang/String" "value" "[B" (.ref b) → Arv Z h' b kb .byte z vs (.int 0) → (∀ x ∈ G, x ≠ a ∧ x ≠ b) → own_Go p e below En T' (mkF m (pc + 2) ls (.ref a :: st))) : own_Go p e below En T (mkF m pc ls st) := by
  obtain ⟨vm0, k0, ⟨locs, kk, nn, X, eT, N, q1, q2⟩, hS, hk, hZ, ho, hC, hG⟩ := S
  obtain ⟨a, T', h', k1, b, kb, X', e', E, hS', hk', hZ', ho', x1, x2, x3, x4, x5, x6, hC', hL, hne, stp⟩ := ldcCH X C.1 hZ ho w C.2.2.2.2.2.2.2 eT hS hk C.2.2.2.2.2.2.1 hmem hC.1 ht hz hl (g := mkF m pc ls st) rfl (by rw [C.2.1]; exact hd) hn hbig (by omega) (by omega)
  have hG' : ∀ x ∈ G, x < h'.size ∧ Safe Z EL T'.vm h' x := fun x hx => ⟨Nat.lt_of_lt_of_le (hG x hx).1 E.1, hC'.safe (hG x hx).1 (hG x hx).2⟩
  exact own_step stp (k T' h' a b kb ⟨T'.vm, k1, ⟨locs, _, _, X', e', N, by omega, by omega⟩, hS', hk', hZ', ho', hC.trans hC', hG'⟩ E x1 x2 x3 x4 fun x hx => hne x (hG' x hx).2)
/-- ldc of any String constant: which text it is isn't said -/
theorem own_ldcO (C : own_CxW p meth c Z a0 EL cd maxL ret nm) (S : own_SW p l e R s m args below meth c n0 Z EL own T h G cells slots) {index : Nat} {text : String} (w : (Jvm.Cond.stringLink own index text).before a0 Z = true)
    (hd : decode cd pc = .ok (.ldc index, 2)) (n : Nat) (hn : 4 * text.toList.length ≤ n) (hbig : n ≤ 536870912) (hc : cells + 2 ≤ R.cells) (hl' : slots + (n + 4) ≤ R.slots)
    (k : ∀ T' h' a, own_SW p l e R s m args below meth c n0 Z EL own T' h' G (cells + 2) (slots + (n + 4)) → Ext h h' → own_Go p e below En T' (mkF m (pc + 2) ls (.ref a :: st))) : own_Go p e below En T (mkF m pc ls st) := by
  obtain ⟨vm0, k0, ⟨locs, kk, nn, X, eT, N, q1, q2⟩, hS, hk, hZ, ho, hC, hG⟩ := S
  obtain ⟨a, T', h', k1, X', e', E, hS', hk', hZ', ho', hC', hL, stp⟩ := ldcOH X C.1 hZ ho w C.2.2.2.2.2.2.2 eT hS hk C.2.2.2.2.2.2.1 hC.1 (g := mkF m pc ls st) rfl (by rw [C.2.1]; exact hd) hn hbig (by omega) (by omega)
  have hG' : ∀ x ∈ G, x < h'.size ∧ Safe Z EL T'.vm h' x := fun x hx => ⟨Nat.lt_of_lt_of_le (hG x hx).1 E.1, hC'.safe (hG x hx).1 (hG x hx).2⟩
  exact own_step stp (k T' h' a ⟨T'.vm, k1, ⟨locs, _, _, X', e', N, by omega, by omega⟩, hS', hk', hZ', ho', hC.trans hC', hG'⟩ E)
/-! the end -/
theorem own_endW (C : own_CxW p meth c Z a0 EL cd maxL ret nm) (S : own_SW p l e R s m args below meth c n0 Z EL own T h G cells slots) {v : Option Value} (hv : meth.sig.returnType = none → v = none) {g : JFrame}
    (hst : ∀ locs kk nn vm0 fs, Stand p l e R (s.setVm vm0) m args below meth c T locs kk nn → (∀ (f : JFrame) (acts : List Action), f.method = m → f.locked = none → f.entered = [] → (doReturn e (T.setTop f) acts v).1 = T.setFrames fs) → Steps p.tables e below (T.setTop g) (T.setFrames fs)) (hc : cells ≤ kc) (hs : slots ≤ ks) (hF : F v h) : own_Go p e below (own_EnW s n0 Z EL F kc ks) T g := by
  obtain ⟨vm0, k0, ⟨locs, kk, nn, X, eT, N, q1, q2⟩, hS, hk, hZ, ho, hC, hG⟩ := S
  obtain ⟨fs, hr, hrun, hended, hret⟩ := X.leaveW hS (by rw [eT]; exact hk) hv C.2.2.2.2.2.1
  refine ⟨_, _, hst locs kk nn vm0 fs X hr, hrun, hended, v, locs, rfl, ⟨?_, N⟩, ?_, ?_⟩
  · show F v T.heap
    rw [eT]; exact hF
  · show CHr Z EL s.vm s.heap T.vm T.heap
    rw [eT]
    exact hC.trans (CHv.at X hZ C.2.2.2.2.2.2.1 hC.1)
  · exact ⟨hret.1, hret.2.1, hret.2.2.1, hret.2.2.2.mono (Nat.le_trans q1 hc) (Nat.le_trans q2 hs)⟩
theorem own_retW {t : FieldType} (C : own_CxW p meth c Z a0 EL cd maxL (some t) nm) (S : own_SW p l e R s m args below meth c n0 Z EL own T h G cells slots) {i : Instr} {w : Value} (hd : decode cd pc = .ok (i, 1)) (hn : narrow t w = w)
    (hi : (i = .ireturn ∧ (t = .int ∨ t = .boolean ∨ t = .byte ∨ t = .char ∨ t = .short) ∧ ∃ z, w = .int z) ∨ (i = .lreturn ∧ t = .long ∧ ∃ z, w = .long z) ∨ (i = .dreturn ∧ t = .double ∧ ∃ z, w = .double z) ∨ (i = .freturn ∧ t = .float ∧ ∃ z, w = .float z) ∨ (i = .areturn ∧ t.isReference = true ∧ w.isRef = true))
    (hc : cells ≤ kc) (hs : slots ≤ ks) (hF : F (some w) h) : own_Go p e below (own_EnW s n0 Z EL F kc ks) T (mkF m pc ls (w :: st)) :=
  own_endW C S (fun q => by rw [C.2.2.2.2.1] at q; cases q) (fun locs kk nn vm0 fs X hr => retOut X C.1 C.2.2.2.2.1 hn hi (by rw [C.2.1]; exact hd) hr) hc hs hF
theorem own_retIW (C : own_CxW p meth c Z a0 EL cd maxL (some .int) nm) (S : own_SW p l e R s m args below meth c n0 Z EL own T h G cells slots) {z : Int32} (hd : decode cd pc = .ok (.ireturn, 1)) (hc : cells ≤ kc) (hs : slots ≤ ks) (hF : F (some (.int z)) h) : own_Go p e below (own_EnW s n0 Z EL F kc ks) T (mkF m pc ls (.int z :: st)) :=
  own_retW C S hd rfl (Or.inl ⟨rfl, Or.inl rfl, z, rfl⟩) hc hs hF
theorem own_retZW (C : own_CxW p meth c Z a0 EL cd maxL (some .boolean) nm) (S : own_SW p l e R s m args below meth c n0 Z EL own T h G cells slots) {z : Int32} (hd : decode cd pc = .ok (.ireturn, 1)) (hz : z &&& 1 = z) (hc : cells ≤ kc) (hs : slots ≤ ks) (hF : F (some (.int z)) h) : own_Go p e below (own_EnW s n0 Z EL F kc ks) T (mkF m pc ls (.int z :: st)) :=
  own_retW C S hd (by show Value.int (z &&& 1) = _; rw [hz]) (Or.inl ⟨rfl, Or.inr (Or.inl rfl), z, rfl⟩) hc hs hF
theorem own_retAW {t : FieldType} (C : own_CxW p meth c Z a0 EL cd maxL (some t) nm) (S : own_SW p l e R s m args below meth c n0 Z EL own T h G cells slots) {w : Value} (ht : t.isReference = true) (hr : w.isRef = true) (hd : decode cd pc = .ok (.areturn, 1)) (hc : cells ≤ kc) (hs : slots ≤ ks) (hF : F (some w) h) : own_Go p e below (own_EnW s n0 Z EL F kc ks) T (mkF m pc ls (w :: st)) :=
  own_retW C S hd (by cases w <;> simp [Value.isRef] at hr <;> cases t <;> first | rfl | (simp [FieldType.isReference] at ht)) (by simp [ht, hr]) hc hs hF
theorem own_retVW (C : own_CxW p meth c Z a0 EL cd maxL none nm) (S : own_SW p l e R s m args below meth c n0 Z EL own T h G cells slots) (hd : decode cd pc = .ok (.return_, 1)) (hc : cells ≤ kc) (hs : slots ≤ ks) (hF : F none h) : own_Go p e below (own_EnW s n0 Z EL F kc ks) T (mkF m pc ls []) :=
  own_endW C S (fun _ => rfl) (fun locs kk nn vm0 fs X hr => X.returnOut C.1 C.2.2.2.2.1 (by rw [C.2.1]; exact hd) hr) hc hs hF
/-! contracts -/
def own_MetW (l : Launch) (Z : State) (EL : List (String × Nat)) (y : MethodName) (cd : ByteArray) (maxL : Nat) (ret : Option FieldType) (rm : Room) (n0 : Nat) (as' : Array Value) (h0 : Heap) (G0 : List Addr) (Q : Option Value → Heap → Prop) : Prop :=
  ∀ ws, MetFree l y (head1 (Jvm.Cond.code y cd maxL ret :: ws) rm) (fun a U => a = as' ∧ Z.Warmed39 U.vm ∧ U.heap = h0 ∧ CHv Z EL U.vm h0 ∧ ∀ x ∈ G0, x < h0.size ∧ Safe Z EL U.vm h0 x) (fun _ _ _ _ _ => True)
    (fun _ U o U' => ∃ v L, o = .returned v ∧ (Q v U'.heap ∧ Fr n0 L) ∧ CHr Z EL U.vm U.heap U'.vm U'.heap ∧ ReturnedEndW U o U' L rm.cells rm.slots)
theorem own_metW {y : MethodName} {rm : Room} {as' : Array Value} {h0 : Heap} {G0 : List Addr} {Q : Option Value → Heap → Prop} (hEL : EW Z a0 EL) (wS : ∀ a ∈ Bundle.stringAtoms, a.before a0 Z = true) (hp : plainFor y = true) (ls : Array Slot) (hef : ∀ m, entryFrame m as' maxL = mkF m 0 ls [])
    (H : ∀ (p : Program) (e : Env) (s : State) (m : MethodId) (below : List Frame) (meth : Method) (c : Code) (T : State), own_CxW p meth c Z a0 EL cd maxL ret y.name → own_SW p l e rm s m as' below meth c n0 Z EL y.cls T h0 G0 0 0 → own_Go p e below (own_EnW s n0 Z EL Q rm.cells rm.slots) T (mkF m 0 ls [])) : own_MetW l Z EL y cd maxL ret rm n0 as' h0 G0 Q := by
  intro ws
  refine MetFree.of_bodySF hp hisR ?_
  intro p e s m args below meth c s₁ Bd hml hP hK
  obtain ⟨rfl, hZ, hh, hC, hG⟩ := hP
  have e0 : s₁.heap = h0 := by rw [← hh, Bd.state]; rfl
  have G := H p e s m below meth c s₁ ⟨Bd.exec, Bd.bytes, hml, (name_of_methodNamed Bd.named Bd.method).1, Bd.returns, BodyLoose.notSynchronized Bd, hEL, wS⟩
    ⟨s.vm, h0.size, ⟨_, _, _, Stand.of_body Bd, e0, Fr.nil n0, Nat.le_refl _, Nat.le_refl _⟩, (State.WarmedH.refl s).since _, Nat.le_refl _, hZ, findClass_of_methodNamed Bd.named, by rw [hh]; exact CHr.refl hC, hG⟩
  rw [← hef m] at G
  exact G
/-! calls of a body that may load String constants -/
theorem own_payW {vm0 : Vm} {y : MethodName} {cdy : ByteArray} {maxy : Nat} {rety : Option FieldType} {rm : Room} {as' : Array Value} {G0 : List Addr} {Q : Option Value → Heap → Prop} (M : own_MetW l Z EL y cdy maxy rety rm n0 as' h G0 Q) (hZ : Z.Warmed39 vm0) {len W : Nat} (wc : (Jvm.Cond.code y cdy maxy rety).before a0 Z = true) (wz : (Jvm.Cond.initialized y.cls).before a0 Z = true) (hf : rm.frames + 1 ≤ R.frames) (hl : W + (maxy + 11) + rm.locals ≤ R.locals) (hEL : EW Z a0 EL) (H : CHv Z EL vm0 h) (hG : ∀ x ∈ G0, x < h.size ∧ Safe Z EL vm0 h x) :
    BackS l R p e below (s.setVm vm0) args y len W (fun A a => a = as' ∧ A.U.heap = h ∧ A.cells + rm.cells ≤ R.cells ∧ A.slots + rm.slots ≤ R.slots)
      (fun A _ v B => ∃ L, (Q v B.U.heap ∧ Fr n0 L) ∧ B.locs = A.locs ++ L ∧ B.cells = A.cells + rm.cells ∧ B.slots = A.slots + rm.slots ∧ CHr Z EL vm0 h B.U.vm B.U.heap) :=
  BackS.of_freeW (bytes := cdy) (maxL := maxy) (ret := rety) (E := fun _ first o t L k n => k = rm.cells ∧ n = rm.slots ∧ (∃ v, o = .returned v ∧ (Q v t.heap ∧ Fr n0 L)) ∧ CHr Z EL first.vm first.heap t.vm t.heap) (M []) hf hl
    (fun m meth c A a Y hp => have hU : Z.Warmed39 A.U.vm := wtrans (s := s.setVm vm0) hZ Y.warmed
      ⟨by show (Cond.and _ .tt).before a A.U = true; rw [Cond.before_and, mv hU wc]; rfl, mv hU wc, mv hU wz, hp.2.2.1, hp.2.2.2⟩)
    (fun m meth c A a g mk Y hp => ⟨hp.1, wtrans (s := s.setVm vm0) hZ Y.warmed, hp.2.1, (CHv.at Y hZ hEL H).1, fun x hx => ⟨(hG x hx).1, (CHv.at Y hZ hEL H).safe (hG x hx).1 (hG x hx).2⟩⟩) (fun _ _ _ _ _ _ _ _ _ => trivial)
    (fun _ _ _ _ ⟨v, L, h1, h2, h3, h4⟩ => ⟨L, _, _, h4, rfl, rfl, ⟨v, h1, h2⟩, h3⟩)
    (fun m meth c A a g mk v t L k n Y hp _ _ ⟨e1, e2, ⟨v', e3, e4⟩, e5⟩ => by
      cases e3; subst e1 e2
      refine ⟨L, e4, rfl, rfl, rfl, (CHv.at Y hZ hEL H).trans ?_⟩
      rw [← hp.2.1]; exact e5)
theorem own_backW {T : State} {vm0 : Vm} {k0 : Nat} {B : Pt} {Q : Option Value → Heap → Prop} {v : Option Value} {L : List Loc} {k1 k2 kk nn : Nat} (hS : s.Since vm0 k0) (hk : k0 ≤ h.size) (hZ : Z.Warmed39 vm0) (ho : vm0.findClass own = some m.cls) (hC : CHr Z EL s.vm s.heap vm0 h) (hG : ∀ x ∈ G, x < h.size ∧ Safe Z EL vm0 h x) (N : Fr n0 locs) (q1 : kk ≤ cells) (q2 : nn ≤ slots)
    (X' : Stand p l e R ((s.setVm vm0).setVm B.U.vm) m args below meth c B.U B.locs B.cells B.slots) (h2 : (s.setVm vm0).Since B.U.vm B.U.heap.size) (hg : h.size ≤ B.U.heap.size) (hQ : Q v B.U.heap ∧ Fr n0 L) (l1 : B.locs = locs ++ L) (l2 : B.cells = kk + k1) (l3 : B.slots = nn + k2) (hC' : CHr Z EL vm0 h B.U.vm B.U.heap) :
    own_SW p l e R s m args below meth c n0 Z EL own B.U B.U.heap G (cells + k1) (slots + k2) := by
  obtain ⟨X1, hS1, hZ1, ho1⟩ := rebS hS hk X' h2 hg hZ ho
  exact ⟨B.U.vm, _, ⟨B.locs, B.cells, B.slots, X1, rfl, by rw [l1]; exact Fr.app N hQ.2, by omega, by omega⟩, hS1, Nat.le_refl _, hZ1, ho1, hC.trans hC', fun x hx => ⟨Nat.lt_of_lt_of_le (hG x hx).1 hg, hC'.safe (hG x hx).1 (hG x hx).2⟩⟩
theorem own_callSW (C : own_CxW p meth c Z a0 EL cd maxL ret nm) (S : own_SW p l e R s m args below meth c n0 Z EL own T h G cells slots) {y : MethodName} {index : Nat} {cdy : ByteArray} {maxy : Nat} {rety : Option FieldType} {rm : Room} {as' : Array Value} {G0 : List Addr} {Q : Option Value → Heap → Prop}
    (w1 : (Jvm.Cond.methodLink own index y).before a0 Z = true) (w2 : (Jvm.Cond.static y).before a0 Z = true) (w3 : (Jvm.Cond.initialized y.cls).before a0 Z = true) (w4 : (Jvm.Cond.code y cdy maxy rety).before a0 Z = true) (hy : y.cls ≠ "java/lang/invoke/MethodHandle" ∧ y.cls ≠ "java/lang/invoke/VarHandle")
    (M : own_MetW l Z EL y cdy maxy rety rm n0 as' h G0 Q) (hG0 : ∀ x ∈ G0, x ∈ G) (W : Nat) (hf : rm.frames + 1 ≤ R.frames) (hlo : W + (maxy + 11) + rm.locals ≤ R.locals) (argsL rest : List Value) {ps : List FieldType} {rr : Option FieldType} (has : argsL.toArray = as') (hpd : parseMethodDescriptor y.desc = some ⟨ps, rr⟩) (hlen : argsL.length = ps.length) (hstk : st = argsL.reverse ++ rest) (hsz : ls.size = maxL) (hW : (rest.map fun v => v.category).sum ≤ W)
    (hc : cells + rm.cells ≤ R.cells) (hs : slots + rm.slots ≤ R.slots) (hd : decode cd pc = .ok (.invokestatic index, 3))
    (k : ∀ T' h' v, own_SW p l e R s m args below meth c n0 Z EL own T' h' G (cells + rm.cells) (slots + rm.slots) → h.size ≤ h'.size → Q v h' → own_Go p e below En T' (mkF m (pc + 3) ls (v.toList ++ rest))) : own_Go p e below En T (mkF m pc ls st) := by
  obtain ⟨vm0, k0, ⟨locs, kk, nn, X, eT, N, q1, q2⟩, hS, hk, hZ, ho, hC, hG⟩ := S
  obtain ⟨v, vm1, B, -, X', h2, hg, ⟨L, hQ, l1, l2, l3, hC'⟩, stp⟩ := callSS X C.1 ho (mvT (s := s.setVm vm0) hZ w1) (mvT (s := s.setVm vm0) hZ w2) (mvT (s := s.setVm vm0) hZ w3) (mvT (s := s.setVm vm0) hZ w4) hy (own_payW M hZ w4 w3 hf hlo C.2.2.2.2.2.2.1 hC.1 fun x hx => hG x (hG0 x hx)) (g := mkF m pc ls st) rfl (by rw [C.2.2.1]; exact hsz) (argsL := argsL) (rest := rest) (lenOf hpd hlen) hstk (by show 2 * 0 + _ ≤ W; omega) (by rw [C.2.1]; exact hd) (fun _ _ => ⟨has, eT, by show kk + _ ≤ _; omega, by show nn + _ ≤ _; omega⟩)
  rw [eT] at hg
  exact own_step (fun t k => stp.trans k) (k B.U _ v (own_backW (T := T) hS hk hZ ho hC hG N q1 q2 X' h2 hg hQ l1 l2 l3 hC') hg hQ.1)
theorem own_callIW (C : own_CxW p meth c Z a0 EL cd maxL ret nm) (S : own_SW p l e R s m args below meth c n0 Z EL own T h G cells slots) {y : MethodName} {index : Nat} {cdy : ByteArray} {maxy : Nat} {rm : Room} {as' : Array Value} {G0 : List Addr} {Q : Option Value → Heap → Prop}
    (hy1 : y.name = "<init>") (w1 : (Jvm.Cond.methodLink own index y).before a0 Z = true) (w2 : (Jvm.Cond.instanceMethod y).before a0 Z = true) (w3 : (Jvm.Cond.initialized y.cls).before a0 Z = true) (w4 : (Jvm.Cond.code y cdy maxy none).before a0 Z = true) (hy : y.cls ≠ "java/lang/invoke/MethodHandle" ∧ y.cls ≠ "java/lang/invoke/VarHandle")
    (M : own_MetW l Z EL y cdy maxy none rm n0 as' h G0 Q) (hG0 : ∀ x ∈ G0, x ∈ G) (W : Nat) (hf : rm.frames + 1 ≤ R.frames) (hlo : W + (maxy + 11) + rm.locals ≤ R.locals) {a : Addr} (argsL rest : List Value) {ps : List FieldType} {rr : Option FieldType} (has : (.ref a :: argsL).toArray = as') (hpd : parseMethodDescriptor y.desc = some ⟨ps, rr⟩) (hlen : argsL.length = ps.length) (hstk : st = argsL.reverse ++ .ref a :: rest) (hsz : ls.size = maxL) (hW : (rest.map fun v => v.category).sum ≤ W)
    (hc : cells + rm.cells ≤ R.cells) (hs : slots + rm.slots ≤ R.slots) (hd : decode cd pc = .ok (.invokespecial index, 3))
    (k : ∀ T' h' v, own_SW p l e R s m args below meth c n0 Z EL own T' h' G (cells + rm.cells) (slots + rm.slots) → h.size ≤ h'.size → Q v h' → own_Go p e below En T' (mkF m (pc + 3) ls (v.toList ++ rest))) : own_Go p e below En T (mkF m pc ls st) := by
  obtain ⟨vm0, k0, ⟨locs, kk, nn, X, eT, N, q1, q2⟩, hS, hk, hZ, ho, hC, hG⟩ := S
  obtain ⟨v, vm1, B, -, X', h2, hg, ⟨L, hQ, l1, l2, l3, hC'⟩, stp⟩ := X.specialBackS C.1 hy1 ho (mvT (s := s.setVm vm0) hZ w1) (mvT (s := s.setVm vm0) hZ w2) (mvT (s := s.setVm vm0) hZ w4) hy (own_payW M hZ w4 w3 hf hlo C.2.2.2.2.2.2.1 hC.1 fun x hx => hG x (hG0 x hx)) (g := mkF m pc ls st) rfl (by rw [C.2.2.1]; exact hsz) (Steps.refl _) (a := a) (argsL := argsL) (rest := rest) (lenOf hpd hlen) hstk (by show 2 * 0 + _ ≤ W; omega) (by rw [C.2.1]; exact hd) (fun _ _ => ⟨has, eT, by show kk + _ ≤ _; omega, by show nn + _ ≤ _; omega⟩)
  rw [eT] at hg
  exact own_step (fun t k => stp.trans k) (k B.U _ v (own_backW (T := T) hS hk hZ ho hC hG N q1 q2 X' h2 hg hQ l1 l2 l3 hC') hg hQ.1)
theorem own_callVW (C : own_CxW p meth c Z a0 EL cd maxL ret nm) (S : own_SW p l e R s m args below meth c n0 Z EL own T h G cells slots) {y z : MethodName} {Cl Cl' : String} {index : Nat} {cdy : ByteArray} {maxy : Nat} {rety : Option FieldType} {rm : Room} {as' : Array Value} {G0 : List Addr} {Q : Option Value → Heap → Prop}
    (w1 : (Jvm.Cond.methodLink own index y).before a0 Z = true) (w2 : (Jvm.Cond.declares y).before a0 Z = true) (w3 : (Jvm.Cond.selects Cl y z).before a0 Z = true) {y' : MethodName} (hyc : y'.cls = y.cls) (w3' : (Jvm.Cond.selects Cl' y' y').before a0 Z = true) (w4 : (Jvm.Cond.instanceMethod z).before a0 Z = true) (w5 : (Jvm.Cond.initialized z.cls).before a0 Z = true) (w6 : (Jvm.Cond.code z cdy maxy rety).before a0 Z = true) (hy : y.cls ≠ "java/lang/invoke/MethodHandle" ∧ y.cls ≠ "java/lang/invoke/VarHandle")
    (M : own_MetW l Z EL z cdy maxy rety rm n0 as' h G0 Q) (hG0 : ∀ x ∈ G0, x ∈ G) (W : Nat) (hf : rm.frames + 1 ≤ R.frames) (hlo : W + (maxy + 11) + rm.locals ≤ R.locals) {a : Addr} (E : Exa Z h a Cl) (argsL rest : List Value) {ps : List FieldType} {rr : Option FieldType} (has : (.ref a :: argsL).toArray = as') (hpd : parseMethodDescriptor y.desc = some ⟨ps, rr⟩) (hlen : argsL.length = ps.length) (hstk : st = argsL.reverse ++ .ref a :: rest) (hsz : ls.size = maxL) (hW : (rest.map fun v => v.category).sum ≤ W)
    (hc : cells + rm.cells ≤ R.cells) (hs : slots + rm.slots ≤ R.slots) (hd : decode cd pc = .ok (.invokevirtual index, 3))
    (k : ∀ T' h' v, own_SW p l e R s m args below meth c n0 Z EL own T' h' G (cells + rm.cells) (slots + rm.slots) → h.size ≤ h'.size → Q v h' → own_Go p e below En T' (mkF m (pc + 3) ls (v.toList ++ rest))) : own_Go p e below En T (mkF m pc ls st) := by
  obtain ⟨vm0, k0, ⟨locs, kk, nn, X, eT, N, q1, q2⟩, hS, hk, hZ, ho, hC, hG⟩ := S
  obtain ⟨cq, kq, qa, qb, qc⟩ := isOf (T := T) (s := s.setVm vm0) hZ eT E
  obtain ⟨v, vm1, B, -, X', h2, hg, ⟨L, hQ, l1, l2, l3, hC'⟩, stp⟩ := X.virtualBackS C.1 ho (mvT (s := s.setVm vm0) hZ w1) (mvT (s := s.setVm vm0) hZ w2) (own_nf (args := #[]) hyc (mvT (s := s.setVm vm0) hZ w3')) (mvT (s := s.setVm vm0) hZ w3) (mvT (s := s.setVm vm0) hZ w4) hy (own_payW M hZ w6 w5 hf hlo C.2.2.2.2.2.2.1 hC.1 fun x hx => hG x (hG0 x hx)) qa qc (g := mkF m pc ls st) rfl (by rw [C.2.2.1]; exact hsz) (Steps.refl _) (argsL := argsL) (rest := rest) (lenOf hpd hlen) hstk (by show 2 * 0 + _ ≤ W; omega) (by rw [C.2.1]; exact hd) (fun _ _ => ⟨has, eT, by show kk + _ ≤ _; omega, by show nn + _ ≤ _; omega⟩)
  rw [eT] at hg
  exact own_step (fun t k => stp.trans k) (k B.U _ v (own_backW (T := T) hS hk hZ ho hC hG N q1 q2 X' h2 hg hQ l1 l2 l3 hC') hg hQ.1)
theorem own_callPW (C : own_CxW p meth c Z a0 EL cd maxL ret nm) (S : own_SW p l e R s m args below meth c n0 Z EL own T h G cells slots) {y : MethodName} {index : Nat} {cdy : ByteArray} {maxy : Nat} {rety : Option FieldType} {rm : Room} {as' : Array Value} {G0 : List Addr} {Q : Option Value → Heap → Prop}
    (w1 : (Jvm.Cond.methodLink own index y).before a0 Z = true) (w2 : (Jvm.Cond.instanceMethod y).before a0 Z = true) (w3 : (Jvm.Cond.selects y.cls y y).before a0 Z = true) (w4 : (Jvm.Cond.privateMethod y).before a0 Z = true) (w5 : (Jvm.Cond.initialized y.cls).before a0 Z = true) (w6 : (Jvm.Cond.code y cdy maxy rety).before a0 Z = true) (hy : y.cls ≠ "java/lang/invoke/MethodHandle" ∧ y.cls ≠ "java/lang/invoke/VarHandle")
    (M : own_MetW l Z EL y cdy maxy rety rm n0 as' h G0 Q) (hG0 : ∀ x ∈ G0, x ∈ G) (W : Nat) (hf : rm.frames + 1 ≤ R.frames) (hlo : W + (maxy + 11) + rm.locals ≤ R.locals) {a : Addr} {Cl : String} (E : Exa Z h a Cl) (argsL rest : List Value) {ps : List FieldType} {rr : Option FieldType} (has : (.ref a :: argsL).toArray = as') (hpd : parseMethodDescriptor y.desc = some ⟨ps, rr⟩) (hlen : argsL.length = ps.length) (hstk : st = argsL.reverse ++ .ref a :: rest) (hsz : ls.size = maxL) (hW : (rest.map fun v => v.category).sum ≤ W)
    (hc : cells + rm.cells ≤ R.cells) (hs : slots + rm.slots ≤ R.slots) (hd : decode cd pc = .ok (.invokevirtual index, 3))
    (k : ∀ T' h' v, own_SW p l e R s m args below meth c n0 Z EL own T' h' G (cells + rm.cells) (slots + rm.slots) → h.size ≤ h'.size → Q v h' → own_Go p e below En T' (mkF m (pc + 3) ls (v.toList ++ rest))) : own_Go p e below En T (mkF m pc ls st) := by
  obtain ⟨vm0, k0, ⟨locs, kk, nn, X, eT, N, q1, q2⟩, hS, hk, hZ, ho, hC, hG⟩ := S
  obtain ⟨cl, hcl, hns⟩ := E.cell
  obtain ⟨v, vm1, B, -, X', h2, hg, ⟨L, hQ, l1, l2, l3, hC'⟩, stp⟩ := X.privateBackS C.1 ho (mvT (s := s.setVm vm0) hZ w1) (mvT (s := s.setVm vm0) hZ w2) (mvT (s := s.setVm vm0) hZ w3) (Cond.privateMethod_at (mvP (s := s.setVm vm0) (args := args) hZ w4)) (mvT (s := s.setVm vm0) hZ w6) hy (own_payW M hZ w6 w5 hf hlo C.2.2.2.2.2.2.1 hC.1 fun x hx => hG x (hG0 x hx)) (g := mkF m pc ls st) rfl (by rw [C.2.2.1]; exact hsz) (Steps.refl _) (a := a) (cell := cl) (by rw [eT]; exact hcl) hns (argsL := argsL) (rest := rest) (lenOf hpd hlen) hstk (by show 2 * 0 + _ ≤ W; omega) (by rw [C.2.1]; exact hd) (fun _ _ => ⟨has, eT, by show kk + _ ≤ _; omega, by show nn + _ ≤ _; omega⟩)
  rw [eT] at hg
  exact own_step (fun t k => stp.trans k) (k B.U _ v (own_backW (T := T) hS hk hZ ho hC hG N q1 q2 X' h2 hg hQ l1 l2 l3 hC') hg hQ.1)
end OwnKitW
theorem own_i2c2 (x : Int32) : nar .char x.toUInt32.toUInt16.toUInt32.toInt32 = x.toUInt32.toUInt16.toUInt32.toInt32 := by
  have h := Jvm.Free.XT.narrow_c x
  exact Value.int.inj h
theorem own_i2b2 (x : Int32) : nar .byte x.toInt8.toInt32 = x.toInt8.toInt32 := by
  have h := Jvm.Free.XT.narrow_b x
  exact Value.int.inj h
theorem own_and255 (x : Int32) : ¬ (x &&& (255 : Int32)) < 0 ∧ ¬ (255 : Int32) < (x &&& (255 : Int32)) := by
  have h := c_and x (255 : Int32) (by decide)
  rw [Int32.lt_iff_toInt_lt, Int32.lt_iff_toInt_lt]
  have e1 : (255 : Int32).toInt = 255 := rfl
  have e2 : (0 : Int32).toInt = 0 := rfl
  omega
theorem own_mask255 (x : Int32) : nar .char (x &&& (255 : Int32)).toUInt32.toUInt16.toUInt32.toInt32 = x &&& (255 : Int32) := by
  rw [own_i2c2, i2c_mask]
theorem own_up (cs : List Int32) (h : ∀ c ∈ cs, ¬ c < 0 ∧ ¬ (255 : Int32) < c) : ∀ c ∈ cs, ¬ c < 0 ∧ ¬ (65535 : Int32) < c := fun c hc => ⟨(h c hc).1, fun q => (h c hc).2 (by rw [Int32.lt_iff_toInt_lt] at q ⊢; have e1 : (65535 : Int32).toInt = 65535 := rfl; have e2 : (255 : Int32).toInt = 255 := rfl; omega)⟩
theorem own_shl0 (x : Int32) : x <<< ((0 : Int32) &&& 31) = x := by
  rw [show ((0 : Int32) &&& 31) = 0 from by decide]; exact Int32.shiftLeft_zero
theorem own_shr0 (x : Int32) : x >>> ((0 : Int32) &&& 31) = x := by
  rw [show ((0 : Int32) &&& 31) = 0 from by decide]; exact Int32.shiftRight_zero
theorem own_cod {cs : List Int32} {N : Int32} {vs : List Value} (h : StrChars.Road.CodA cs 0 N vs) : Int32.ofNat cs.length = N ∧ vs = cs.map fun c => Value.int (StrChars.lo8 c) := by
  rcases h with ⟨-, h1, h2, -⟩ | ⟨h, -⟩
  · exact ⟨h1.symm, h2⟩
  · exact absurd h (by decide)
theorem own_take0 (k : Nat) (d : Value) (M : List Value) : (List.replicate k d).take (0 : Int32).toNatClampNeg ++ M ++ (List.replicate k d).drop ((0 : Int32).toNatClampNeg + k) = M := by
  have e : (0 : Int32).toNatClampNeg = 0 := rfl
  rw [e]; simp
theorem own_min_l {x y : Int32} (h : ¬ y < x) : (if y < x then y else x) = x := if_neg h
theorem own_min_g {x y : Int32} (h : ¬ x < y) : (if y < x then y else x) = y := by
  by_cases g : y < x
  · rw [if_pos g]
  · rw [if_neg g]
    exact Int32.toInt_inj.mp (by rw [Int32.lt_iff_toInt_lt] at h g; omega)
theorem own_nat_le {n N : Int32} (h0 : ¬ n < 0) (h : ¬ N < n) : 0 + n.toNatClampNeg ≤ N.toNatClampNeg := by
  rw [Int32.lt_iff_toInt_lt] at h h0
  have e0 : (0 : Int32).toInt = 0 := rfl
  simp only [Int32.toNatClampNeg]
  omega
theorem own_ofNat_nn {i : Nat} (h : i ≤ 4000) : ¬ Int32.ofNat i < 0 ∧ (Int32.ofNat i).toNatClampNeg = i := by
  have e : (Int32.ofNat i).toInt = i := Int32.toInt_ofNat_of_lt (by omega)
  refine ⟨?_, ?_⟩
  · rw [Int32.lt_iff_toInt_lt, e]
    have e0 : (0 : Int32).toInt = 0 := rfl
    omega
  · simp only [Int32.toNatClampNeg, e]; omega
theorem own_ofNat_lt {i n : Nat} (h : i ≤ 4000) (hn : n ≤ 4000) : Int32.ofNat i < Int32.ofNat n ↔ i < n := by
  have e : (Int32.ofNat i).toInt = i := Int32.toInt_ofNat_of_lt (by omega)
  have e2 : (Int32.ofNat n).toInt = n := Int32.toInt_ofNat_of_lt (by omega)
  rw [Int32.lt_iff_toInt_lt, e, e2]; omega
theorem own_ofNat_succ (i : Nat) : Int32.ofNat i + 1 = Int32.ofNat (i + 1) := by
  rw [Int32.ofNat_add]; rfl
theorem own_b8 {c : Int32} (h : ¬ c < 0 ∧ ¬ (255 : Int32) < c) : c.toInt8.toInt32.toInt % 256 = c.toInt ∧ 0 ≤ c.toInt ∧ c.toInt ≤ 255 := by
  obtain ⟨h1, h2⟩ := h
  rw [Int32.lt_iff_toInt_lt] at h1 h2
  have e0 : (0 : Int32).toInt = 0 := rfl
  have e1 : (255 : Int32).toInt = 255 := rfl
  have e3 : c.toInt8.toInt32.toInt = c.toInt.bmod (2 ^ 8) := by simp
  rw [e3]
  refine ⟨?_, by omega, by omega⟩
  have := Int.bmod_emod (x := c.toInt) (m := 2 ^ 8)
  omega
theorem own_b8_inj {c d : Int32} (h : ¬ c < 0 ∧ ¬ (255 : Int32) < c) (h' : ¬ d < 0 ∧ ¬ (255 : Int32) < d) (e : c.toInt8.toInt32 = d.toInt8.toInt32) : c = d := by
  obtain ⟨a1, -⟩ := own_b8 h
  obtain ⟨a2, -⟩ := own_b8 h'
  rw [e] at a1
  exact Int32.toInt_inj.mp (a1.symm.trans a2)
theorem own_getD {cs : List Int32} {i : Nat} (h : i ≤ 4000) (hi : i < cs.length) : (cs.map fun c => Value.int (StrChars.lo8 c)).getD (Int32.ofNat i).toNatClampNeg (.int 0) = .int ((cs.getD i 0).toInt8.toInt32) := by
  rw [(own_ofNat_nn h).2]
  simp [List.getD, List.getElem?_map, List.getElem?_eq_getElem hi, StrChars.lo8]
theorem own_getD_mem {cs : List Int32} {i : Nat} (hi : i < cs.length) : cs.getD i 0 ∈ cs := by
  simp [List.getD, List.getElem?_eq_getElem hi]
theorem own_take_succ {cs : List Int32} {i : Nat} (hi : i < cs.length) {P : Int32 → Prop} (h : ∀ c ∈ cs.take i, P c) (h' : P (cs.getD i 0)) : ∀ c ∈ cs.take (i + 1), P c := by
  intro c hc
  rw [List.take_add_one, List.getElem?_eq_getElem hi] at hc
  simp [List.getD, List.getElem?_eq_getElem hi] at h'
  rcases List.mem_append.mp hc with q | q
  · exact h c q
  · simp at q; subst q; exact h'
def own_IO (r : Int32) (cs : List Int32) (k : Int32) : Prop := (r < 0 ∧ ∀ c ∈ cs, ¬ c = k) ∨ (¬ r < 0 ∧ k ∈ cs)
theorem own_IO.no {r k : Int32} {cs : List Int32} (q : own_IO r cs k) (h : ∀ c ∈ cs, ¬ c = k) (hr : ¬ r < 0) : False := by
  rcases q with ⟨q, -⟩ | ⟨-, q⟩
  · exact hr q
  · exact h k q rfl
theorem own_IO.yes {r k : Int32} {cs : List Int32} (q : own_IO r cs k) (h : k ∈ cs) (hr : r < 0) : False := by
  rcases q with ⟨-, q⟩ | ⟨q, -⟩
  · exact q k h rfl
  · exact q hr
def own_Ch (r : Int32) : Prop := (¬ r < 0 ∧ ¬ (255 : Int32) < r) ∧ nar .char r = r ∧ r.toUInt32.toUInt16.toUInt32.toInt32 = r
theorem own_Ch.of (x : Int32) : own_Ch (x &&& (255 : Int32)) := ⟨own_and255 x, i2c_mask x, i2c_mask x⟩
abbrev own_EL : List (String × Nat) := consts_1
theorem own_n3 (x : Int32) : (1 : Int32) + ((x &&& 2147483647) % 3) = 1 ∨ (1 : Int32) + ((x &&& 2147483647) % 3) = 2 ∨ (1 : Int32) + ((x &&& 2147483647) % 3) = 3 := by
  have h := c_and x (2147483647 : Int32) (by decide)
  have e2 : (2147483647 : Int32).toInt = 2147483647 := rfl
  have e3 : ((x &&& 2147483647) % 3).toInt = (x &&& 2147483647).toInt % 3 := by
    rw [Int32.toInt_mod]
    have e3 : (3 : Int32).toInt = 3 := rfl
    rw [e3]; exact Int.tmod_eq_emod_of_nonneg (by omega)
  have h3 := e3
  generalize (x &&& 2147483647) % 3 = y at e3
  have : y = 0 ∨ y = 1 ∨ y = 2 := by
    have a0 : (0 : Int32).toInt = 0 := rfl
    have a1 : (1 : Int32).toInt = 1 := rfl
    have a2 : (2 : Int32).toInt = 2 := rfl
    rcases (show y.toInt = 0 ∨ y.toInt = 1 ∨ y.toInt = 2 by omega) with q | q | q
    · exact Or.inl (Int32.toInt_inj.mp q)
    · exact Or.inr (Or.inl (Int32.toInt_inj.mp q))
    · exact Or.inr (Or.inr (Int32.toInt_inj.mp q))
  rcases this with rfl | rfl | rfl <;> decide
set_option maxRecDepth 65536 in
set_option maxHeartbeats 40000000 in
theorem own_coder (l : Launch) (Z : State) (a0 : Array Value) (hw : ∀ d ∈ tables_1, d.before a0 Z = true) (G1 : Int32) (G3 : Value) (x : Addr) (h0 : Heap) (n0 : Nat) (z0 : n0 ≤ h0.size) (X00 : Old Z n0 h0) (pC : Fld Z h0 x "java/lang/String" "coder" "B" (.int 0)) (O2 : Sta Z Z.heap "java/lang/String" "COMPACT_STRINGS" "Z" (.int G1)) (O4 : Sta Z Z.heap "jdk/internal/util/Preconditions" "SIOOBE_FORMATTER" "Ljava/util/function/BiFunction;" G3) (P5 : ¬ G1 = (0 : Int32)) (rG3 : G3.isRef = true) :
    own_Met l Z (⟨"java/lang/String", "coder", "()B"⟩ : MethodName) jdk_42_method_152_code 1 (some .byte) ({ frames := 0, cells := 0, slots := 0, locals := 0 } : Room) n0 #[(.ref x)] h0 (fun v h => v = some (.int 0) ∧ h = h0) := by
  refine own_met (by decide +kernel) #[.val (.ref x)] (fun m => by first | (simp [entryFrame, mkF, argsToLocals, Value.category]; done) | rfl) ?_
  intro p e s m below meth c T0 C S0
  refine own_getS C S0 (own_wd hw 19 rfl) Via.refl (O2.ext X00.2) (by decide +kernel) ?_
  intro T1 S2
  refine own_if C S2 (q := .eq) (o := 10) (by decide +kernel) 13 (by decide) (by decide) (fun (hq : G1 = (0 : Int32)) => False.elim (P5 hq)) (fun (q3 : ¬ G1 = (0 : Int32)) => ?_)
  refine own_seg C S2 [(6, .aload_n 0, 1)] (by decide +kernel) 7 #[.val (.ref x)] [(.ref x)] rfl ?_
  refine own_getF C S2 (host := "") (Or.inl (own_wd hw 31 rfl)) Via.refl pC (by decide +kernel) ?_
  intro T4 S5
  refine own_seg C S5 [(10, .goto 4, 3)] (by decide +kernel) 14 #[.val (.ref x)] [(.int 0)] rfl ?_
  refine own_retB C S5 (by decide +kernel) rfl (by decide) (by decide) ?_
  exact ⟨rfl, rfl⟩
set_option maxRecDepth 65536 in
set_option maxHeartbeats 40000000 in
theorem own_min (l : Launch) (Z : State) (a0 : Array Value) (hw : ∀ d ∈ tables_1, d.before a0 Z = true) (x1 : Int32) (x2 : Int32) (h0 : Heap) (n0 : Nat) (z0 : n0 ≤ h0.size) :
    own_Met l Z (⟨"java/lang/Math", "min", "(II)I"⟩ : MethodName) jdk_29_method_69_code 2 (some .int) ({ frames := 0, cells := 0, slots := 0, locals := 0 } : Room) n0 #[(.int x1), (.int x2)] h0 (fun v h => v = some (.int (if x2 < x1 then x2 else x1)) ∧ h = h0) := by
  refine own_met (by decide +kernel) #[.val (.int x1), .val (.int x2)] (fun m => by first | (simp [entryFrame, mkF, argsToLocals, Value.category]; done) | rfl) ?_
  intro p e s m below meth c T0 C S0
  refine own_seg C S0 [(0, .iload_n 0, 1), (1, .iload_n 1, 1)] (by decide +kernel) 2 #[.val (.int x1), .val (.int x2)] [(.int x2), (.int x1)] rfl ?_
  refine own_icmp C S0 (q := .gt) (o := 7) (by decide +kernel) 9 (by decide) (by decide) (fun (q6 : x2 < x1) => ?_) (fun (q7 : ¬ x2 < x1) => ?_)
  · refine own_seg C S0 [(9, .iload_n 1, 1)] (by decide +kernel) 10 #[.val (.int x1), .val (.int x2)] [(.int x2)] rfl ?_
    refine own_retI C S0 (by decide +kernel) (by decide) (by decide) ?_
    exact ⟨by rw [if_pos q6], rfl⟩
  · refine own_seg C S0 [(5, .iload_n 0, 1), (6, .goto 4, 3)] (by decide +kernel) 10 #[.val (.int x1), .val (.int x2)] [(.int x1)] rfl ?_
    refine own_retI C S0 (by decide +kernel) (by decide) (by decide) ?_
    exact ⟨by rw [if_neg q7], rfl⟩
set_option maxRecDepth 65536 in
set_option maxHeartbeats 40000000 in
theorem own_rec (l : Launch) (Z : State) (a0 : Array Value) (hw : ∀ d ∈ tables_1, d.before a0 Z = true) (a : Addr) (h0 : Heap) (n0 : Nat) (z0 : n0 ≤ h0.size) :
    own_Met l Z (⟨"java/lang/Record", "<init>", "()V"⟩ : MethodName) jdk_30_method_1_code 1 none ({ frames := 1, cells := 0, slots := 0, locals := 12 } : Room) n0 #[(.ref a)] h0 (fun v h => v = none ∧ h = h0) := by
  refine own_met (by decide +kernel) #[.val (.ref a)] (fun m => by first | (simp [entryFrame, mkF, argsToLocals, Value.category]; done) | rfl) ?_
  intro p e s m below meth c T0 C S0
  refine own_seg C S0 [(0, .aload_n 0, 1)] (by decide +kernel) 1 #[.val (.ref a)] [(.ref a)] rfl ?_
  refine own_initO C S0 (own_wd hw 46 rfl) (own_wd hw 17 rfl) (own_wd hw 18 rfl) rfl (by decide +kernel) (by decide) 0 (Nat.le_of_ble_eq_true rfl) (by decide) ?_
  intro T8 S9
  refine own_retV C S9 (by decide +kernel) (by decide) (by decide) ?_
  exact ⟨rfl, rfl⟩
set_option maxRecDepth 65536 in
set_option maxHeartbeats 40000000 in
theorem own_rnn2 (l : Launch) (Z : State) (a0 : Array Value) (hw : ∀ d ∈ tables_1, d.before a0 Z = true) (x : Addr) (y : Addr) (h0 : Heap) (n0 : Nat) (z0 : n0 ≤ h0.size) :
    own_Met l Z (⟨"java/util/Objects", "requireNonNull", "(Ljava/lang/Object;Ljava/lang/String;)Ljava/lang/Object;"⟩ : MethodName) jdk_31_method_11_code 2 (some (.object "java/lang/Object")) ({ frames := 0, cells := 0, slots := 0, locals := 0 } : Room) n0 #[(.ref x), (.ref y)] h0 (fun v h => v = some (.ref x) ∧ h = h0) := by
  refine own_met (by decide +kernel) #[.val (.ref x), .val (.ref y)] (fun m => by first | (simp [entryFrame, mkF, argsToLocals, Value.category]; done) | rfl) ?_
  intro p e s m below meth c T0 C S0
  refine own_seg C S0 [(0, .aload_n 0, 1), (1, .ifnonnull 12, 3), (13, .aload_n 0, 1)] (by decide +kernel) 14 #[.val (.ref x), .val (.ref y)] [(.ref x)] rfl ?_
  refine own_retA C S0 rfl rfl (by decide +kernel) (by decide) (by decide) ?_
  exact ⟨rfl, rfl⟩
set_option maxRecDepth 65536 in
set_option maxHeartbeats 40000000 in
theorem own_ce (l : Launch) (Z : State) (a0 : Array Value) (hw : ∀ d ∈ tables_1, d.before a0 Z = true) (k : Int32) (h0 : Heap) (n0 : Nat) (z0 : n0 ≤ h0.size) (k0 : ¬ k < (0 : Int32) ∧ ¬ (255 : Int32) < k) :
    own_Met l Z (⟨"java/lang/StringLatin1", "canEncode", "(I)Z"⟩ : MethodName) jdk_43_method_4_code 1 (some .boolean) ({ frames := 0, cells := 0, slots := 0, locals := 0 } : Room) n0 #[(.int k)] h0 (fun v h => v = some (.int (1 : Int32)) ∧ h = h0) := by
  refine own_met (by decide +kernel) #[.val (.int k)] (fun m => by first | (simp [entryFrame, mkF, argsToLocals, Value.category]; done) | rfl) ?_
  intro p e s m below meth c T0 C S0
  refine own_seg C S0 [(0, .iload_n 0, 1)] (by decide +kernel) 1 #[.val (.int k)] [(.int k)] rfl ?_
  refine own_if C S0 (q := .lt) (o := 14) (by decide +kernel) 15 (by decide) (by decide) (fun (hq : k < (0 : Int32)) => False.elim (k0.1 hq)) (fun (q10 : ¬ k < (0 : Int32)) => ?_)
  refine own_seg C S0 [(4, .iload_n 0, 1), (5, .sipush 255, 3)] (by decide +kernel) 8 #[.val (.int k)] [(.int (255 : Int32)), (.int k)] rfl ?_
  refine own_icmp C S0 (q := .gt) (o := 7) (by decide +kernel) 15 (by decide) (by decide) (fun (hq : (255 : Int32) < k) => False.elim (k0.2 hq)) (fun (q11 : ¬ (255 : Int32) < k) => ?_)
  refine own_seg C S0 [(11, .iconst 1, 1), (12, .goto 4, 3)] (by decide +kernel) 16 #[.val (.int k)] [(.int (1 : Int32))] rfl ?_
  refine own_retZ C S0 (by decide +kernel) (by decide) (by decide) (by decide) ?_
  exact ⟨rfl, rfl⟩
set_option maxRecDepth 65536 in
set_option maxHeartbeats 40000000 in
theorem own_max (l : Launch) (Z : State) (a0 : Array Value) (hw : ∀ d ∈ tables_1, d.before a0 Z = true) (x1 : Int32) (x2 : Int32) (h0 : Heap) (n0 : Nat) (z0 : n0 ≤ h0.size) :
    own_Met l Z (⟨"java/lang/Math", "max", "(II)I"⟩ : MethodName) jdk_29_method_65_code 2 (some .int) ({ frames := 0, cells := 0, slots := 0, locals := 0 } : Room) n0 #[(.int x1), (.int x2)] h0 (fun v h => v = some (.int (if x1 < x2 then x2 else x1)) ∧ h = h0) := by
  refine own_met (by decide +kernel) #[.val (.int x1), .val (.int x2)] (fun m => by first | (simp [entryFrame, mkF, argsToLocals, Value.category]; done) | rfl) ?_
  intro p e s m below meth c T0 C S0
  refine own_seg C S0 [(0, .iload_n 0, 1), (1, .iload_n 1, 1)] (by decide +kernel) 2 #[.val (.int x1), .val (.int x2)] [(.int x2), (.int x1)] rfl ?_
  refine own_icmp C S0 (q := .lt) (o := 7) (by decide +kernel) 9 (by decide) (by decide) (fun (q12 : x1 < x2) => ?_) (fun (q13 : ¬ x1 < x2) => ?_)
  · refine own_seg C S0 [(9, .iload_n 1, 1)] (by decide +kernel) 10 #[.val (.int x1), .val (.int x2)] [(.int x2)] rfl ?_
    refine own_retI C S0 (by decide +kernel) (by decide) (by decide) ?_
    exact ⟨by rw [if_pos q12], rfl⟩
  · refine own_seg C S0 [(5, .iload_n 0, 1), (6, .goto 4, 3)] (by decide +kernel) 10 #[.val (.int x1), .val (.int x2)] [(.int x1)] rfl ?_
    refine own_retI C S0 (by decide +kernel) (by decide) (by decide) ?_
    exact ⟨by rw [if_neg q13], rfl⟩
set_option maxRecDepth 65536 in
set_option maxHeartbeats 40000000 in
theorem own_ioc (l : Launch) (Z : State) (a0 : Array Value) (hw : ∀ d ∈ tables_1, d.before a0 Z = true) (t : Addr) (tk : ClassId) (N : Int32) (vs : List Value) (cs : List Int32) (k : Int32) (h0 : Heap) (n0 : Nat) (z0 : n0 ≤ h0.size) (tK : Arv Z h0 t tk .byte N vs (.int 0)) (cd : StrChars.Road.CodA cs 0 N vs) (hp : ∀ c ∈ cs, ¬ c < 0 ∧ ¬ (255 : Int32) < c) (l2 : cs.length ≤ 4000) (k0 : ¬ k < (0 : Int32) ∧ ¬ (255 : Int32) < k) :
    own_Met l Z (⟨"java/lang/StringLatin1", "indexOfChar", "([BIII)I"⟩ : MethodName) jdk_43_method_23_code 6 (some .int) ({ frames := 0, cells := 0, slots := 0, locals := 0 } : Room) n0 #[(.ref t), (.int k), (.int (0 : Int32)), (.int N)] h0 (fun v h => ∃ r : Int32, v = some (.int r) ∧ h = h0 ∧ own_IO r cs k) := by
  refine own_met (by decide +kernel) #[.val (.ref t), .val (.int k), .val (.int (0 : Int32)), .val (.int N), .unset, .unset] (fun m => by first | (simp [entryFrame, mkF, argsToLocals, Value.category]; done) | rfl) ?_
  intro p e s m below meth c T0 C S0
  obtain ⟨hN, hvs⟩ := own_cod cd
  refine own_seg C S0 [(0, .iload_n 1, 1), (1, .i2b, 1), (2, .istore 4, 2), (4, .iload_n 2, 1), (5, .istore 5, 2)] (by decide +kernel) 7 #[.val (.ref t), .val (.int k), .val (.int (0 : Int32)), .val (.int N), .val (.int k.toInt8.toInt32), .val (.int (0 : Int32))] [] rfl ?_
  have loop : ∀ (d : Nat) (T : State) (i : Nat), i + d = cs.length → (∀ c ∈ cs.take i, ¬ c = k) → own_S p l e ({ frames := 0, cells := 0, slots := 0, locals := 0 } : Room) s m #[(.ref t), (.int k), (.int (0 : Int32)), (.int N)] below meth c n0 T h0 0 0 → own_Go p e below (own_En s n0 (fun v h => ∃ r : Int32, v = some (.int r) ∧ h = h0 ∧ own_IO r cs k) ({ frames := 0, cells := 0, slots := 0, locals := 0 } : Room).cells ({ frames := 0, cells := 0, slots := 0, locals := 0 } : Room).slots) T (mkF m 7 #[.val (.ref t), .val (.int k), .val (.int (0 : Int32)), .val (.int N), .val (.int k.toInt8.toInt32), .val (.int (Int32.ofNat i))] []) := by
    intro d
    induction d with
    | zero =>
      intro T i hi ha S
      refine own_seg C S [(7, .iload 5, 2), (9, .iload_n 3, 1)] (by decide +kernel) 10 #[.val (.ref t), .val (.int k), .val (.int (0 : Int32)), .val (.int N), .val (.int k.toInt8.toInt32), .val (.int (Int32.ofNat i))] [(.int N), (.int (Int32.ofNat i))] rfl ?_
      refine own_icmp C S (q := .ge) (o := 21) (by decide +kernel) 31 (by decide) (by decide) (fun (q14 : ¬ (Int32.ofNat i) < N) => ?_) (fun (hq : (Int32.ofNat i) < N) => False.elim (by rw [← hN] at hq; have := (own_ofNat_lt (by omega) l2).mp hq; omega))
      refine own_seg C S [(31, .iconst (-1), 1)] (by decide +kernel) 32 #[.val (.ref t), .val (.int k), .val (.int (0 : Int32)), .val (.int N), .val (.int k.toInt8.toInt32), .val (.int (Int32.ofNat i))] [(.int (-1 : Int32))] rfl ?_
      refine own_retI C S (by decide +kernel) (by decide) (by decide) ?_
      exact ⟨_, rfl, rfl, Or.inl ⟨by decide, fun c hc => ha c (by rw [List.take_of_length_le (by omega)]; exact hc)⟩⟩
    | succ d ih =>
      intro T i hi ha S
      have hil : i < cs.length := by omega
      have hlt : Int32.ofNat i < N := by rw [← hN]; exact (own_ofNat_lt (by omega) l2).mpr hil
      refine own_seg C S [(7, .iload 5, 2), (9, .iload_n 3, 1)] (by decide +kernel) 10 #[.val (.ref t), .val (.int k), .val (.int (0 : Int32)), .val (.int N), .val (.int k.toInt8.toInt32), .val (.int (Int32.ofNat i))] [(.int N), (.int (Int32.ofNat i))] rfl ?_
      refine own_icmp C S (q := .ge) (o := 21) (by decide +kernel) 31 (by decide) (by decide) (fun (hq : ¬ (Int32.ofNat i) < N) => False.elim (hq hlt)) (fun (q15 : (Int32.ofNat i) < N) => ?_)
      refine own_seg C S [(13, .aload_n 0, 1), (14, .iload 5, 2)] (by decide +kernel) 16 #[.val (.ref t), .val (.int k), .val (.int (0 : Int32)), .val (.int N), .val (.int k.toInt8.toInt32), .val (.int (Int32.ofNat i))] [(.int (Int32.ofNat i)), (.ref t)] rfl ?_
      refine own_baload C S tK ⟨(own_ofNat_nn (by omega)).1, hlt⟩ (.int ((cs.getD i 0).toInt8.toInt32)) (by rw [hvs]; exact own_getD (by omega) hil) (by decide +kernel) ?_
      refine own_seg C S [(17, .iload 4, 2)] (by decide +kernel) 19 #[.val (.ref t), .val (.int k), .val (.int (0 : Int32)), .val (.int N), .val (.int k.toInt8.toInt32), .val (.int (Int32.ofNat i))] [(.int k.toInt8.toInt32), (.int ((cs.getD i 0).toInt8.toInt32))] rfl ?_
      refine own_icmp C S (q := .ne) (o := 6) (by decide +kernel) 25 (by decide) (by decide) (fun (q16 : ¬ ((cs.getD i 0).toInt8.toInt32) = k.toInt8.toInt32) => ?_) (fun (q17 : ((cs.getD i 0).toInt8.toInt32) = k.toInt8.toInt32) => ?_)
      · refine own_seg C S [(25, .iinc 5 1, 3), (28, .goto (-21), 3)] (by decide +kernel) 7 #[.val (.ref t), .val (.int k), .val (.int (0 : Int32)), .val (.int N), .val (.int k.toInt8.toInt32), .val (.int ((Int32.ofNat i) + (1 : Int32)))] [] rfl ?_
        rw [show ((Int32.ofNat i) + (1 : Int32)) = (Int32.ofNat (i + 1)) from own_ofNat_succ i]
        exact ih T (i + 1) (by omega) (own_take_succ hil ha (fun e => q16 (by rw [e]))) S
      · refine own_seg C S [(22, .iload 5, 2)] (by decide +kernel) 24 #[.val (.ref t), .val (.int k), .val (.int (0 : Int32)), .val (.int N), .val (.int k.toInt8.toInt32), .val (.int (Int32.ofNat i))] [(.int (Int32.ofNat i))] rfl ?_
        refine own_retI C S (by decide +kernel) (by decide) (by decide) ?_
        exact ⟨_, rfl, rfl, Or.inr ⟨(own_ofNat_nn (by omega)).1, (own_b8_inj (hp _ (own_getD_mem hil)) k0 q17) ▸ own_getD_mem hil⟩⟩
  exact loop cs.length T0 0 (Nat.zero_add _) (by simp) S0
theorem own_pd0 : parseMethodDescriptor "(I)Z" = some ⟨[.int], (some .boolean)⟩ := by decide +kernel
theorem own_pd1 : parseMethodDescriptor "(II)I" = some ⟨[.int, .int], (some .int)⟩ := by decide +kernel
theorem own_pd2 : parseMethodDescriptor "([BIII)I" = some ⟨[(.array .byte), .int, .int, .int], (some .int)⟩ := by decide +kernel
set_option maxRecDepth 65536 in
set_option maxHeartbeats 40000000 in
theorem own_l1io (l : Launch) (Z : State) (a0 : Array Value) (hw : ∀ d ∈ tables_1, d.before a0 Z = true) (t : Addr) (tk : ClassId) (N : Int32) (vs : List Value) (cs : List Int32) (k : Int32) (h0 : Heap) (n0 : Nat) (z0 : n0 ≤ h0.size) (tK : Arv Z h0 t tk .byte N vs (.int 0)) (cd : StrChars.Road.CodA cs 0 N vs) (hp : ∀ c ∈ cs, ¬ c < 0 ∧ ¬ (255 : Int32) < c) (l2 : cs.length ≤ 4000) (k0 : ¬ k < (0 : Int32) ∧ ¬ (255 : Int32) < k) :
    own_Met l Z (⟨"java/lang/StringLatin1", "indexOf", "([BIII)I"⟩ : MethodName) jdk_43_method_22_code 4 (some .int) ({ frames := 1, cells := 0, slots := 0, locals := 17 } : Room) n0 #[(.ref t), (.int k), (.int (0 : Int32)), (.int N)] h0 (fun v h => ∃ r : Int32, v = some (.int r) ∧ h = h0 ∧ own_IO r cs k) := by
  refine own_met (by decide +kernel) #[.val (.ref t), .val (.int k), .val (.int (0 : Int32)), .val (.int N)] (fun m => by first | (simp [entryFrame, mkF, argsToLocals, Value.category]; done) | rfl) ?_
  intro p e s m below meth c T0 C S0
  obtain ⟨hN, hvs⟩ := own_cod cd
  refine own_seg C S0 [(0, .iload_n 1, 1)] (by decide +kernel) 1 #[.val (.ref t), .val (.int k), .val (.int (0 : Int32)), .val (.int N)] [(.int k)] rfl ?_
  refine own_callS C S0 (own_wd hw 88 rfl) (own_wd hw 89 rfl) (own_wd hw 86 rfl) (own_wd hw 90 rfl) (by decide) (own_Met.pay (own_ce l Z a0 hw k h0 n0 z0 k0) C 0 (own_wd hw 90 rfl) (own_wd hw 86 rfl) (by decide) (by decide)) (fun _ _ _ q => q.2) [(.int k)] [] rfl own_pd0 rfl rfl rfl (Nat.le_of_ble_eq_true rfl) (by decide) (by decide) (by decide +kernel) ?_
  rintro T19 h20 v21 L22 S23 ⟨⟨rfl, e18⟩, -⟩
  replace S23 : own_S p l e ({ frames := 1, cells := 0, slots := 0, locals := 17 } : Room) s m #[(.ref t), (.int k), (.int (0 : Int32)), (.int N)] below meth c n0 T19 h20 0 0 := S23
  rw [e18] at S23; clear e18
  show own_Go p e below _ T19 (mkF m 4 #[.val (.ref t), .val (.int k), .val (.int (0 : Int32)), .val (.int N)] [(.int (1 : Int32))])
  refine own_if C S23 (q := .ne) (o := 5) (by decide +kernel) 9 (by decide) (by decide) (fun (q24 : ¬ (1 : Int32) = (0 : Int32)) => ?_) (fun (hq : (1 : Int32) = (0 : Int32)) => False.elim (absurd hq (by decide)))
  refine own_seg C S23 [(9, .iload_n 2, 1), (10, .iconst 0, 1)] (by decide +kernel) 11 #[.val (.ref t), .val (.int k), .val (.int (0 : Int32)), .val (.int N)] [(.int (0 : Int32)), (.int (0 : Int32))] rfl ?_
  refine own_callS C S23 (own_wd hw 91 rfl) (own_wd hw 92 rfl) (own_wd hw 93 rfl) (own_wd hw 94 rfl) (by decide) (own_Met.pay (own_max l Z a0 hw (0 : Int32) (0 : Int32) h0 n0 z0) C 0 (own_wd hw 94 rfl) (own_wd hw 93 rfl) (by decide) (by decide)) (fun _ _ _ q => q.2) [(.int (0 : Int32)), (.int (0 : Int32))] [] rfl own_pd1 rfl rfl rfl (Nat.le_of_ble_eq_true rfl) (by decide) (by decide) (by decide +kernel) ?_
  rintro T26 h27 v28 L29 S30 ⟨⟨rfl, e25⟩, -⟩
  replace S30 : own_S p l e ({ frames := 1, cells := 0, slots := 0, locals := 17 } : Room) s m #[(.ref t), (.int k), (.int (0 : Int32)), (.int N)] below meth c n0 T26 h27 0 0 := S30
  rw [e25] at S30; clear e25
  show own_Go p e below _ T26 (mkF m 14 #[.val (.ref t), .val (.int k), .val (.int (0 : Int32)), .val (.int N)] [(.int (if (0 : Int32) < (0 : Int32) then (0 : Int32) else (0 : Int32)))])
  refine own_seg C S30 [(14, .istore_n 2, 1), (15, .iload_n 3, 1), (16, .aload_n 0, 1)] (by decide +kernel) 17 #[.val (.ref t), .val (.int k), .val (.int (if (0 : Int32) < (0 : Int32) then (0 : Int32) else (0 : Int32))), .val (.int N)] [(.ref t), (.int N)] rfl ?_
  rw [show (if (0 : Int32) < (0 : Int32) then (0 : Int32) else (0 : Int32)) = (0 : Int32) from rfl]
  refine own_alen C S30 tK (by decide +kernel) ?_
  refine own_callS C S30 (own_wd hw 95 rfl) (own_wd hw 96 rfl) (own_wd hw 93 rfl) (own_wd hw 97 rfl) (by decide) (own_Met.pay (own_min l Z a0 hw N N h0 n0 z0) C 0 (own_wd hw 97 rfl) (own_wd hw 93 rfl) (by decide) (by decide)) (fun _ _ _ q => q.2) [(.int N), (.int N)] [] rfl own_pd1 rfl rfl rfl (Nat.le_of_ble_eq_true rfl) (by decide) (by decide) (by decide +kernel) ?_
  rintro T32 h33 v34 L35 S36 ⟨⟨rfl, e31⟩, -⟩
  replace S36 : own_S p l e ({ frames := 1, cells := 0, slots := 0, locals := 17 } : Room) s m #[(.ref t), (.int k), (.int (0 : Int32)), (.int N)] below meth c n0 T32 h33 0 0 := S36
  rw [e31] at S36; clear e31
  show own_Go p e below _ T32 (mkF m 21 #[.val (.ref t), .val (.int k), .val (.int (0 : Int32)), .val (.int N)] [(.int (if N < N then N else N))])
  refine own_seg C S36 [(21, .istore_n 3, 1), (22, .iload_n 2, 1), (23, .iload_n 3, 1)] (by decide +kernel) 24 #[.val (.ref t), .val (.int k), .val (.int (0 : Int32)), .val (.int (if N < N then N else N))] [(.int (if N < N then N else N)), (.int (0 : Int32))] rfl ?_
  rw [show (if N < N then N else N) = N from (by split <;> rfl)]
  refine own_icmp C S36 (q := .lt) (o := 5) (by decide +kernel) 29 (by decide) (by decide) (fun (q37 : (0 : Int32) < N) => ?_) (fun (q38 : ¬ (0 : Int32) < N) => ?_)
  · refine own_seg C S36 [(29, .aload_n 0, 1), (30, .iload_n 1, 1), (31, .iload_n 2, 1), (32, .iload_n 3, 1)] (by decide +kernel) 33 #[.val (.ref t), .val (.int k), .val (.int (0 : Int32)), .val (.int N)] [(.int N), (.int (0 : Int32)), (.int k), (.ref t)] rfl ?_
    refine own_callS C S36 (own_wd hw 98 rfl) (own_wd hw 99 rfl) (own_wd hw 86 rfl) (own_wd hw 100 rfl) (by decide) (own_Met.pay (own_ioc l Z a0 hw t tk N vs cs k h0 n0 z0 tK cd hp l2 k0) C 0 (own_wd hw 100 rfl) (own_wd hw 86 rfl) (by decide) (by decide)) (fun _ _ _ q => q.2) [(.ref t), (.int k), (.int (0 : Int32)), (.int N)] [] rfl own_pd2 rfl rfl rfl (Nat.le_of_ble_eq_true rfl) (by decide) (by decide) (by decide +kernel) ?_
    rintro T42 h43 v44 L45 S46 ⟨⟨y39, rfl, e40, p41⟩, -⟩
    replace S46 : own_S p l e ({ frames := 1, cells := 0, slots := 0, locals := 17 } : Room) s m #[(.ref t), (.int k), (.int (0 : Int32)), (.int N)] below meth c n0 T42 h43 0 0 := S46
    rw [e40] at S46; clear e40
    show own_Go p e below _ T42 (mkF m 36 #[.val (.ref t), .val (.int k), .val (.int (0 : Int32)), .val (.int N)] [(.int y39)])
    refine own_retI C S46 (by decide +kernel) (by decide) (by decide) ?_
    exact ⟨y39, rfl, rfl, p41⟩
  · refine own_seg C S36 [(27, .iconst (-1), 1)] (by decide +kernel) 28 #[.val (.ref t), .val (.int k), .val (.int (0 : Int32)), .val (.int N)] [(.int (-1 : Int32))] rfl ?_
    refine own_retI C S36 (by decide +kernel) (by decide) (by decide) ?_
    refine ⟨_, rfl, rfl, Or.inl ⟨by decide, fun c hc => ?_⟩⟩
    rw [← hN] at q38
    exact absurd ((own_ofNat_lt (i := 0) (by omega) l2).mpr (List.length_pos_of_mem hc)) q38
set_option maxRecDepth 65536 in
set_option maxHeartbeats 40000000 in
theorem own_isL (l : Launch) (Z : State) (a0 : Array Value) (hw : ∀ d ∈ tables_1, d.before a0 Z = true) (G1 : Int32) (G3 : Value) (x : Addr) (h0 : Heap) (n0 : Nat) (z0 : n0 ≤ h0.size) (X00 : Old Z n0 h0) (pC : Fld Z h0 x "java/lang/String" "coder" "B" (.int 0)) (O2 : Sta Z Z.heap "java/lang/String" "COMPACT_STRINGS" "Z" (.int G1)) (O4 : Sta Z Z.heap "jdk/internal/util/Preconditions" "SIOOBE_FORMATTER" "Ljava/util/function/BiFunction;" G3) (P5 : ¬ G1 = (0 : Int32)) (rG3 : G3.isRef = true) :
    own_Met l Z (⟨"java/lang/String", "isLatin1", "()Z"⟩ : MethodName) jdk_42_method_154_code 1 (some .boolean) ({ frames := 0, cells := 0, slots := 0, locals := 0 } : Room) n0 #[(.ref x)] h0 (fun v h => v = some (.int (1 : Int32)) ∧ h = h0) := by
  refine own_met (by decide +kernel) #[.val (.ref x)] (fun m => by first | (simp [entryFrame, mkF, argsToLocals, Value.category]; done) | rfl) ?_
  intro p e s m below meth c T0 C S0
  refine own_getS C S0 (own_wd hw 19 rfl) Via.refl (O2.ext X00.2) (by decide +kernel) ?_
  intro T47 S48
  refine own_if C S48 (q := .eq) (o := 14) (by decide +kernel) 17 (by decide) (by decide) (fun (hq : G1 = (0 : Int32)) => False.elim (P5 hq)) (fun (q49 : ¬ G1 = (0 : Int32)) => ?_)
  refine own_seg C S48 [(6, .aload_n 0, 1)] (by decide +kernel) 7 #[.val (.ref x)] [(.ref x)] rfl ?_
  refine own_getF C S48 (host := "") (Or.inl (own_wd hw 31 rfl)) Via.refl pC (by decide +kernel) ?_
  intro T50 S51
  refine own_if C S51 (q := .ne) (o := 7) (by decide +kernel) 17 (by decide) (by decide) (fun (hq : ¬ 0 = (0 : Int32)) => False.elim (hq rfl)) (fun (q52 : 0 = (0 : Int32)) => ?_)
  refine own_seg C S51 [(13, .iconst 1, 1), (14, .goto 4, 3)] (by decide +kernel) 18 #[.val (.ref x)] [(.int (1 : Int32))] rfl ?_
  refine own_retZ C S51 (by decide +kernel) (by decide) (by decide) (by decide) ?_
  exact ⟨rfl, rfl⟩
theorem own_pd3 : parseMethodDescriptor "()Z" = some ⟨[], (some .boolean)⟩ := by decide +kernel
theorem own_hln : ∀ d ∈ StrChars.Road.wordsLen, d ∈ tables_1 := by decide +kernel
theorem own_pd4 : parseMethodDescriptor "()I" = some ⟨[], (some .int)⟩ := by decide +kernel
set_option maxRecDepth 65536 in
set_option maxHeartbeats 40000000 in
theorem own_io2 (l : Launch) (Z : State) (a0 : Array Value) (hw : ∀ d ∈ tables_1, d.before a0 Z = true) (G1 : Int32) (G3 : Value) (x : Addr) (xt : Addr) (xk : ClassId) (xN : Int32) (xvs : List Value) (xcs : List Int32) (k : Int32) (h0 : Heap) (n0 : Nat) (z0 : n0 ≤ h0.size) (X00 : Old Z n0 h0) (xE : Exa Z h0 x "java/lang/String") (xV : Fld Z h0 x "java/lang/String" "value" "[B" (.ref xt)) (xC : Fld Z h0 x "java/lang/String" "coder" "B" (.int 0)) (xK : Arv Z h0 xt xk .byte xN xvs (.int 0)) (O2 : Sta Z Z.heap "java/lang/String" "COMPACT_STRINGS" "Z" (.int G1)) (O4 : Sta Z Z.heap "jdk/internal/util/Preconditions" "SIOOBE_FORMATTER" "Ljava/util/function/BiFunction;" G3) (P5 : ¬ G1 = (0 : Int32)) (rG3 : G3.isRef = true) (xcd : StrChars.Road.CodA xcs 0 xN xvs) (xhp : ∀ c ∈ xcs, ¬ c < 0 ∧ ¬ (255 : Int32) < c) (xl2 : xcs.length ≤ 4000) (k0 : ¬ k < (0 : Int32) ∧ ¬ (255 : Int32) < k) :
    own_Met l Z (⟨"java/lang/String", "indexOf", "(II)I"⟩ : MethodName) jdk_42_method_80_code 3 (some .int) ({ frames := 2, cells := 0, slots := 0, locals := 32 } : Room) n0 #[(.ref x), (.int k), (.int (0 : Int32))] h0 (fun v h => ∃ r : Int32, v = some (.int r) ∧ h = h0 ∧ own_IO r xcs k) := by
  refine own_met (by decide +kernel) #[.val (.ref x), .val (.int k), .val (.int (0 : Int32))] (fun m => by first | (simp [entryFrame, mkF, argsToLocals, Value.category]; done) | rfl) ?_
  intro p e s m below meth c T0 C S0
  refine own_seg C S0 [(0, .aload_n 0, 1)] (by decide +kernel) 1 #[.val (.ref x), .val (.int k), .val (.int (0 : Int32))] [(.ref x)] rfl ?_
  refine own_callV C S0 (own_wd hw 69 rfl) (own_wd hw 70 rfl) (own_wd hw 72 rfl) (y' := ⟨"java/lang/String", "isLatin1", "()Z"⟩) rfl (own_wd hw 72 rfl) (own_wd hw 71 rfl) (by decide) (own_Met.pay (own_isL l Z a0 hw G1 G3 x h0 n0 z0 X00 xC O2 O4 P5 rG3) C 0 (own_wd hw 73 rfl) (own_wd hw 8 rfl) (by decide) (by decide)) (fun _ _ _ q => q.2) xE [] [] rfl own_pd3 rfl rfl rfl (Nat.le_of_ble_eq_true rfl) (by decide) (by decide) (by decide +kernel) ?_
  rintro T54 h55 v56 L57 S58 ⟨⟨rfl, e53⟩, -⟩
  replace S58 : own_S p l e ({ frames := 2, cells := 0, slots := 0, locals := 32 } : Room) s m #[(.ref x), (.int k), (.int (0 : Int32))] below meth c n0 T54 h55 0 0 := S58
  rw [e53] at S58; clear e53
  show own_Go p e below _ T54 (mkF m 4 #[.val (.ref x), .val (.int k), .val (.int (0 : Int32))] [(.int (1 : Int32))])
  refine own_if C S58 (q := .eq) (o := 19) (by decide +kernel) 23 (by decide) (by decide) (fun (hq : (1 : Int32) = (0 : Int32)) => False.elim (absurd hq (by decide))) (fun (q59 : ¬ (1 : Int32) = (0 : Int32)) => ?_)
  refine own_seg C S58 [(7, .aload_n 0, 1)] (by decide +kernel) 8 #[.val (.ref x), .val (.int k), .val (.int (0 : Int32))] [(.ref x)] rfl ?_
  refine own_getF C S58 (host := "") (Or.inl (own_wd hw 33 rfl)) Via.refl xV (by decide +kernel) ?_
  intro T60 S61
  refine own_seg C S61 [(11, .iload_n 1, 1), (12, .iload_n 2, 1), (13, .aload_n 0, 1)] (by decide +kernel) 14 #[.val (.ref x), .val (.int k), .val (.int (0 : Int32))] [(.ref x), (.int (0 : Int32)), (.int k), (.ref xt)] rfl ?_
  refine own_callV C S61 (own_wd hw 74 rfl) (own_wd hw 75 rfl) (own_wd hw 77 rfl) (y' := ⟨"java/lang/String", "length", "()I"⟩) rfl (own_wd hw 77 rfl) (own_wd hw 76 rfl) (by decide) (Q := (fun v h' L => v = some (.int (Int32.ofNat (xcs).length)) ∧ L = [] ∧ h' = h0)) (StrChars.Road.lenW (W := 3) C.2.2.2.2.2.2.2 (fun d hd => hw d (own_hln d hd)) (kI := 4) (own_wd hw 7 rfl) xE xV xC xK xcd (own_up _ xhp) (O2.ext X00.2) P5 xl2 (by decide) (by decide)) (fun _ _ L q => by rw [q.2.1]; exact Fr.nil _) xE [] [(.int (0 : Int32)), (.int k), (.ref xt)] rfl own_pd4 rfl rfl rfl (Nat.le_of_ble_eq_true rfl) (by decide) (by decide) (by decide +kernel) ?_
  rintro T63 h64 v65 L66 S67 ⟨rfl, -, e62⟩
  replace S67 : own_S p l e ({ frames := 2, cells := 0, slots := 0, locals := 32 } : Room) s m #[(.ref x), (.int k), (.int (0 : Int32))] below meth c n0 T63 h64 0 0 := S67
  rw [e62] at S67; clear e62
  rw [(own_cod xcd).1]
  show own_Go p e below _ T63 (mkF m 17 #[.val (.ref x), .val (.int k), .val (.int (0 : Int32))] [(.int xN), (.int (0 : Int32)), (.int k), (.ref xt)])
  refine own_callS C S67 (own_wd hw 84 rfl) (own_wd hw 85 rfl) (own_wd hw 86 rfl) (own_wd hw 87 rfl) (by decide) (own_Met.pay (own_l1io l Z a0 hw xt xk xN xvs xcs k h0 n0 z0 xK xcd xhp xl2 k0) C 0 (own_wd hw 87 rfl) (own_wd hw 86 rfl) (by decide) (by decide)) (fun _ _ _ q => q.2) [(.ref xt), (.int k), (.int (0 : Int32)), (.int xN)] [] rfl own_pd2 rfl rfl rfl (Nat.le_of_ble_eq_true rfl) (by decide) (by decide) (by decide +kernel) ?_
  rintro T71 h72 v73 L74 S75 ⟨⟨y68, rfl, e69, p70⟩, -⟩
  replace S75 : own_S p l e ({ frames := 2, cells := 0, slots := 0, locals := 32 } : Room) s m #[(.ref x), (.int k), (.int (0 : Int32))] below meth c n0 T71 h72 0 0 := S75
  rw [e69] at S75; clear e69
  show own_Go p e below _ T71 (mkF m 20 #[.val (.ref x), .val (.int k), .val (.int (0 : Int32))] [(.int y68)])
  refine own_seg C S75 [(20, .goto 16, 3)] (by decide +kernel) 36 #[.val (.ref x), .val (.int k), .val (.int (0 : Int32))] [(.int y68)] rfl ?_
  refine own_retI C S75 (by decide +kernel) (by decide) (by decide) ?_
  exact ⟨y68, rfl, rfl, p70⟩
set_option maxRecDepth 65536 in
set_option maxHeartbeats 40000000 in
theorem own_io (l : Launch) (Z : State) (a0 : Array Value) (hw : ∀ d ∈ tables_1, d.before a0 Z = true) (G1 : Int32) (G3 : Value) (x : Addr) (xt : Addr) (xk : ClassId) (xN : Int32) (xvs : List Value) (xcs : List Int32) (k : Int32) (h0 : Heap) (n0 : Nat) (z0 : n0 ≤ h0.size) (X00 : Old Z n0 h0) (xE : Exa Z h0 x "java/lang/String") (xV : Fld Z h0 x "java/lang/String" "value" "[B" (.ref xt)) (xC : Fld Z h0 x "java/lang/String" "coder" "B" (.int 0)) (xK : Arv Z h0 xt xk .byte xN xvs (.int 0)) (O2 : Sta Z Z.heap "java/lang/String" "COMPACT_STRINGS" "Z" (.int G1)) (O4 : Sta Z Z.heap "jdk/internal/util/Preconditions" "SIOOBE_FORMATTER" "Ljava/util/function/BiFunction;" G3) (P5 : ¬ G1 = (0 : Int32)) (rG3 : G3.isRef = true) (xcd : StrChars.Road.CodA xcs 0 xN xvs) (xhp : ∀ c ∈ xcs, ¬ c < 0 ∧ ¬ (255 : Int32) < c) (xl2 : xcs.length ≤ 4000) (k0 : ¬ k < (0 : Int32) ∧ ¬ (255 : Int32) < k) :
    own_Met l Z (⟨"java/lang/String", "indexOf", "(I)I"⟩ : MethodName) jdk_42_method_79_code 2 (some .int) ({ frames := 3, cells := 0, slots := 0, locals := 46 } : Room) n0 #[(.ref x), (.int k)] h0 (fun v h => ∃ r : Int32, v = some (.int r) ∧ h = h0 ∧ own_IO r xcs k) := by
  refine own_met (by decide +kernel) #[.val (.ref x), .val (.int k)] (fun m => by first | (simp [entryFrame, mkF, argsToLocals, Value.category]; done) | rfl) ?_
  intro p e s m below meth c T0 C S0
  refine own_seg C S0 [(0, .aload_n 0, 1), (1, .iload_n 1, 1), (2, .iconst 0, 1)] (by decide +kernel) 3 #[.val (.ref x), .val (.int k)] [(.int (0 : Int32)), (.int k), (.ref x)] rfl ?_
  refine own_callV C S0 (own_wd hw 64 rfl) (own_wd hw 65 rfl) (own_wd hw 67 rfl) (y' := ⟨"java/lang/String", "indexOf", "(II)I"⟩) rfl (own_wd hw 67 rfl) (own_wd hw 66 rfl) (by decide) (own_Met.pay (own_io2 l Z a0 hw G1 G3 x xt xk xN xvs xcs k h0 n0 z0 X00 xE xV xC xK O2 O4 P5 rG3 xcd xhp xl2 k0) C 0 (own_wd hw 68 rfl) (own_wd hw 8 rfl) (by decide) (by decide)) (fun _ _ _ q => q.2) xE [(.int k), (.int (0 : Int32))] [] rfl own_pd1 rfl rfl rfl (Nat.le_of_ble_eq_true rfl) (by decide) (by decide) (by decide +kernel) ?_
  rintro T79 h80 v81 L82 S83 ⟨⟨y76, rfl, e77, p78⟩, -⟩
  replace S83 : own_S p l e ({ frames := 3, cells := 0, slots := 0, locals := 46 } : Room) s m #[(.ref x), (.int k)] below meth c n0 T79 h80 0 0 := S83
  rw [e77] at S83; clear e77
  show own_Go p e below _ T79 (mkF m 6 #[.val (.ref x), .val (.int k)] [(.int y76)])
  refine own_retI C S83 (by decide +kernel) (by decide) (by decide) ?_
  exact ⟨y76, rfl, rfl, p78⟩
theorem own_fd0 : parseFieldDescriptor "[B" = some (.array .byte) := by decide +kernel
theorem own_fd1 : parseFieldDescriptor "B" = some .byte := by decide +kernel
theorem own_sn0 {Z : State} {a0 : Array Value} (hw : ∀ d ∈ tables_1, d.before a0 Z = true) : Jvm.RoadKit.slotOf Z "java/lang/AbstractStringBuilder" "coder" "B" ≠ Jvm.RoadKit.slotOf Z "java/lang/AbstractStringBuilder" "value" "[B" := slot_ne (Or.inl (own_wd hw 136 rfl)) (Or.inl (own_wd hw 134 rfl)) (by decide) own_fd1 own_fd0
theorem own_sn1 {Z : State} {a0 : Array Value} (hw : ∀ d ∈ tables_1, d.before a0 Z = true) : Jvm.RoadKit.slotOf Z "java/lang/AbstractStringBuilder" "value" "[B" ≠ Jvm.RoadKit.slotOf Z "java/lang/AbstractStringBuilder" "coder" "B" := slot_ne (Or.inl (own_wd hw 134 rfl)) (Or.inl (own_wd hw 136 rfl)) (by decide) own_fd0 own_fd1
theorem own_fd2 : parseFieldDescriptor "I" = some .int := by decide +kernel
theorem own_sn2 {Z : State} {a0 : Array Value} (hw : ∀ d ∈ tables_1, d.before a0 Z = true) : Jvm.RoadKit.slotOf Z "java/lang/AbstractStringBuilder" "count" "I" ≠ Jvm.RoadKit.slotOf Z "java/lang/AbstractStringBuilder" "value" "[B" := slot_ne (Or.inl (own_wd hw 150 rfl)) (Or.inl (own_wd hw 134 rfl)) (by decide) own_fd2 own_fd0
theorem own_sn3 {Z : State} {a0 : Array Value} (hw : ∀ d ∈ tables_1, d.before a0 Z = true) : Jvm.RoadKit.slotOf Z "java/lang/AbstractStringBuilder" "count" "I" ≠ Jvm.RoadKit.slotOf Z "java/lang/AbstractStringBuilder" "coder" "B" := slot_ne (Or.inl (own_wd hw 150 rfl)) (Or.inl (own_wd hw 136 rfl)) (by decide) own_fd2 own_fd1
set_option maxRecDepth 65536 in
set_option maxHeartbeats 40000000 in
theorem own_asbI (l : Launch) (Z : State) (a0 : Array Value) (hw : ∀ d ∈ tables_1, d.before a0 Z = true) (G1 : Int32) (G3 : Value) (a : Addr) (h0 : Heap) (n0 : Nat) (z0 : n0 ≤ h0.size) (ge_a : n0 ≤ a) (X00 : Old Z n0 h0) (aE : Exa Z h0 a "java/lang/StringBuilder") (aV : Fld Z h0 a "java/lang/AbstractStringBuilder" "value" "[B" .null) (aC : Fld Z h0 a "java/lang/AbstractStringBuilder" "coder" "B" (.int (0 : Int32))) (aN : Fld Z h0 a "java/lang/AbstractStringBuilder" "count" "I" (.int (0 : Int32))) (O2 : Sta Z Z.heap "java/lang/String" "COMPACT_STRINGS" "Z" (.int G1)) (O4 : Sta Z Z.heap "jdk/internal/util/Preconditions" "SIOOBE_FORMATTER" "Ljava/util/function/BiFunction;" G3) (P5 : ¬ G1 = (0 : Int32)) (rG3 : G3.isRef = true) :
    own_Met l Z (⟨"java/lang/AbstractStringBuilder", "<init>", "(I)V"⟩ : MethodName) jdk_68_method_2_code 2 none ({ frames := 1, cells := 1, slots := 16, locals := 12 } : Room) n0 #[(.ref a), (.int (16 : Int32))] h0 (fun v h => ∃ b : Addr, ∃ bk : ClassId, v = none ∧ h0.size ≤ b ∧ Keep h0 h [a] ∧ Exa Z h a "java/lang/StringBuilder" ∧ Fld Z h a "java/lang/AbstractStringBuilder" "value" "[B" (.ref b) ∧ Fld Z h a "java/lang/AbstractStringBuilder" "coder" "B" (.int (0 : Int32)) ∧ Fld Z h a "java/lang/AbstractStringBuilder" "count" "I" (.int (0 : Int32)) ∧ Arv Z h b bk .byte (16 : Int32) ([(.int (0 : Int32)), (.int (0 : Int32)), (.int (0 : Int32)), (.int (0 : Int32)), (.int (0 : Int32)), (.int (0 : Int32)), (.int (0 : Int32)), (.int (0 : Int32)), (.int (0 : Int32)), (.int (0 : Int32)), (.int (0 : Int32)), (.int (0 : Int32)), (.int (0 : Int32)), (.int (0 : Int32)), (.int (0 : Int32)), (.int (0 : Int32))]) (.int (0 : Int32))) := by
  refine own_met (by decide +kernel) #[.val (.ref a), .val (.int (16 : Int32))] (fun m => by first | (simp [entryFrame, mkF, argsToLocals, Value.category]; done) | rfl) ?_
  intro p e s m below meth c T0 C S0
  refine own_seg C S0 [(0, .aload_n 0, 1)] (by decide +kernel) 1 #[.val (.ref a), .val (.int (16 : Int32))] [(.ref a)] rfl ?_
  refine own_initO C S0 (own_wd hw 131 rfl) (own_wd hw 17 rfl) (own_wd hw 18 rfl) rfl (by decide +kernel) (by decide) 0 (Nat.le_of_ble_eq_true rfl) (by decide) ?_
  intro T84 S85
  refine own_getS C S85 (own_wd hw 132 rfl) Via.refl (O2.ext X00.2) (by decide +kernel) ?_
  intro T86 S87
  refine own_if C S87 (q := .eq) (o := 18) (by decide +kernel) 25 (by decide) (by decide) (fun (hq : G1 = (0 : Int32)) => False.elim (P5 hq)) (fun (q88 : ¬ G1 = (0 : Int32)) => ?_)
  refine own_seg C S87 [(10, .aload_n 0, 1), (11, .iload_n 1, 1)] (by decide +kernel) 12 #[.val (.ref a), .val (.int (16 : Int32))] [(.int (16 : Int32)), (.ref a)] rfl ?_
  refine own_newP C S87 (aty := .byte) (own_wd hw 24 rfl) (by decide +kernel) (by decide) 16 (by decide) (by decide) (by decide) (by decide) ?_
  intro T89 h91 a92 k93 S90 g94 E95 f96
  have f97 : Arv Z h91 a92 k93 .byte (16 : Int32) ([(.int (0 : Int32)), (.int (0 : Int32)), (.int (0 : Int32)), (.int (0 : Int32)), (.int (0 : Int32)), (.int (0 : Int32)), (.int (0 : Int32)), (.int (0 : Int32)), (.int (0 : Int32)), (.int (0 : Int32)), (.int (0 : Int32)), (.int (0 : Int32)), (.int (0 : Int32)), (.int (0 : Int32)), (.int (0 : Int32)), (.int (0 : Int32))]) (.int (0 : Int32)) := Arv.pad f96 (pad_rep [] (.int (0 : Int32)) 16)
  have f98 : Fld Z h91 a "java/lang/AbstractStringBuilder" "value" "[B" .null := (Fld.ext E95 aV)
  have f99 : Exa Z h91 a "java/lang/StringBuilder" := (Exa.ext E95 aE)
  refine own_putF C S90 (ty := (.array .byte)) (host := "") (Or.inl (own_wd hw 133 rfl)) Via.refl f98 f99 (Or.inl (own_wd hw 134 rfl)) (own_wd hw 120 rfl) own_fd0 rfl rfl ge_a (by decide +kernel) ?_
  intro T100 h102 S101 W103
  have f104 : Fld Z h102 a "java/lang/AbstractStringBuilder" "value" "[B" (.ref a92) := Fld.same W103 f98
  refine own_seg C S101 [(17, .aload_n 0, 1), (18, .iconst 0, 1)] (by decide +kernel) 19 #[.val (.ref a), .val (.int (16 : Int32))] [(.int (0 : Int32)), (.ref a)] rfl ?_
  have f105 : Fld Z h102 a "java/lang/AbstractStringBuilder" "coder" "B" (.int (0 : Int32)) := (Fld.other W103 (Fld.ext E95 aC) (Or.inr (own_sn0 hw)))
  have f106 : Exa Z h102 a "java/lang/StringBuilder" := (Exa.wr W103 f99)
  refine own_putF C S101 (ty := .byte) (host := "") (Or.inl (own_wd hw 135 rfl)) Via.refl f105 f106 (Or.inl (own_wd hw 136 rfl)) (own_wd hw 120 rfl) own_fd1 rfl rfl ge_a (by decide +kernel) ?_
  intro T107 h109 S108 W110
  have f111 : Fld Z h109 a "java/lang/AbstractStringBuilder" "coder" "B" (.int (0 : Int32)) := Fld.same W110 f105
  refine own_seg C S108 [(22, .goto 16, 3)] (by decide +kernel) 38 #[.val (.ref a), .val (.int (16 : Int32))] [] rfl ?_
  refine own_retV C S108 (by decide +kernel) (by decide) (by decide) ?_
  have f112 : Exa Z h109 a "java/lang/StringBuilder" := (Exa.wr W110 f106)
  have f113 : Fld Z h109 a "java/lang/AbstractStringBuilder" "value" "[B" (.ref a92) := (Fld.other W110 f104 (Or.inr (own_sn1 hw)))
  have f114 : Fld Z h109 a "java/lang/AbstractStringBuilder" "count" "I" (.int (0 : Int32)) := (Fld.other W110 (Fld.other W103 (Fld.ext E95 aN) (Or.inr (own_sn2 hw))) (Or.inr (own_sn3 hw)))
  have n115 : a ≠ a92 := by rw [g94]; exact Nat.ne_of_lt aE.lt
  have f116 : Arv Z h109 a92 k93 .byte (16 : Int32) ([(.int (0 : Int32)), (.int (0 : Int32)), (.int (0 : Int32)), (.int (0 : Int32)), (.int (0 : Int32)), (.int (0 : Int32)), (.int (0 : Int32)), (.int (0 : Int32)), (.int (0 : Int32)), (.int (0 : Int32)), (.int (0 : Int32)), (.int (0 : Int32)), (.int (0 : Int32)), (.int (0 : Int32)), (.int (0 : Int32)), (.int (0 : Int32))]) (.int (0 : Int32)) := ((f97.other W103 (Ne.symm n115)).other W110 (Ne.symm n115))
  exact ⟨a92, k93, rfl, (by rw [g94]; exact (Nat.le_refl _)), ((((Keep.refl _ _).ext E95).wr W103 (Or.inl (List.mem_of_getElem? (i := 0) rfl))).wr W110 (Or.inl (List.mem_of_getElem? (i := 0) rfl))), f112, f113, f111, f114, f116⟩
theorem own_pd5 : parseMethodDescriptor "(I)V" = some ⟨[.int], none⟩ := by decide +kernel
set_option maxRecDepth 65536 in
set_option maxHeartbeats 40000000 in
theorem own_sbI (l : Launch) (Z : State) (a0 : Array Value) (hw : ∀ d ∈ tables_1, d.before a0 Z = true) (G1 : Int32) (G3 : Value) (a : Addr) (h0 : Heap) (n0 : Nat) (z0 : n0 ≤ h0.size) (ge_a : n0 ≤ a) (X00 : Old Z n0 h0) (aE : Exa Z h0 a "java/lang/StringBuilder") (aV : Fld Z h0 a "java/lang/AbstractStringBuilder" "value" "[B" .null) (aC : Fld Z h0 a "java/lang/AbstractStringBuilder" "coder" "B" (.int (0 : Int32))) (aN : Fld Z h0 a "java/lang/AbstractStringBuilder" "count" "I" (.int (0 : Int32))) (O2 : Sta Z Z.heap "java/lang/String" "COMPACT_STRINGS" "Z" (.int G1)) (O4 : Sta Z Z.heap "jdk/internal/util/Preconditions" "SIOOBE_FORMATTER" "Ljava/util/function/BiFunction;" G3) (P5 : ¬ G1 = (0 : Int32)) (rG3 : G3.isRef = true) :
    own_Met l Z (⟨"java/lang/StringBuilder", "<init>", "()V"⟩ : MethodName) jdk_67_method_1_code 1 none ({ frames := 2, cells := 1, slots := 16, locals := 25 } : Room) n0 #[(.ref a)] h0 (fun v h => ∃ b : Addr, ∃ bk : ClassId, v = none ∧ h0.size ≤ b ∧ Keep h0 h [a] ∧ Exa Z h a "java/lang/StringBuilder" ∧ Fld Z h a "java/lang/AbstractStringBuilder" "value" "[B" (.ref b) ∧ Fld Z h a "java/lang/AbstractStringBuilder" "coder" "B" (.int (0 : Int32)) ∧ Fld Z h a "java/lang/AbstractStringBuilder" "count" "I" (.int (0 : Int32)) ∧ Arv Z h b bk .byte (16 : Int32) ([(.int (0 : Int32)), (.int (0 : Int32)), (.int (0 : Int32)), (.int (0 : Int32)), (.int (0 : Int32)), (.int (0 : Int32)), (.int (0 : Int32)), (.int (0 : Int32)), (.int (0 : Int32)), (.int (0 : Int32)), (.int (0 : Int32)), (.int (0 : Int32)), (.int (0 : Int32)), (.int (0 : Int32)), (.int (0 : Int32)), (.int (0 : Int32))]) (.int (0 : Int32))) := by
  refine own_met (by decide +kernel) #[.val (.ref a)] (fun m => by first | (simp [entryFrame, mkF, argsToLocals, Value.category]; done) | rfl) ?_
  intro p e s m below meth c T0 C S0
  refine own_seg C S0 [(0, .aload_n 0, 1), (1, .bipush 16, 2)] (by decide +kernel) 3 #[.val (.ref a)] [(.int (16 : Int32)), (.ref a)] rfl ?_
  refine own_callI C S0 rfl (own_wd hw 125 rfl) (own_wd hw 126 rfl) (own_wd hw 130 rfl) (by decide) (own_Met.pay (own_asbI l Z a0 hw G1 G3 a h0 n0 z0 ge_a X00 aE aV aC aN O2 O4 P5 rG3) C 0 (own_wd hw 130 rfl) (own_wd hw 129 rfl) (by decide) (by decide)) (fun _ _ _ q => q.2) [(.int (16 : Int32))] [] rfl own_pd5 rfl rfl rfl (Nat.le_of_ble_eq_true rfl) (by decide) (by decide) (by decide +kernel) ?_
  rintro T126 h127 v128 L129 S130 ⟨⟨a117, k118, rfl, g119, K120, f121, f122, f123, f124, f125⟩, -⟩
  replace S130 : own_S p l e ({ frames := 2, cells := 1, slots := 16, locals := 25 } : Room) s m #[(.ref a)] below meth c n0 T126 h127 1 16 := S130
  show own_Go p e below _ T126 (mkF m 6 #[.val (.ref a)] [])
  refine own_retV C S130 (by decide +kernel) (by decide) (by decide) ?_
  exact ⟨a117, k118, rfl, (Nat.le_trans (Nat.le_refl _) g119), ((Keep.refl _ _).trans K120 (allS (Or.inl (List.mem_of_getElem? (i := 0) rfl)) all0)), f121, f122, f123, f124, f125⟩
set_option maxRecDepth 65536 in
set_option maxHeartbeats 40000000 in
theorem own_ens (l : Launch) (Z : State) (a0 : Array Value) (hw : ∀ d ∈ tables_1, d.before a0 Z = true) (a : Addr) (mn : Int32) (b : Addr) (bk : ClassId) (bN : Int32) (bvs : List Value) (h0 : Heap) (n0 : Nat) (z0 : n0 ≤ h0.size) (aE : Exa Z h0 a "java/lang/StringBuilder") (aV : Fld Z h0 a "java/lang/AbstractStringBuilder" "value" "[B" (.ref b)) (aC : Fld Z h0 a "java/lang/AbstractStringBuilder" "coder" "B" (.int (0 : Int32))) (bK : Arv Z h0 b bk .byte bN bvs (.int (0 : Int32))) (hle : ¬ (0 : Int32) < (mn - bN)) :
    own_Met l Z (⟨"java/lang/AbstractStringBuilder", "ensureCapacityInternal", "(I)V"⟩ : MethodName) jdk_68_method_9_code 3 none ({ frames := 0, cells := 0, slots := 0, locals := 0 } : Room) n0 #[(.ref a), (.int mn)] h0 (fun v h => v = none ∧ h = h0) := by
  refine own_met (by decide +kernel) #[.val (.ref a), .val (.int mn), .unset] (fun m => by first | (simp [entryFrame, mkF, argsToLocals, Value.category]; done) | rfl) ?_
  intro p e s m below meth c T0 C S0
  refine own_seg C S0 [(0, .aload_n 0, 1)] (by decide +kernel) 1 #[.val (.ref a), .val (.int mn), .unset] [(.ref a)] rfl ?_
  refine own_getF C S0 (host := "") (Or.inl (own_wd hw 133 rfl)) Via.refl aV (by decide +kernel) ?_
  intro T131 S132
  refine own_alen C S132 bK (by decide +kernel) ?_
  refine own_seg C S132 [(5, .aload_n 0, 1)] (by decide +kernel) 6 #[.val (.ref a), .val (.int mn), .unset] [(.ref a), (.int bN)] rfl ?_
  refine own_getF C S132 (host := "") (Or.inl (own_wd hw 135 rfl)) Via.refl aC (by decide +kernel) ?_
  intro T133 S134
  refine own_seg C S134 [(9, .ishr, 1)] (by decide +kernel) 10 #[.val (.ref a), .val (.int mn), .unset] [(.int (bN >>> ((0 : Int32) &&& 31)))] rfl ?_
  rw [show (bN >>> ((0 : Int32) &&& 31)) = bN from own_shr0 _]
  refine own_seg C S134 [(10, .istore_n 2, 1), (11, .iload_n 1, 1), (12, .iload_n 2, 1), (13, .isub, 1)] (by decide +kernel) 14 #[.val (.ref a), .val (.int mn), .val (.int bN)] [(.int (mn - bN))] rfl ?_
  refine own_if C S134 (q := .le) (o := 24) (by decide +kernel) 38 (by decide) (by decide) (fun (q135 : ¬ (0 : Int32) < (mn - bN)) => ?_) (fun (hq : (0 : Int32) < (mn - bN)) => False.elim (hle hq))
  refine own_retV C S134 (by decide +kernel) (by decide) (by decide) ?_
  exact ⟨rfl, rfl⟩
theorem own_pd6 : parseMethodDescriptor "()B" = some ⟨[], (some .byte)⟩ := by decide +kernel
set_option maxRecDepth 65536 in
set_option maxHeartbeats 40000000 in
theorem own_infl (l : Launch) (Z : State) (a0 : Array Value) (hw : ∀ d ∈ tables_1, d.before a0 Z = true) (G1 : Int32) (G3 : Value) (a : Addr) (x : Addr) (h0 : Heap) (n0 : Nat) (z0 : n0 ≤ h0.size) (X00 : Old Z n0 h0) (aC : Fld Z h0 a "java/lang/AbstractStringBuilder" "coder" "B" (.int (0 : Int32))) (xE : Exa Z h0 x "java/lang/String") (xC : Fld Z h0 x "java/lang/String" "coder" "B" (.int 0)) (O2 : Sta Z Z.heap "java/lang/String" "COMPACT_STRINGS" "Z" (.int G1)) (O4 : Sta Z Z.heap "jdk/internal/util/Preconditions" "SIOOBE_FORMATTER" "Ljava/util/function/BiFunction;" G3) (P5 : ¬ G1 = (0 : Int32)) (rG3 : G3.isRef = true) :
    own_Met l Z (⟨"java/lang/AbstractStringBuilder", "inflateIfNeededFor", "(Ljava/lang/String;)V"⟩ : MethodName) jdk_68_method_71_code 2 none ({ frames := 1, cells := 0, slots := 0, locals := 13 } : Room) n0 #[(.ref a), (.ref x)] h0 (fun v h => v = none ∧ h = h0) := by
  refine own_met (by decide +kernel) #[.val (.ref a), .val (.ref x)] (fun m => by first | (simp [entryFrame, mkF, argsToLocals, Value.category]; done) | rfl) ?_
  intro p e s m below meth c T0 C S0
  refine own_getS C S0 (own_wd hw 132 rfl) Via.refl (O2.ext X00.2) (by decide +kernel) ?_
  intro T136 S137
  refine own_if C S137 (q := .eq) (o := 18) (by decide +kernel) 21 (by decide) (by decide) (fun (hq : G1 = (0 : Int32)) => False.elim (P5 hq)) (fun (q138 : ¬ G1 = (0 : Int32)) => ?_)
  refine own_seg C S137 [(6, .aload_n 0, 1)] (by decide +kernel) 7 #[.val (.ref a), .val (.ref x)] [(.ref a)] rfl ?_
  refine own_getF C S137 (host := "") (Or.inl (own_wd hw 135 rfl)) Via.refl aC (by decide +kernel) ?_
  intro T139 S140
  refine own_seg C S140 [(10, .aload_n 1, 1)] (by decide +kernel) 11 #[.val (.ref a), .val (.ref x)] [(.ref x), (.int (0 : Int32))] rfl ?_
  refine own_callV C S140 (own_wd hw 187 rfl) (own_wd hw 80 rfl) (own_wd hw 82 rfl) (y' := ⟨"java/lang/String", "coder", "()B"⟩) rfl (own_wd hw 82 rfl) (own_wd hw 81 rfl) (by decide) (own_Met.pay (own_coder l Z a0 hw G1 G3 x h0 n0 z0 X00 xC O2 O4 P5 rG3) C 1 (own_wd hw 83 rfl) (own_wd hw 8 rfl) (by decide) (by decide)) (fun _ _ _ q => q.2) xE [] [(.int (0 : Int32))] rfl own_pd6 rfl rfl rfl (Nat.le_of_ble_eq_true rfl) (by decide) (by decide) (by decide +kernel) ?_
  rintro T142 h143 v144 L145 S146 ⟨⟨rfl, e141⟩, -⟩
  replace S146 : own_S p l e ({ frames := 1, cells := 0, slots := 0, locals := 13 } : Room) s m #[(.ref a), (.ref x)] below meth c n0 T142 h143 0 0 := S146
  rw [e141] at S146; clear e141
  show own_Go p e below _ T142 (mkF m 14 #[.val (.ref a), .val (.ref x)] [(.int 0), (.int (0 : Int32))])
  refine own_icmp C S146 (q := .eq) (o := 7) (by decide +kernel) 21 (by decide) (by decide) (fun (q147 : (0 : Int32) = 0) => ?_) (fun (hq : ¬ (0 : Int32) = 0) => False.elim (hq rfl))
  refine own_retV C S146 (by decide +kernel) (by decide) (by decide) ?_
  exact ⟨rfl, rfl⟩
set_option maxRecDepth 65536 in
set_option maxHeartbeats 40000000 in
theorem own_gb (l : Launch) (Z : State) (a0 : Array Value) (hw : ∀ d ∈ tables_1, d.before a0 Z = true) (G1 : Int32) (G3 : Value) (x : Addr) (xt : Addr) (xk : ClassId) (xN : Int32) (xvs : List Value) (xcs : List Int32) (b : Addr) (bk : ClassId) (bN : Int32) (bvs : List Value) (off : Int32) (us : List Value) (h0 : Heap) (n0 : Nat) (z0 : n0 ≤ h0.size) (ge_b : n0 ≤ b) (X00 : Old Z n0 h0) (xE : Exa Z h0 x "java/lang/String") (xV : Fld Z h0 x "java/lang/String" "value" "[B" (.ref xt)) (xC : Fld Z h0 x "java/lang/String" "coder" "B" (.int 0)) (xK : Arv Z h0 xt xk .byte xN xvs (.int 0)) (bK : Arv Z h0 b bk .byte bN bvs (.int (0 : Int32))) (O2 : Sta Z Z.heap "java/lang/String" "COMPACT_STRINGS" "Z" (.int G1)) (O4 : Sta Z Z.heap "jdk/internal/util/Preconditions" "SIOOBE_FORMATTER" "Ljava/util/function/BiFunction;" G3) (P5 : ¬ G1 = (0 : Int32)) (rG3 : G3.isRef = true) (xcd : StrChars.Road.CodA xcs 0 xN xvs) (xhp : ∀ c ∈ xcs, ¬ c < 0 ∧ ¬ (255 : Int32) < c) (xl2 : xcs.length ≤ 4000) (c3 : ¬ xN < 0) (c2 : ¬ off < 0) (c5 : off.toNatClampNeg + xN.toNatClampNeg ≤ bN.toNatClampNeg) (cl : off.toNatClampNeg + xN.toNatClampNeg ≤ bvs.length) (cu : bvs.take off.toNatClampNeg ++ ((List.range xN.toNatClampNeg).map fun i => xvs.getD ((0 : Int32).toNatClampNeg + i) (.int 0)) ++ bvs.drop (off.toNatClampNeg + xN.toNatClampNeg) = us) :
    own_Met l Z (⟨"java/lang/String", "getBytes", "([BIB)V"⟩ : MethodName) jdk_42_method_147_code 4 none ({ frames := 1, cells := 0, slots := 0, locals := 18 } : Room) n0 #[(.ref x), (.ref b), (.int off), (.int (0 : Int32))] h0 (fun v h => v = none ∧ Keep h0 h [b] ∧ Arv Z h b bk .byte bN us (.int (0 : Int32))) := by
  refine own_met (by decide +kernel) #[.val (.ref x), .val (.ref b), .val (.int off), .val (.int (0 : Int32))] (fun m => by first | (simp [entryFrame, mkF, argsToLocals, Value.category]; done) | rfl) ?_
  intro p e s m below meth c T0 C S0
  refine own_seg C S0 [(0, .aload_n 0, 1)] (by decide +kernel) 1 #[.val (.ref x), .val (.ref b), .val (.int off), .val (.int (0 : Int32))] [(.ref x)] rfl ?_
  refine own_callV C S0 (own_wd hw 79 rfl) (own_wd hw 80 rfl) (own_wd hw 82 rfl) (y' := ⟨"java/lang/String", "coder", "()B"⟩) rfl (own_wd hw 82 rfl) (own_wd hw 81 rfl) (by decide) (own_Met.pay (own_coder l Z a0 hw G1 G3 x h0 n0 z0 X00 xC O2 O4 P5 rG3) C 0 (own_wd hw 83 rfl) (own_wd hw 8 rfl) (by decide) (by decide)) (fun _ _ _ q => q.2) xE [] [] rfl own_pd6 rfl rfl rfl (Nat.le_of_ble_eq_true rfl) (by decide) (by decide) (by decide +kernel) ?_
  rintro T149 h150 v151 L152 S153 ⟨⟨rfl, e148⟩, -⟩
  replace S153 : own_S p l e ({ frames := 1, cells := 0, slots := 0, locals := 18 } : Room) s m #[(.ref x), (.ref b), (.int off), (.int (0 : Int32))] below meth c n0 T149 h150 0 0 := S153
  rw [e148] at S153; clear e148
  show own_Go p e below _ T149 (mkF m 4 #[.val (.ref x), .val (.ref b), .val (.int off), .val (.int (0 : Int32))] [(.int 0)])
  refine own_seg C S153 [(4, .iload_n 3, 1)] (by decide +kernel) 5 #[.val (.ref x), .val (.ref b), .val (.int off), .val (.int (0 : Int32))] [(.int (0 : Int32)), (.int 0)] rfl ?_
  refine own_icmp C S153 (q := .ne) (o := 23) (by decide +kernel) 28 (by decide) (by decide) (fun (hq : ¬ 0 = (0 : Int32)) => False.elim (hq rfl)) (fun (q154 : 0 = (0 : Int32)) => ?_)
  refine own_seg C S153 [(8, .aload_n 0, 1)] (by decide +kernel) 9 #[.val (.ref x), .val (.ref b), .val (.int off), .val (.int (0 : Int32))] [(.ref x)] rfl ?_
  refine own_getF C S153 (host := "") (Or.inl (own_wd hw 33 rfl)) Via.refl xV (by decide +kernel) ?_
  intro T155 S156
  refine own_seg C S156 [(12, .iconst 0, 1), (13, .aload_n 1, 1), (14, .iload_n 2, 1), (15, .iload_n 3, 1)] (by decide +kernel) 16 #[.val (.ref x), .val (.ref b), .val (.int off), .val (.int (0 : Int32))] [(.int (0 : Int32)), (.int off), (.ref b), (.int (0 : Int32)), (.ref xt)] rfl ?_
  refine own_seg C S156 [(16, .ishl, 1)] (by decide +kernel) 17 #[.val (.ref x), .val (.ref b), .val (.int off), .val (.int (0 : Int32))] [(.int (off <<< ((0 : Int32) &&& 31))), (.ref b), (.int (0 : Int32)), (.ref xt)] rfl ?_
  rw [show (off <<< ((0 : Int32) &&& 31)) = off from own_shl0 _]
  refine own_seg C S156 [(17, .aload_n 0, 1)] (by decide +kernel) 18 #[.val (.ref x), .val (.ref b), .val (.int off), .val (.int (0 : Int32))] [(.ref x), (.int off), (.ref b), (.int (0 : Int32)), (.ref xt)] rfl ?_
  refine own_getF C S156 (host := "") (Or.inl (own_wd hw 33 rfl)) Via.refl xV (by decide +kernel) ?_
  intro T157 S158
  refine own_alen C S158 xK (by decide +kernel) ?_
  refine own_copy C S158 (own_wd hw 193 rfl) (own_wd hw 176 rfl) (own_wd hw 174 rfl) (own_wd hw 175 rfl) xK bK rfl (by decide) c2 c3 (Nat.le_of_eq (Nat.zero_add _)) c5 cl ge_b us cu rfl (by decide +kernel) (by decide) 0 (Nat.le_of_ble_eq_true rfl) (by decide) ?_
  intro T159 h161 S160 K162 f163
  refine own_seg C S160 [(25, .goto 18, 3)] (by decide +kernel) 43 #[.val (.ref x), .val (.ref b), .val (.int off), .val (.int (0 : Int32))] [] rfl ?_
  refine own_retV C S160 (by decide +kernel) (by decide) (by decide) ?_
  exact ⟨rfl, ((Keep.refl _ _).trans K162 (allS (Or.inl (List.mem_of_getElem? (i := 0) rfl)) all0)), f163⟩
theorem own_pd7 : parseMethodDescriptor "(Ljava/lang/String;)V" = some ⟨[(.object "java/lang/String")], none⟩ := by decide +kernel
theorem own_pd8 : parseMethodDescriptor "([BIB)V" = some ⟨[(.array .byte), .int, .byte], none⟩ := by decide +kernel
set_option maxRecDepth 65536 in
set_option maxHeartbeats 40000000 in
theorem own_put (l : Launch) (Z : State) (a0 : Array Value) (hw : ∀ d ∈ tables_1, d.before a0 Z = true) (G1 : Int32) (G3 : Value) (x : Addr) (xt : Addr) (xk : ClassId) (xN : Int32) (xvs : List Value) (xcs : List Int32) (a : Addr) (b : Addr) (bk : ClassId) (bN : Int32) (bvs : List Value) (off : Int32) (us : List Value) (h0 : Heap) (n0 : Nat) (z0 : n0 ≤ h0.size) (ge_b : n0 ≤ b) (X00 : Old Z n0 h0) (xE : Exa Z h0 x "java/lang/String") (xV : Fld Z h0 x "java/lang/String" "value" "[B" (.ref xt)) (xC : Fld Z h0 x "java/lang/String" "coder" "B" (.int 0)) (xK : Arv Z h0 xt xk .byte xN xvs (.int 0)) (aE : Exa Z h0 a "java/lang/StringBuilder") (aV : Fld Z h0 a "java/lang/AbstractStringBuilder" "value" "[B" (.ref b)) (aC : Fld Z h0 a "java/lang/AbstractStringBuilder" "coder" "B" (.int (0 : Int32))) (bK : Arv Z h0 b bk .byte bN bvs (.int (0 : Int32))) (O2 : Sta Z Z.heap "java/lang/String" "COMPACT_STRINGS" "Z" (.int G1)) (O4 : Sta Z Z.heap "jdk/internal/util/Preconditions" "SIOOBE_FORMATTER" "Ljava/util/function/BiFunction;" G3) (P5 : ¬ G1 = (0 : Int32)) (rG3 : G3.isRef = true) (xcd : StrChars.Road.CodA xcs 0 xN xvs) (xhp : ∀ c ∈ xcs, ¬ c < 0 ∧ ¬ (255 : Int32) < c) (xl2 : xcs.length ≤ 4000) (c3 : ¬ xN < 0) (c2 : ¬ off < 0) (c5 : off.toNatClampNeg + xN.toNatClampNeg ≤ bN.toNatClampNeg) (cl : off.toNatClampNeg + xN.toNatClampNeg ≤ bvs.length) (cu : bvs.take off.toNatClampNeg ++ ((List.range xN.toNatClampNeg).map fun i => xvs.getD ((0 : Int32).toNatClampNeg + i) (.int 0)) ++ bvs.drop (off.toNatClampNeg + xN.toNatClampNeg) = us) :
    own_Met l Z (⟨"java/lang/AbstractStringBuilder", "putStringAt", "(ILjava/lang/String;)V"⟩ : MethodName) jdk_68_method_73_code 3 none ({ frames := 2, cells := 0, slots := 0, locals := 33 } : Room) n0 #[(.ref a), (.int off), (.ref x)] h0 (fun v h => v = none ∧ Keep h0 h [b] ∧ Arv Z h b bk .byte bN us (.int (0 : Int32))) := by
  refine own_met (by decide +kernel) #[.val (.ref a), .val (.int off), .val (.ref x)] (fun m => by first | (simp [entryFrame, mkF, argsToLocals, Value.category]; done) | rfl) ?_
  intro p e s m below meth c T0 C S0
  refine own_seg C S0 [(0, .aload_n 0, 1), (1, .aload_n 2, 1)] (by decide +kernel) 2 #[.val (.ref a), .val (.int off), .val (.ref x)] [(.ref x), (.ref a)] rfl ?_
  refine own_callP C S0 (own_wd hw 182 rfl) (own_wd hw 183 rfl) (own_selfP (own_wd hw 183 rfl) (own_wd hw 184 rfl) (own_wd hw 185 rfl) (by decide)) (own_wd hw 184 rfl) (own_wd hw 186 rfl) (by decide) (own_Met.pay (own_infl l Z a0 hw G1 G3 a x h0 n0 z0 X00 aC xE xC O2 O4 P5 rG3) C 0 (own_wd hw 186 rfl) (own_wd hw 129 rfl) (by decide) (by decide)) (fun _ _ _ q => q.2) aE [(.ref x)] [] rfl own_pd7 rfl rfl rfl (Nat.le_of_ble_eq_true rfl) (by decide) (by decide) (by decide +kernel) ?_
  rintro T165 h166 v167 L168 S169 ⟨⟨rfl, e164⟩, -⟩
  replace S169 : own_S p l e ({ frames := 2, cells := 0, slots := 0, locals := 33 } : Room) s m #[(.ref a), (.int off), (.ref x)] below meth c n0 T165 h166 0 0 := S169
  rw [e164] at S169; clear e164
  show own_Go p e below _ T165 (mkF m 5 #[.val (.ref a), .val (.int off), .val (.ref x)] [])
  refine own_seg C S169 [(5, .aload_n 2, 1), (6, .aload_n 0, 1)] (by decide +kernel) 7 #[.val (.ref a), .val (.int off), .val (.ref x)] [(.ref a), (.ref x)] rfl ?_
  refine own_getF C S169 (host := "") (Or.inl (own_wd hw 133 rfl)) Via.refl aV (by decide +kernel) ?_
  intro T170 S171
  refine own_seg C S171 [(10, .iload_n 1, 1), (11, .aload_n 0, 1)] (by decide +kernel) 12 #[.val (.ref a), .val (.int off), .val (.ref x)] [(.ref a), (.int off), (.ref b), (.ref x)] rfl ?_
  refine own_getF C S171 (host := "") (Or.inl (own_wd hw 135 rfl)) Via.refl aC (by decide +kernel) ?_
  intro T172 S173
  refine own_callV C S173 (own_wd hw 188 rfl) (own_wd hw 189 rfl) (own_wd hw 191 rfl) (y' := ⟨"java/lang/String", "getBytes", "([BIB)V"⟩) rfl (own_wd hw 191 rfl) (own_wd hw 190 rfl) (by decide) (own_Met.pay (own_gb l Z a0 hw G1 G3 x xt xk xN xvs xcs b bk bN bvs off us h0 n0 z0 ge_b X00 xE xV xC xK bK O2 O4 P5 rG3 xcd xhp xl2 c3 c2 c5 cl cu) C 0 (own_wd hw 192 rfl) (own_wd hw 8 rfl) (by decide) (by decide)) (fun _ _ _ q => q.2) xE [(.ref b), (.int off), (.int (0 : Int32))] [] rfl own_pd8 rfl rfl rfl (Nat.le_of_ble_eq_true rfl) (by decide) (by decide) (by decide +kernel) ?_
  rintro T176 h177 v178 L179 S180 ⟨⟨rfl, K174, f175⟩, -⟩
  replace S180 : own_S p l e ({ frames := 2, cells := 0, slots := 0, locals := 33 } : Room) s m #[(.ref a), (.int off), (.ref x)] below meth c n0 T176 h177 0 0 := S180
  show own_Go p e below _ T176 (mkF m 18 #[.val (.ref a), .val (.int off), .val (.ref x)] [])
  refine own_retV C S180 (by decide +kernel) (by decide) (by decide) ?_
  exact ⟨rfl, ((Keep.refl _ _).trans K174 (allS (Or.inl (List.mem_of_getElem? (i := 0) rfl)) all0)), f175⟩
theorem own_pd9 : parseMethodDescriptor "(ILjava/lang/String;)V" = some ⟨[.int, (.object "java/lang/String")], none⟩ := by decide +kernel
theorem own_sn4 {Z : State} {a0 : Array Value} (hw : ∀ d ∈ tables_1, d.before a0 Z = true) : Jvm.RoadKit.slotOf Z "java/lang/AbstractStringBuilder" "value" "[B" ≠ Jvm.RoadKit.slotOf Z "java/lang/AbstractStringBuilder" "count" "I" := slot_ne (Or.inl (own_wd hw 134 rfl)) (Or.inl (own_wd hw 150 rfl)) (by decide) own_fd0 own_fd2
theorem own_sn5 {Z : State} {a0 : Array Value} (hw : ∀ d ∈ tables_1, d.before a0 Z = true) : Jvm.RoadKit.slotOf Z "java/lang/AbstractStringBuilder" "coder" "B" ≠ Jvm.RoadKit.slotOf Z "java/lang/AbstractStringBuilder" "count" "I" := slot_ne (Or.inl (own_wd hw 136 rfl)) (Or.inl (own_wd hw 150 rfl)) (by decide) own_fd1 own_fd2
set_option maxRecDepth 65536 in
set_option maxHeartbeats 40000000 in
theorem own_asbA (l : Launch) (Z : State) (a0 : Array Value) (hw : ∀ d ∈ tables_1, d.before a0 Z = true) (G1 : Int32) (G3 : Value) (x : Addr) (xt : Addr) (xk : ClassId) (xN : Int32) (xvs : List Value) (xcs : List Int32) (a : Addr) (b : Addr) (bk : ClassId) (bN : Int32) (bvs : List Value) (cnt : Int32) (us : List Value) (h0 : Heap) (n0 : Nat) (z0 : n0 ≤ h0.size) (ge_a : n0 ≤ a) (ge_b : n0 ≤ b) (X00 : Old Z n0 h0) (xE : Exa Z h0 x "java/lang/String") (xV : Fld Z h0 x "java/lang/String" "value" "[B" (.ref xt)) (xC : Fld Z h0 x "java/lang/String" "coder" "B" (.int 0)) (xK : Arv Z h0 xt xk .byte xN xvs (.int 0)) (aE : Exa Z h0 a "java/lang/StringBuilder") (aV : Fld Z h0 a "java/lang/AbstractStringBuilder" "value" "[B" (.ref b)) (aC : Fld Z h0 a "java/lang/AbstractStringBuilder" "coder" "B" (.int (0 : Int32))) (aN : Fld Z h0 a "java/lang/AbstractStringBuilder" "count" "I" (.int cnt)) (bK : Arv Z h0 b bk .byte bN bvs (.int (0 : Int32))) (ne_xt_b : xt ≠ b) (ne_xt_a : xt ≠ a) (ne_x_a : x ≠ a) (ne_x_b : x ≠ b) (ne_b_a : b ≠ a) (O2 : Sta Z Z.heap "java/lang/String" "COMPACT_STRINGS" "Z" (.int G1)) (O4 : Sta Z Z.heap "jdk/internal/util/Preconditions" "SIOOBE_FORMATTER" "Ljava/util/function/BiFunction;" G3) (P5 : ¬ G1 = (0 : Int32)) (rG3 : G3.isRef = true) (xcd : StrChars.Road.CodA xcs 0 xN xvs) (xhp : ∀ c ∈ xcs, ¬ c < 0 ∧ ¬ (255 : Int32) < c) (xl2 : xcs.length ≤ 4000) (hle : ¬ (0 : Int32) < ((cnt + xN) - bN)) (c3 : ¬ xN < 0) (c2 : ¬ cnt < 0) (c5 : cnt.toNatClampNeg + xN.toNatClampNeg ≤ bN.toNatClampNeg) (cl : cnt.toNatClampNeg + xN.toNatClampNeg ≤ bvs.length) (cu : bvs.take cnt.toNatClampNeg ++ ((List.range xN.toNatClampNeg).map fun i => xvs.getD ((0 : Int32).toNatClampNeg + i) (.int 0)) ++ bvs.drop (cnt.toNatClampNeg + xN.toNatClampNeg) = us) :
    own_Met l Z (⟨"java/lang/AbstractStringBuilder", "append", "(Ljava/lang/String;)Ljava/lang/AbstractStringBuilder;"⟩ : MethodName) jdk_68_method_22_code 3 (some (.object "java/lang/AbstractStringBuilder")) ({ frames := 3, cells := 0, slots := 0, locals := 47 } : Room) n0 #[(.ref a), (.ref x)] h0 (fun v h => v = some (.ref a) ∧ Keep h0 h [a, b] ∧ Exa Z h a "java/lang/StringBuilder" ∧ Fld Z h a "java/lang/AbstractStringBuilder" "value" "[B" (.ref b) ∧ Fld Z h a "java/lang/AbstractStringBuilder" "coder" "B" (.int (0 : Int32)) ∧ Fld Z h a "java/lang/AbstractStringBuilder" "count" "I" (.int (cnt + xN)) ∧ Arv Z h b bk .byte bN us (.int (0 : Int32))) := by
  refine own_met (by decide +kernel) #[.val (.ref a), .val (.ref x), .unset] (fun m => by first | (simp [entryFrame, mkF, argsToLocals, Value.category]; done) | rfl) ?_
  intro p e s m below meth c T0 C S0
  refine own_seg C S0 [(0, .aload_n 1, 1), (1, .ifnonnull 8, 3), (9, .aload_n 1, 1)] (by decide +kernel) 10 #[.val (.ref a), .val (.ref x), .unset] [(.ref x)] rfl ?_
  refine own_callV C S0 (own_wd hw 148 rfl) (own_wd hw 75 rfl) (own_wd hw 77 rfl) (y' := ⟨"java/lang/String", "length", "()I"⟩) rfl (own_wd hw 77 rfl) (own_wd hw 76 rfl) (by decide) (Q := (fun v h' L => v = some (.int (Int32.ofNat (xcs).length)) ∧ L = [] ∧ h' = h0)) (StrChars.Road.lenW (W := 0) C.2.2.2.2.2.2.2 (fun d hd => hw d (own_hln d hd)) (kI := 4) (own_wd hw 7 rfl) xE xV xC xK xcd (own_up _ xhp) (O2.ext X00.2) P5 xl2 (by decide) (by decide)) (fun _ _ L q => by rw [q.2.1]; exact Fr.nil _) xE [] [] rfl own_pd4 rfl rfl rfl (Nat.le_of_ble_eq_true rfl) (by decide) (by decide) (by decide +kernel) ?_
  rintro T182 h183 v184 L185 S186 ⟨rfl, -, e181⟩
  replace S186 : own_S p l e ({ frames := 3, cells := 0, slots := 0, locals := 47 } : Room) s m #[(.ref a), (.ref x)] below meth c n0 T182 h183 0 0 := S186
  rw [e181] at S186; clear e181
  rw [(own_cod xcd).1]
  show own_Go p e below _ T182 (mkF m 13 #[.val (.ref a), .val (.ref x), .unset] [(.int xN)])
  refine own_seg C S186 [(13, .istore_n 2, 1), (14, .aload_n 0, 1), (15, .aload_n 0, 1)] (by decide +kernel) 16 #[.val (.ref a), .val (.ref x), .val (.int xN)] [(.ref a), (.ref a)] rfl ?_
  refine own_getF C S186 (host := "") (Or.inl (own_wd hw 149 rfl)) Via.refl aN (by decide +kernel) ?_
  intro T187 S188
  refine own_seg C S188 [(19, .iload_n 2, 1), (20, .iadd, 1)] (by decide +kernel) 21 #[.val (.ref a), .val (.ref x), .val (.int xN)] [(.int (cnt + xN)), (.ref a)] rfl ?_
  refine own_callP C S188 (own_wd hw 151 rfl) (own_wd hw 152 rfl) (own_selfP (own_wd hw 152 rfl) (own_wd hw 153 rfl) (own_wd hw 154 rfl) (by decide)) (own_wd hw 153 rfl) (own_wd hw 155 rfl) (by decide) (own_Met.pay (own_ens l Z a0 hw a (cnt + xN) b bk bN bvs h0 n0 z0 aE aV aC bK hle) C 0 (own_wd hw 155 rfl) (own_wd hw 129 rfl) (by decide) (by decide)) (fun _ _ _ q => q.2) aE [(.int (cnt + xN))] [] rfl own_pd5 rfl rfl rfl (Nat.le_of_ble_eq_true rfl) (by decide) (by decide) (by decide +kernel) ?_
  rintro T190 h191 v192 L193 S194 ⟨⟨rfl, e189⟩, -⟩
  replace S194 : own_S p l e ({ frames := 3, cells := 0, slots := 0, locals := 47 } : Room) s m #[(.ref a), (.ref x)] below meth c n0 T190 h191 0 0 := S194
  rw [e189] at S194; clear e189
  show own_Go p e below _ T190 (mkF m 24 #[.val (.ref a), .val (.ref x), .val (.int xN)] [])
  refine own_seg C S194 [(24, .aload_n 0, 1), (25, .aload_n 0, 1)] (by decide +kernel) 26 #[.val (.ref a), .val (.ref x), .val (.int xN)] [(.ref a), (.ref a)] rfl ?_
  refine own_getF C S194 (host := "") (Or.inl (own_wd hw 149 rfl)) Via.refl aN (by decide +kernel) ?_
  intro T195 S196
  refine own_seg C S196 [(29, .aload_n 1, 1)] (by decide +kernel) 30 #[.val (.ref a), .val (.ref x), .val (.int xN)] [(.ref x), (.int cnt), (.ref a)] rfl ?_
  refine own_callP C S196 (own_wd hw 177 rfl) (own_wd hw 178 rfl) (own_selfP (own_wd hw 178 rfl) (own_wd hw 179 rfl) (own_wd hw 180 rfl) (by decide)) (own_wd hw 179 rfl) (own_wd hw 181 rfl) (by decide) (own_Met.pay (own_put l Z a0 hw G1 G3 x xt xk xN xvs xcs a b bk bN bvs cnt us h0 n0 z0 ge_b X00 xE xV xC xK aE aV aC bK O2 O4 P5 rG3 xcd xhp xl2 c3 c2 c5 cl cu) C 0 (own_wd hw 181 rfl) (own_wd hw 129 rfl) (by decide) (by decide)) (fun _ _ _ q => q.2) aE [(.int cnt), (.ref x)] [] rfl own_pd9 rfl rfl rfl (Nat.le_of_ble_eq_true rfl) (by decide) (by decide) (by decide +kernel) ?_
  rintro T199 h200 v201 L202 S203 ⟨⟨rfl, K197, f198⟩, -⟩
  replace S203 : own_S p l e ({ frames := 3, cells := 0, slots := 0, locals := 47 } : Room) s m #[(.ref a), (.ref x)] below meth c n0 T199 h200 0 0 := S203
  show own_Go p e below _ T199 (mkF m 33 #[.val (.ref a), .val (.ref x), .val (.int xN)] [])
  refine own_seg C S203 [(33, .aload_n 0, 1), (34, .dup, 1)] (by decide +kernel) 35 #[.val (.ref a), .val (.ref x), .val (.int xN)] [(.ref a), (.ref a)] rfl ?_
  have f204 : Fld Z h200 a "java/lang/AbstractStringBuilder" "count" "I" (.int cnt) := (aN.keep K197 (ninS (Ne.symm ne_b_a) nin0))
  refine own_getF C S203 (host := "") (Or.inl (own_wd hw 149 rfl)) Via.refl f204 (by decide +kernel) ?_
  intro T205 S206
  refine own_seg C S206 [(38, .iload_n 2, 1), (39, .iadd, 1)] (by decide +kernel) 40 #[.val (.ref a), .val (.ref x), .val (.int xN)] [(.int (cnt + xN)), (.ref a)] rfl ?_
  have f207 : Exa Z h200 a "java/lang/StringBuilder" := (aE.keep K197)
  refine own_putF C S206 (ty := .int) (host := "") (Or.inl (own_wd hw 149 rfl)) Via.refl f204 f207 (Or.inl (own_wd hw 150 rfl)) (own_wd hw 120 rfl) own_fd2 rfl rfl ge_a (by decide +kernel) ?_
  intro T208 h210 S209 W211
  have f212 : Fld Z h210 a "java/lang/AbstractStringBuilder" "count" "I" (.int (cnt + xN)) := Fld.same W211 f204
  refine own_seg C S209 [(43, .aload_n 0, 1)] (by decide +kernel) 44 #[.val (.ref a), .val (.ref x), .val (.int xN)] [(.ref a)] rfl ?_
  refine own_retA C S209 rfl rfl (by decide +kernel) (by decide) (by decide) ?_
  have f213 : Exa Z h210 a "java/lang/StringBuilder" := (Exa.wr W211 f207)
  have f214 : Fld Z h210 a "java/lang/AbstractStringBuilder" "value" "[B" (.ref b) := (Fld.other W211 (aV.keep K197 (ninS (Ne.symm ne_b_a) nin0)) (Or.inr (own_sn4 hw)))
  have f215 : Fld Z h210 a "java/lang/AbstractStringBuilder" "coder" "B" (.int (0 : Int32)) := (Fld.other W211 (aC.keep K197 (ninS (Ne.symm ne_b_a) nin0)) (Or.inr (own_sn5 hw)))
  have f216 : Arv Z h210 b bk .byte bN us (.int (0 : Int32)) := (f198.other W211 ne_b_a)
  exact ⟨rfl, (((Keep.refl _ _).trans K197 (allS (Or.inl (List.mem_of_getElem? (i := 1) rfl)) all0)).wr W211 (Or.inl (List.mem_of_getElem? (i := 0) rfl))), f213, f214, f215, f212, f216⟩
theorem own_pd10 : parseMethodDescriptor "(Ljava/lang/String;)Ljava/lang/AbstractStringBuilder;" = some ⟨[(.object "java/lang/String")], (some (.object "java/lang/AbstractStringBuilder"))⟩ := by decide +kernel
set_option maxRecDepth 65536 in
set_option maxHeartbeats 40000000 in
theorem own_sbA (l : Launch) (Z : State) (a0 : Array Value) (hw : ∀ d ∈ tables_1, d.before a0 Z = true) (G1 : Int32) (G3 : Value) (x : Addr) (xt : Addr) (xk : ClassId) (xN : Int32) (xvs : List Value) (xcs : List Int32) (a : Addr) (b : Addr) (bk : ClassId) (bN : Int32) (bvs : List Value) (cnt : Int32) (us : List Value) (h0 : Heap) (n0 : Nat) (z0 : n0 ≤ h0.size) (ge_a : n0 ≤ a) (ge_b : n0 ≤ b) (X00 : Old Z n0 h0) (xE : Exa Z h0 x "java/lang/String") (xV : Fld Z h0 x "java/lang/String" "value" "[B" (.ref xt)) (xC : Fld Z h0 x "java/lang/String" "coder" "B" (.int 0)) (xK : Arv Z h0 xt xk .byte xN xvs (.int 0)) (aE : Exa Z h0 a "java/lang/StringBuilder") (aV : Fld Z h0 a "java/lang/AbstractStringBuilder" "value" "[B" (.ref b)) (aC : Fld Z h0 a "java/lang/AbstractStringBuilder" "coder" "B" (.int (0 : Int32))) (aN : Fld Z h0 a "java/lang/AbstractStringBuilder" "count" "I" (.int cnt)) (bK : Arv Z h0 b bk .byte bN bvs (.int (0 : Int32))) (ne_xt_b : xt ≠ b) (ne_xt_a : xt ≠ a) (ne_x_a : x ≠ a) (ne_x_b : x ≠ b) (ne_b_a : b ≠ a) (O2 : Sta Z Z.heap "java/lang/String" "COMPACT_STRINGS" "Z" (.int G1)) (O4 : Sta Z Z.heap "jdk/internal/util/Preconditions" "SIOOBE_FORMATTER" "Ljava/util/function/BiFunction;" G3) (P5 : ¬ G1 = (0 : Int32)) (rG3 : G3.isRef = true) (xcd : StrChars.Road.CodA xcs 0 xN xvs) (xhp : ∀ c ∈ xcs, ¬ c < 0 ∧ ¬ (255 : Int32) < c) (xl2 : xcs.length ≤ 4000) (hle : ¬ (0 : Int32) < ((cnt + xN) - bN)) (c3 : ¬ xN < 0) (c2 : ¬ cnt < 0) (c5 : cnt.toNatClampNeg + xN.toNatClampNeg ≤ bN.toNatClampNeg) (cl : cnt.toNatClampNeg + xN.toNatClampNeg ≤ bvs.length) (cu : bvs.take cnt.toNatClampNeg ++ ((List.range xN.toNatClampNeg).map fun i => xvs.getD ((0 : Int32).toNatClampNeg + i) (.int 0)) ++ bvs.drop (cnt.toNatClampNeg + xN.toNatClampNeg) = us) :
    own_Met l Z (⟨"java/lang/StringBuilder", "append", "(Ljava/lang/String;)Ljava/lang/StringBuilder;"⟩ : MethodName) jdk_67_method_7_code 2 (some (.object "java/lang/StringBuilder")) ({ frames := 4, cells := 0, slots := 0, locals := 61 } : Room) n0 #[(.ref a), (.ref x)] h0 (fun v h => v = some (.ref a) ∧ Keep h0 h [a, b] ∧ Exa Z h a "java/lang/StringBuilder" ∧ Fld Z h a "java/lang/AbstractStringBuilder" "value" "[B" (.ref b) ∧ Fld Z h a "java/lang/AbstractStringBuilder" "coder" "B" (.int (0 : Int32)) ∧ Fld Z h a "java/lang/AbstractStringBuilder" "count" "I" (.int (cnt + xN)) ∧ Arv Z h b bk .byte bN us (.int (0 : Int32))) := by
  refine own_met (by decide +kernel) #[.val (.ref a), .val (.ref x)] (fun m => by first | (simp [entryFrame, mkF, argsToLocals, Value.category]; done) | rfl) ?_
  intro p e s m below meth c T0 C S0
  refine own_seg C S0 [(0, .aload_n 0, 1), (1, .aload_n 1, 1)] (by decide +kernel) 2 #[.val (.ref a), .val (.ref x)] [(.ref x), (.ref a)] rfl ?_
  refine own_callX C S0 (own_wd hw 143 rfl) (own_same (y' := ⟨"java/lang/AbstractStringBuilder", "ensureCapacityInternal", "(I)V"⟩) rfl (own_wd hw 144 rfl) (own_wd hw 154 rfl) (by decide)) (own_wd hw 144 rfl) (own_wd hw 145 rfl) (by decide) (own_wd hw 147 rfl) (own_Met.pay (own_asbA l Z a0 hw G1 G3 x xt xk xN xvs xcs a b bk bN bvs cnt us h0 n0 z0 ge_a ge_b X00 xE xV xC xK aE aV aC aN bK ne_xt_b ne_xt_a ne_x_a ne_x_b ne_b_a O2 O4 P5 rG3 xcd xhp xl2 hle c3 c2 c5 cl cu) C 0 (own_wd hw 147 rfl) (own_wd hw 129 rfl) (by decide) (by decide)) (fun _ _ _ q => q.2) (Ins.self aE) [(.ref x)] [] rfl own_pd10 rfl rfl rfl (Nat.le_of_ble_eq_true rfl) (by decide) (by decide) (by decide +kernel) ?_
  rintro T223 h224 v225 L226 S227 ⟨⟨rfl, K217, f218, f219, f220, f221, f222⟩, -⟩
  replace S227 : own_S p l e ({ frames := 4, cells := 0, slots := 0, locals := 61 } : Room) s m #[(.ref a), (.ref x)] below meth c n0 T223 h224 0 0 := S227
  show own_Go p e below _ T223 (mkF m 5 #[.val (.ref a), .val (.ref x)] [(.ref a)])
  refine own_seg C S227 [(5, .pop, 1), (6, .aload_n 0, 1)] (by decide +kernel) 7 #[.val (.ref a), .val (.ref x)] [(.ref a)] rfl ?_
  refine own_retA C S227 rfl rfl (by decide +kernel) (by decide) (by decide) ?_
  exact ⟨rfl, ((Keep.refl _ _).trans K217 (allS (Or.inl (List.mem_of_getElem? (i := 0) rfl)) (allS (Or.inl (List.mem_of_getElem? (i := 1) rfl)) all0))), f218, f219, f220, f221, f222⟩
set_option maxRecDepth 65536 in
set_option maxHeartbeats 40000000 in
theorem own_nl (l : Launch) (Z : State) (a0 : Array Value) (hw : ∀ d ∈ tables_1, d.before a0 Z = true) (h0 : Heap) (n0 : Nat) (z0 : n0 ≤ h0.size) :
    own_Met l Z (⟨"jdk/internal/util/ArraysSupport", "newLength", "(III)I"⟩ : MethodName) jdk_48_method_27_code 4 (some .int) ({ frames := 1, cells := 0, slots := 0, locals := 14 } : Room) n0 #[(.int (16 : Int32)), (.int (6 : Int32)), (.int (18 : Int32))] h0 (fun v h => v = some (.int (34 : Int32)) ∧ h = h0) := by
  refine own_met (by decide +kernel) #[.val (.int (16 : Int32)), .val (.int (6 : Int32)), .val (.int (18 : Int32)), .unset] (fun m => by first | (simp [entryFrame, mkF, argsToLocals, Value.category]; done) | rfl) ?_
  intro p e s m below meth c T0 C S0
  refine own_seg C S0 [(0, .iload_n 0, 1), (1, .iload_n 1, 1), (2, .iload_n 2, 1)] (by decide +kernel) 3 #[.val (.int (16 : Int32)), .val (.int (6 : Int32)), .val (.int (18 : Int32)), .unset] [(.int (18 : Int32)), (.int (6 : Int32)), (.int (16 : Int32))] rfl ?_
  refine own_callS C S0 (own_wd hw 165 rfl) (own_wd hw 92 rfl) (own_wd hw 93 rfl) (own_wd hw 94 rfl) (by decide) (own_Met.pay (own_max l Z a0 hw (6 : Int32) (18 : Int32) h0 n0 z0) C 1 (own_wd hw 94 rfl) (own_wd hw 93 rfl) (by decide) (by decide)) (fun _ _ _ q => q.2) [(.int (6 : Int32)), (.int (18 : Int32))] [(.int (16 : Int32))] rfl own_pd1 rfl rfl rfl (Nat.le_of_ble_eq_true rfl) (by decide) (by decide) (by decide +kernel) ?_
  rintro T229 h230 v231 L232 S233 ⟨⟨rfl, e228⟩, -⟩
  replace S233 : own_S p l e ({ frames := 1, cells := 0, slots := 0, locals := 14 } : Room) s m #[(.int (16 : Int32)), (.int (6 : Int32)), (.int (18 : Int32))] below meth c n0 T229 h230 0 0 := S233
  rw [e228] at S233; clear e228
  show own_Go p e below _ T229 (mkF m 6 #[.val (.int (16 : Int32)), .val (.int (6 : Int32)), .val (.int (18 : Int32)), .unset] [(.int (if (6 : Int32) < (18 : Int32) then (18 : Int32) else (6 : Int32))), (.int (16 : Int32))])
  refine own_seg C S233 [(6, .iadd, 1), (7, .istore_n 3, 1), (8, .iconst 0, 1), (9, .iload_n 3, 1)] (by decide +kernel) 10 #[.val (.int (16 : Int32)), .val (.int (6 : Int32)), .val (.int (18 : Int32)), .val (.int ((16 : Int32) + (if (6 : Int32) < (18 : Int32) then (18 : Int32) else (6 : Int32))))] [(.int ((16 : Int32) + (if (6 : Int32) < (18 : Int32) then (18 : Int32) else (6 : Int32)))), (.int (0 : Int32))] rfl ?_
  refine own_icmp C S233 (q := .ge) (o := 11) (by decide +kernel) 21 (by decide) (by decide) (fun (hq : ¬ (0 : Int32) < ((16 : Int32) + (if (6 : Int32) < (18 : Int32) then (18 : Int32) else (6 : Int32)))) => False.elim (absurd hq (by decide))) (fun (q234 : (0 : Int32) < ((16 : Int32) + (if (6 : Int32) < (18 : Int32) then (18 : Int32) else (6 : Int32)))) => ?_)
  refine own_seg C S233 [(13, .iload_n 3, 1)] (by decide +kernel) 14 #[.val (.int (16 : Int32)), .val (.int (6 : Int32)), .val (.int (18 : Int32)), .val (.int ((16 : Int32) + (if (6 : Int32) < (18 : Int32) then (18 : Int32) else (6 : Int32))))] [(.int ((16 : Int32) + (if (6 : Int32) < (18 : Int32) then (18 : Int32) else (6 : Int32))))] rfl ?_
  refine own_ldc C S233 (own_wd hw 166 rfl) (by decide +kernel) ?_
  refine own_icmp C S233 (q := .gt) (o := 5) (by decide +kernel) 21 (by decide) (by decide) (fun (hq : 2147483639 < ((16 : Int32) + (if (6 : Int32) < (18 : Int32) then (18 : Int32) else (6 : Int32)))) => False.elim (absurd hq (by decide))) (fun (q235 : ¬ 2147483639 < ((16 : Int32) + (if (6 : Int32) < (18 : Int32) then (18 : Int32) else (6 : Int32)))) => ?_)
  refine own_seg C S233 [(19, .iload_n 3, 1)] (by decide +kernel) 20 #[.val (.int (16 : Int32)), .val (.int (6 : Int32)), .val (.int (18 : Int32)), .val (.int ((16 : Int32) + (if (6 : Int32) < (18 : Int32) then (18 : Int32) else (6 : Int32))))] [(.int ((16 : Int32) + (if (6 : Int32) < (18 : Int32) then (18 : Int32) else (6 : Int32))))] rfl ?_
  refine own_retI C S233 (by decide +kernel) (by decide) (by decide) ?_
  exact ⟨rfl, rfl⟩
theorem own_pd11 : parseMethodDescriptor "(III)I" = some ⟨[.int, .int, .int], (some .int)⟩ := by decide +kernel
set_option maxRecDepth 65536 in
set_option maxHeartbeats 40000000 in
theorem own_nc (l : Launch) (Z : State) (a0 : Array Value) (hw : ∀ d ∈ tables_1, d.before a0 Z = true) (a : Addr) (b : Addr) (bk : ClassId) (bvs : List Value) (h0 : Heap) (n0 : Nat) (z0 : n0 ≤ h0.size) (aV : Fld Z h0 a "java/lang/AbstractStringBuilder" "value" "[B" (.ref b)) (aC : Fld Z h0 a "java/lang/AbstractStringBuilder" "coder" "B" (.int (0 : Int32))) (bK : Arv Z h0 b bk .byte (16 : Int32) bvs (.int (0 : Int32))) :
    own_Met l Z (⟨"java/lang/AbstractStringBuilder", "newCapacity", "(I)I"⟩ : MethodName) jdk_68_method_10_code 6 (some .int) ({ frames := 2, cells := 0, slots := 0, locals := 29 } : Room) n0 #[(.ref a), (.int (22 : Int32))] h0 (fun v h => v = some (.int (34 : Int32)) ∧ h = h0) := by
  refine own_met (by decide +kernel) #[.val (.ref a), .val (.int (22 : Int32)), .unset, .unset, .unset, .unset] (fun m => by first | (simp [entryFrame, mkF, argsToLocals, Value.category]; done) | rfl) ?_
  intro p e s m below meth c T0 C S0
  refine own_seg C S0 [(0, .aload_n 0, 1)] (by decide +kernel) 1 #[.val (.ref a), .val (.int (22 : Int32)), .unset, .unset, .unset, .unset] [(.ref a)] rfl ?_
  refine own_getF C S0 (host := "") (Or.inl (own_wd hw 133 rfl)) Via.refl aV (by decide +kernel) ?_
  intro T236 S237
  refine own_alen C S237 bK (by decide +kernel) ?_
  refine own_seg C S237 [(5, .istore_n 2, 1), (6, .iload_n 1, 1), (7, .aload_n 0, 1)] (by decide +kernel) 8 #[.val (.ref a), .val (.int (22 : Int32)), .val (.int (16 : Int32)), .unset, .unset, .unset] [(.ref a), (.int (22 : Int32))] rfl ?_
  refine own_getF C S237 (host := "") (Or.inl (own_wd hw 135 rfl)) Via.refl aC (by decide +kernel) ?_
  intro T238 S239
  refine own_seg C S239 [(11, .ishl, 1), (12, .istore_n 3, 1), (13, .iload_n 3, 1), (14, .iload_n 2, 1), (15, .isub, 1), (16, .istore 4, 2), (18, .iload_n 2, 1), (19, .iload 4, 2), (21, .iload_n 2, 1), (22, .iconst 2, 1), (23, .aload_n 0, 1)] (by decide +kernel) 24 #[.val (.ref a), .val (.int (22 : Int32)), .val (.int (16 : Int32)), .val (.int ((22 : Int32) <<< ((0 : Int32) &&& 31))), .val (.int (((22 : Int32) <<< ((0 : Int32) &&& 31)) - (16 : Int32))), .unset] [(.ref a), (.int (2 : Int32)), (.int (16 : Int32)), (.int (((22 : Int32) <<< ((0 : Int32) &&& 31)) - (16 : Int32))), (.int (16 : Int32))] rfl ?_
  refine own_getF C S239 (host := "") (Or.inl (own_wd hw 135 rfl)) Via.refl aC (by decide +kernel) ?_
  intro T240 S241
  refine own_seg C S241 [(27, .ishl, 1), (28, .iadd, 1)] (by decide +kernel) 29 #[.val (.ref a), .val (.int (22 : Int32)), .val (.int (16 : Int32)), .val (.int ((22 : Int32) <<< ((0 : Int32) &&& 31))), .val (.int (((22 : Int32) <<< ((0 : Int32) &&& 31)) - (16 : Int32))), .unset] [(.int ((16 : Int32) + ((2 : Int32) <<< ((0 : Int32) &&& 31)))), (.int (((22 : Int32) <<< ((0 : Int32) &&& 31)) - (16 : Int32))), (.int (16 : Int32))] rfl ?_
  refine own_callS C S241 (own_wd hw 161 rfl) (own_wd hw 162 rfl) (own_wd hw 163 rfl) (own_wd hw 164 rfl) (by decide) (own_Met.pay (own_nl l Z a0 hw  h0 n0 z0) C 0 (own_wd hw 164 rfl) (own_wd hw 163 rfl) (by decide) (by decide)) (fun _ _ _ q => q.2) [(.int (16 : Int32)), (.int (((22 : Int32) <<< ((0 : Int32) &&& 31)) - (16 : Int32))), (.int ((16 : Int32) + ((2 : Int32) <<< ((0 : Int32) &&& 31))))] [] rfl own_pd11 rfl rfl rfl (Nat.le_of_ble_eq_true rfl) (by decide) (by decide) (by decide +kernel) ?_
  rintro T243 h244 v245 L246 S247 ⟨⟨rfl, e242⟩, -⟩
  replace S247 : own_S p l e ({ frames := 2, cells := 0, slots := 0, locals := 29 } : Room) s m #[(.ref a), (.int (22 : Int32))] below meth c n0 T243 h244 0 0 := S247
  rw [e242] at S247; clear e242
  show own_Go p e below _ T243 (mkF m 32 #[.val (.ref a), .val (.int (22 : Int32)), .val (.int (16 : Int32)), .val (.int ((22 : Int32) <<< ((0 : Int32) &&& 31))), .val (.int (((22 : Int32) <<< ((0 : Int32) &&& 31)) - (16 : Int32))), .unset] [(.int (34 : Int32))])
  refine own_seg C S247 [(32, .istore 5, 2), (34, .iload 5, 2)] (by decide +kernel) 36 #[.val (.ref a), .val (.int (22 : Int32)), .val (.int (16 : Int32)), .val (.int ((22 : Int32) <<< ((0 : Int32) &&& 31))), .val (.int (((22 : Int32) <<< ((0 : Int32) &&& 31)) - (16 : Int32))), .val (.int (34 : Int32))] [(.int (34 : Int32))] rfl ?_
  refine own_ldc C S247 (own_wd hw 167 rfl) (by decide +kernel) ?_
  refine own_icmp C S247 (q := .ne) (o := 13) (by decide +kernel) 51 (by decide) (by decide) (fun (q248 : ¬ (34 : Int32) = 2147483647) => ?_) (fun (hq : (34 : Int32) = 2147483647) => False.elim (absurd hq (by decide)))
  refine own_seg C S247 [(51, .iload 5, 2), (53, .aload_n 0, 1)] (by decide +kernel) 54 #[.val (.ref a), .val (.int (22 : Int32)), .val (.int (16 : Int32)), .val (.int ((22 : Int32) <<< ((0 : Int32) &&& 31))), .val (.int (((22 : Int32) <<< ((0 : Int32) &&& 31)) - (16 : Int32))), .val (.int (34 : Int32))] [(.ref a), (.int (34 : Int32))] rfl ?_
  refine own_getF C S247 (host := "") (Or.inl (own_wd hw 135 rfl)) Via.refl aC (by decide +kernel) ?_
  intro T249 S250
  refine own_seg C S250 [(57, .ishr, 1)] (by decide +kernel) 58 #[.val (.ref a), .val (.int (22 : Int32)), .val (.int (16 : Int32)), .val (.int ((22 : Int32) <<< ((0 : Int32) &&& 31))), .val (.int (((22 : Int32) <<< ((0 : Int32) &&& 31)) - (16 : Int32))), .val (.int (34 : Int32))] [(.int ((34 : Int32) >>> ((0 : Int32) &&& 31)))] rfl ?_
  refine own_retI C S250 (by decide +kernel) (by decide) (by decide) ?_
  exact ⟨rfl, rfl⟩
set_option maxRecDepth 65536 in
set_option maxHeartbeats 40000000 in
theorem own_co (l : Launch) (Z : State) (a0 : Array Value) (hw : ∀ d ∈ tables_1, d.before a0 Z = true) (b : Addr) (bk : ClassId) (bvs : List Value) (vs2 : List Value) (h0 : Heap) (n0 : Nat) (z0 : n0 ≤ h0.size) (bK : Arv Z h0 b bk .byte (16 : Int32) bvs (.int (0 : Int32))) (e1 : (List.range (16 : Int32).toNatClampNeg).map (fun i => bvs.getD ((0 : Int32).toNatClampNeg + i) (.int (0 : Int32))) ++ (List.replicate 34 (.int (0 : Int32))).drop ((0 : Int32).toNatClampNeg + (16 : Int32).toNatClampNeg) = vs2) :
    own_Met l Z (⟨"java/util/Arrays", "copyOf", "([BI)[B"⟩ : MethodName) jdk_65_method_121_code 3 (some (.array .byte)) ({ frames := 1, cells := 1, slots := 34, locals := 18 } : Room) n0 #[(.ref b), (.int (34 : Int32))] h0 (fun v h => ∃ r : Addr, ∃ rk : ClassId, v = some (.ref r) ∧ h0.size ≤ r ∧ Keep h0 h [] ∧ Arv Z h r rk .byte (34 : Int32) vs2 (.int (0 : Int32))) := by
  refine own_met (by decide +kernel) #[.val (.ref b), .val (.int (34 : Int32)), .unset] (fun m => by first | (simp [entryFrame, mkF, argsToLocals, Value.category]; done) | rfl) ?_
  intro p e s m below meth c T0 C S0
  refine own_seg C S0 [(0, .iload_n 1, 1), (1, .aload_n 0, 1)] (by decide +kernel) 2 #[.val (.ref b), .val (.int (34 : Int32)), .unset] [(.ref b), (.int (34 : Int32))] rfl ?_
  refine own_alen C S0 bK (by decide +kernel) ?_
  refine own_icmp C S0 (q := .ne) (o := 11) (by decide +kernel) 14 (by decide) (by decide) (fun (q251 : ¬ (34 : Int32) = (16 : Int32)) => ?_) (fun (hq : (34 : Int32) = (16 : Int32)) => False.elim (absurd hq (by decide)))
  refine own_seg C S0 [(14, .iload_n 1, 1)] (by decide +kernel) 15 #[.val (.ref b), .val (.int (34 : Int32)), .unset] [(.int (34 : Int32))] rfl ?_
  refine own_newP C S0 (aty := .byte) (own_wd hw 24 rfl) (by decide +kernel) (by decide) 34 (by decide) (by decide) (by decide) (by decide) ?_
  intro T252 h254 a255 k256 S253 g257 E258 f259
  have f260 : Arv Z h254 a255 k256 .byte (34 : Int32) ([(.int (0 : Int32)), (.int (0 : Int32)), (.int (0 : Int32)), (.int (0 : Int32)), (.int (0 : Int32)), (.int (0 : Int32)), (.int (0 : Int32)), (.int (0 : Int32)), (.int (0 : Int32)), (.int (0 : Int32)), (.int (0 : Int32)), (.int (0 : Int32)), (.int (0 : Int32)), (.int (0 : Int32)), (.int (0 : Int32)), (.int (0 : Int32)), (.int (0 : Int32)), (.int (0 : Int32)), (.int (0 : Int32)), (.int (0 : Int32)), (.int (0 : Int32)), (.int (0 : Int32)), (.int (0 : Int32)), (.int (0 : Int32)), (.int (0 : Int32)), (.int (0 : Int32)), (.int (0 : Int32)), (.int (0 : Int32)), (.int (0 : Int32)), (.int (0 : Int32)), (.int (0 : Int32)), (.int (0 : Int32)), (.int (0 : Int32)), (.int (0 : Int32))]) (.int (0 : Int32)) := Arv.pad f259 (pad_rep [] (.int (0 : Int32)) 34)
  refine own_seg C S253 [(17, .astore_n 2, 1), (18, .aload_n 0, 1), (19, .iconst 0, 1), (20, .aload_n 2, 1), (21, .iconst 0, 1), (22, .aload_n 0, 1)] (by decide +kernel) 23 #[.val (.ref b), .val (.int (34 : Int32)), .val (.ref a255)] [(.ref b), (.int (0 : Int32)), (.ref a255), (.int (0 : Int32)), (.ref b)] rfl ?_
  have f261 : Arv Z h254 b bk .byte (16 : Int32) bvs (.int (0 : Int32)) := (bK.ext E258)
  refine own_alen C S253 f261 (by decide +kernel) ?_
  refine own_seg C S253 [(24, .iload_n 1, 1)] (by decide +kernel) 25 #[.val (.ref b), .val (.int (34 : Int32)), .val (.ref a255)] [(.int (34 : Int32)), (.int (16 : Int32)), (.int (0 : Int32)), (.ref a255), (.int (0 : Int32)), (.ref b)] rfl ?_
  have f262 : n0 ≤ h254.size := (Nat.le_trans z0 E258.1)
  refine own_callS C S253 (own_wd hw 172 rfl) (own_wd hw 96 rfl) (own_wd hw 93 rfl) (own_wd hw 97 rfl) (by decide) (own_Met.pay (own_min l Z a0 hw (16 : Int32) (34 : Int32) h254 n0 f262) C 4 (own_wd hw 97 rfl) (own_wd hw 93 rfl) (by decide) (by decide)) (fun _ _ _ q => q.2) [(.int (16 : Int32)), (.int (34 : Int32))] [(.int (0 : Int32)), (.ref a255), (.int (0 : Int32)), (.ref b)] rfl own_pd1 rfl rfl rfl (Nat.le_of_ble_eq_true rfl) (by decide) (by decide) (by decide +kernel) ?_
  rintro T264 h265 v266 L267 S268 ⟨⟨rfl, e263⟩, -⟩
  replace S268 : own_S p l e ({ frames := 1, cells := 1, slots := 34, locals := 18 } : Room) s m #[(.ref b), (.int (34 : Int32))] below meth c n0 T264 h265 1 34 := S268
  rw [e263] at S268; clear e263
  show own_Go p e below _ T264 (mkF m 28 #[.val (.ref b), .val (.int (34 : Int32)), .val (.ref a255)] [(.int (if (34 : Int32) < (16 : Int32) then (34 : Int32) else (16 : Int32))), (.int (0 : Int32)), (.ref a255), (.int (0 : Int32)), (.ref b)])
  show own_Go p e below _ T264 (mkF m 28 #[.val (.ref b), .val (.int (34 : Int32)), .val (.ref a255)] [(.int (16 : Int32)), (.int (0 : Int32)), (.ref a255), (.int (0 : Int32)), (.ref b)])
  have g269 : n0 ≤ a255 := by rw [g257]; exact z0
  refine own_copy C S268 (own_wd hw 173 rfl) (own_wd hw 176 rfl) (own_wd hw 174 rfl) (own_wd hw 175 rfl) f261 f260 rfl (by decide) (by decide) (by decide) (by decide) (by decide) (by decide) g269 vs2 e1 rfl (by decide +kernel) (by decide) 0 (Nat.le_of_ble_eq_true rfl) (by decide) ?_
  intro T270 h272 S271 K273 f274
  refine own_seg C S271 [(31, .aload_n 2, 1)] (by decide +kernel) 32 #[.val (.ref b), .val (.int (34 : Int32)), .val (.ref a255)] [(.ref a255)] rfl ?_
  refine own_retA C S271 rfl rfl (by decide +kernel) (by decide) (by decide) ?_
  exact ⟨a255, k256, rfl, (by rw [g257]; exact (Nat.le_refl _)), (((Keep.refl _ _).ext E258).trans K273 (allS (Or.inr (by rw [g257]; exact (Nat.le_refl _))) all0)), f274⟩
theorem own_pd12 : parseMethodDescriptor "(I)I" = some ⟨[.int], (some .int)⟩ := by decide +kernel
theorem own_pd13 : parseMethodDescriptor "([BI)[B" = some ⟨[(.array .byte), .int], (some (.array .byte))⟩ := by decide +kernel
set_option maxRecDepth 65536 in
set_option maxHeartbeats 40000000 in
theorem own_ensG (l : Launch) (Z : State) (a0 : Array Value) (hw : ∀ d ∈ tables_1, d.before a0 Z = true) (a : Addr) (b : Addr) (bk : ClassId) (bvs : List Value) (vs2 : List Value) (h0 : Heap) (n0 : Nat) (z0 : n0 ≤ h0.size) (ge_a : n0 ≤ a) (aE : Exa Z h0 a "java/lang/StringBuilder") (aV : Fld Z h0 a "java/lang/AbstractStringBuilder" "value" "[B" (.ref b)) (aC : Fld Z h0 a "java/lang/AbstractStringBuilder" "coder" "B" (.int (0 : Int32))) (aN : Fld Z h0 a "java/lang/AbstractStringBuilder" "count" "I" (.int (0 : Int32))) (bK : Arv Z h0 b bk .byte (16 : Int32) bvs (.int (0 : Int32))) (ne_b_a : b ≠ a) (e1 : (List.range (16 : Int32).toNatClampNeg).map (fun i => bvs.getD ((0 : Int32).toNatClampNeg + i) (.int (0 : Int32))) ++ (List.replicate 34 (.int (0 : Int32))).drop ((0 : Int32).toNatClampNeg + (16 : Int32).toNatClampNeg) = vs2) :
    own_Met l Z (⟨"java/lang/AbstractStringBuilder", "ensureCapacityInternal", "(I)V"⟩ : MethodName) jdk_68_method_9_code 3 none ({ frames := 3, cells := 1, slots := 34, locals := 48 } : Room) n0 #[(.ref a), (.int (22 : Int32))] h0 (fun v h => ∃ r : Addr, ∃ rk : ClassId, v = none ∧ h0.size ≤ r ∧ Keep h0 h [a] ∧ Exa Z h a "java/lang/StringBuilder" ∧ Fld Z h a "java/lang/AbstractStringBuilder" "value" "[B" (.ref r) ∧ Fld Z h a "java/lang/AbstractStringBuilder" "coder" "B" (.int (0 : Int32)) ∧ Fld Z h a "java/lang/AbstractStringBuilder" "count" "I" (.int (0 : Int32)) ∧ Arv Z h r rk .byte (34 : Int32) vs2 (.int (0 : Int32))) := by
  refine own_met (by decide +kernel) #[.val (.ref a), .val (.int (22 : Int32)), .unset] (fun m => by first | (simp [entryFrame, mkF, argsToLocals, Value.category]; done) | rfl) ?_
  intro p e s m below meth c T0 C S0
  refine own_seg C S0 [(0, .aload_n 0, 1)] (by decide +kernel) 1 #[.val (.ref a), .val (.int (22 : Int32)), .unset] [(.ref a)] rfl ?_
  refine own_getF C S0 (host := "") (Or.inl (own_wd hw 133 rfl)) Via.refl aV (by decide +kernel) ?_
  intro T275 S276
  refine own_alen C S276 bK (by decide +kernel) ?_
  refine own_seg C S276 [(5, .aload_n 0, 1)] (by decide +kernel) 6 #[.val (.ref a), .val (.int (22 : Int32)), .unset] [(.ref a), (.int (16 : Int32))] rfl ?_
  refine own_getF C S276 (host := "") (Or.inl (own_wd hw 135 rfl)) Via.refl aC (by decide +kernel) ?_
  intro T277 S278
  refine own_seg C S278 [(9, .ishr, 1), (10, .istore_n 2, 1), (11, .iload_n 1, 1), (12, .iload_n 2, 1), (13, .isub, 1)] (by decide +kernel) 14 #[.val (.ref a), .val (.int (22 : Int32)), .val (.int ((16 : Int32) >>> ((0 : Int32) &&& 31)))] [(.int ((22 : Int32) - ((16 : Int32) >>> ((0 : Int32) &&& 31))))] rfl ?_
  refine own_if C S278 (q := .le) (o := 24) (by decide +kernel) 38 (by decide) (by decide) (fun (hq : ¬ (0 : Int32) < ((22 : Int32) - ((16 : Int32) >>> ((0 : Int32) &&& 31)))) => False.elim (hq (by decide))) (fun (q279 : (0 : Int32) < ((22 : Int32) - ((16 : Int32) >>> ((0 : Int32) &&& 31)))) => ?_)
  refine own_seg C S278 [(17, .aload_n 0, 1), (18, .aload_n 0, 1)] (by decide +kernel) 19 #[.val (.ref a), .val (.int (22 : Int32)), .val (.int ((16 : Int32) >>> ((0 : Int32) &&& 31)))] [(.ref a), (.ref a)] rfl ?_
  refine own_getF C S278 (host := "") (Or.inl (own_wd hw 133 rfl)) Via.refl aV (by decide +kernel) ?_
  intro T280 S281
  refine own_seg C S281 [(22, .aload_n 0, 1), (23, .iload_n 1, 1)] (by decide +kernel) 24 #[.val (.ref a), .val (.int (22 : Int32)), .val (.int ((16 : Int32) >>> ((0 : Int32) &&& 31)))] [(.int (22 : Int32)), (.ref a), (.ref b), (.ref a)] rfl ?_
  refine own_callP C S281 (own_wd hw 156 rfl) (own_wd hw 157 rfl) (own_selfP (own_wd hw 157 rfl) (own_wd hw 158 rfl) (own_wd hw 159 rfl) (by decide)) (own_wd hw 158 rfl) (own_wd hw 160 rfl) (by decide) (own_Met.pay (own_nc l Z a0 hw a b bk bvs h0 n0 z0 aV aC bK) C 2 (own_wd hw 160 rfl) (own_wd hw 129 rfl) (by decide) (by decide)) (fun _ _ _ q => q.2) aE [(.int (22 : Int32))] [(.ref b), (.ref a)] rfl own_pd12 rfl rfl rfl (Nat.le_of_ble_eq_true rfl) (by decide) (by decide) (by decide +kernel) ?_
  rintro T283 h284 v285 L286 S287 ⟨⟨rfl, e282⟩, -⟩
  replace S287 : own_S p l e ({ frames := 3, cells := 1, slots := 34, locals := 48 } : Room) s m #[(.ref a), (.int (22 : Int32))] below meth c n0 T283 h284 0 0 := S287
  rw [e282] at S287; clear e282
  show own_Go p e below _ T283 (mkF m 27 #[.val (.ref a), .val (.int (22 : Int32)), .val (.int ((16 : Int32) >>> ((0 : Int32) &&& 31)))] [(.int (34 : Int32)), (.ref b), (.ref a)])
  refine own_seg C S287 [(27, .aload_n 0, 1)] (by decide +kernel) 28 #[.val (.ref a), .val (.int (22 : Int32)), .val (.int ((16 : Int32) >>> ((0 : Int32) &&& 31)))] [(.ref a), (.int (34 : Int32)), (.ref b), (.ref a)] rfl ?_
  refine own_getF C S287 (host := "") (Or.inl (own_wd hw 135 rfl)) Via.refl aC (by decide +kernel) ?_
  intro T288 S289
  refine own_seg C S289 [(31, .ishl, 1)] (by decide +kernel) 32 #[.val (.ref a), .val (.int (22 : Int32)), .val (.int ((16 : Int32) >>> ((0 : Int32) &&& 31)))] [(.int ((34 : Int32) <<< ((0 : Int32) &&& 31))), (.ref b), (.ref a)] rfl ?_
  show own_Go p e below _ T288 (mkF m 32 #[.val (.ref a), .val (.int (22 : Int32)), .val (.int ((16 : Int32) >>> ((0 : Int32) &&& 31)))] [(.int (34 : Int32)), (.ref b), (.ref a)])
  refine own_callS C S289 (own_wd hw 168 rfl) (own_wd hw 169 rfl) (own_wd hw 170 rfl) (own_wd hw 171 rfl) (by decide) (own_Met.pay (own_co l Z a0 hw b bk bvs vs2 h0 n0 z0 bK e1) C 1 (own_wd hw 171 rfl) (own_wd hw 170 rfl) (by decide) (by decide)) (fun _ _ _ q => q.2) [(.ref b), (.int (34 : Int32))] [(.ref a)] rfl own_pd13 rfl rfl rfl (Nat.le_of_ble_eq_true rfl) (by decide) (by decide) (by decide +kernel) ?_
  rintro T295 h296 v297 L298 S299 ⟨⟨a290, k291, rfl, g292, K293, f294⟩, -⟩
  replace S299 : own_S p l e ({ frames := 3, cells := 1, slots := 34, locals := 48 } : Room) s m #[(.ref a), (.int (22 : Int32))] below meth c n0 T295 h296 1 34 := S299
  show own_Go p e below _ T295 (mkF m 35 #[.val (.ref a), .val (.int (22 : Int32)), .val (.int ((16 : Int32) >>> ((0 : Int32) &&& 31)))] [(.ref a290), (.ref a)])
  have f300 : Fld Z h296 a "java/lang/AbstractStringBuilder" "value" "[B" (.ref b) := (aV.keep K293 nin0)
  have f301 : Exa Z h296 a "java/lang/StringBuilder" := (aE.keep K293)
  refine own_putF C S299 (ty := (.array .byte)) (host := "") (Or.inl (own_wd hw 133 rfl)) Via.refl f300 f301 (Or.inl (own_wd hw 134 rfl)) (own_wd hw 120 rfl) own_fd0 rfl rfl ge_a (by decide +kernel) ?_
  intro T302 h304 S303 W305
  have f306 : Fld Z h304 a "java/lang/AbstractStringBuilder" "value" "[B" (.ref a290) := Fld.same W305 f300
  refine own_retV C S303 (by decide +kernel) (by decide) (by decide) ?_
  have f307 : Exa Z h304 a "java/lang/StringBuilder" := (Exa.wr W305 f301)
  have f308 : Fld Z h304 a "java/lang/AbstractStringBuilder" "coder" "B" (.int (0 : Int32)) := (Fld.other W305 (aC.keep K293 nin0) (Or.inr (own_sn0 hw)))
  have f309 : Fld Z h304 a "java/lang/AbstractStringBuilder" "count" "I" (.int (0 : Int32)) := (Fld.other W305 (aN.keep K293 nin0) (Or.inr (own_sn2 hw)))
  have n310 : a ≠ a290 := Nat.ne_of_lt (Nat.lt_of_lt_of_le aE.lt g292)
  have f311 : Arv Z h304 a290 k291 .byte (34 : Int32) vs2 (.int (0 : Int32)) := (f294.other W305 (Ne.symm n310))
  exact ⟨a290, k291, rfl, (Nat.le_trans (Nat.le_refl _) g292), (((Keep.refl _ _).trans K293 all0).wr W305 (Or.inl (List.mem_of_getElem? (i := 0) rfl))), f307, f306, f308, f309, f311⟩
set_option maxRecDepth 65536 in
set_option maxHeartbeats 40000000 in
theorem own_asbG (l : Launch) (Z : State) (a0 : Array Value) (hw : ∀ d ∈ tables_1, d.before a0 Z = true) (G1 : Int32) (G3 : Value) (x : Addr) (xt : Addr) (xk : ClassId) (xN : Int32) (xvs : List Value) (xcs : List Int32) (a : Addr) (b : Addr) (bk : ClassId) (bvs : List Value) (vs2 : List Value) (us : List Value) (h0 : Heap) (n0 : Nat) (z0 : n0 ≤ h0.size) (ge_a : n0 ≤ a) (X00 : Old Z n0 h0) (xE : Exa Z h0 x "java/lang/String") (xV : Fld Z h0 x "java/lang/String" "value" "[B" (.ref xt)) (xC : Fld Z h0 x "java/lang/String" "coder" "B" (.int 0)) (xK : Arv Z h0 xt xk .byte xN xvs (.int 0)) (aE : Exa Z h0 a "java/lang/StringBuilder") (aV : Fld Z h0 a "java/lang/AbstractStringBuilder" "value" "[B" (.ref b)) (aC : Fld Z h0 a "java/lang/AbstractStringBuilder" "coder" "B" (.int (0 : Int32))) (aN : Fld Z h0 a "java/lang/AbstractStringBuilder" "count" "I" (.int (0 : Int32))) (bK : Arv Z h0 b bk .byte (16 : Int32) bvs (.int (0 : Int32))) (ne_xt_a : xt ≠ a) (ne_x_a : x ≠ a) (ne_b_a : b ≠ a) (O2 : Sta Z Z.heap "java/lang/String" "COMPACT_STRINGS" "Z" (.int G1)) (O4 : Sta Z Z.heap "jdk/internal/util/Preconditions" "SIOOBE_FORMATTER" "Ljava/util/function/BiFunction;" G3) (P5 : ¬ G1 = (0 : Int32)) (rG3 : G3.isRef = true) (xcd : StrChars.Road.CodA xcs 0 xN xvs) (xhp : ∀ c ∈ xcs, ¬ c < 0 ∧ ¬ (255 : Int32) < c) (xl2 : xcs.length ≤ 4000) (e1 : (List.range (16 : Int32).toNatClampNeg).map (fun i => bvs.getD ((0 : Int32).toNatClampNeg + i) (.int (0 : Int32))) ++ (List.replicate 34 (.int (0 : Int32))).drop ((0 : Int32).toNatClampNeg + (16 : Int32).toNatClampNeg) = vs2) (eN : xN = (22 : Int32)) (el : vs2.length = 34) (e2 : vs2.take (0 : Int32).toNatClampNeg ++ ((List.range (22 : Int32).toNatClampNeg).map fun i => xvs.getD ((0 : Int32).toNatClampNeg + i) (.int 0)) ++ vs2.drop ((0 : Int32).toNatClampNeg + (22 : Int32).toNatClampNeg) = us) :
    own_Met l Z (⟨"java/lang/AbstractStringBuilder", "append", "(Ljava/lang/String;)Ljava/lang/AbstractStringBuilder;"⟩ : MethodName) jdk_68_method_22_code 3 (some (.object "java/lang/AbstractStringBuilder")) ({ frames := 4, cells := 1, slots := 34, locals := 62 } : Room) n0 #[(.ref a), (.ref x)] h0 (fun v h => ∃ r : Addr, ∃ rk : ClassId, v = some (.ref a) ∧ h0.size ≤ r ∧ Keep h0 h [a] ∧ Exa Z h a "java/lang/StringBuilder" ∧ Fld Z h a "java/lang/AbstractStringBuilder" "value" "[B" (.ref r) ∧ Fld Z h a "java/lang/AbstractStringBuilder" "coder" "B" (.int (0 : Int32)) ∧ Fld Z h a "java/lang/AbstractStringBuilder" "count" "I" (.int (22 : Int32)) ∧ Arv Z h r rk .byte (34 : Int32) us (.int (0 : Int32))) := by
  refine own_met (by decide +kernel) #[.val (.ref a), .val (.ref x), .unset] (fun m => by first | (simp [entryFrame, mkF, argsToLocals, Value.category]; done) | rfl) ?_
  intro p e s m below meth c T0 C S0
  subst eN
  refine own_seg C S0 [(0, .aload_n 1, 1), (1, .ifnonnull 8, 3), (9, .aload_n 1, 1)] (by decide +kernel) 10 #[.val (.ref a), .val (.ref x), .unset] [(.ref x)] rfl ?_
  refine own_callV C S0 (own_wd hw 148 rfl) (own_wd hw 75 rfl) (own_wd hw 77 rfl) (y' := ⟨"java/lang/String", "length", "()I"⟩) rfl (own_wd hw 77 rfl) (own_wd hw 76 rfl) (by decide) (Q := (fun v h' L => v = some (.int (Int32.ofNat (xcs).length)) ∧ L = [] ∧ h' = h0)) (StrChars.Road.lenW (W := 0) C.2.2.2.2.2.2.2 (fun d hd => hw d (own_hln d hd)) (kI := 4) (own_wd hw 7 rfl) xE xV xC xK xcd (own_up _ xhp) (O2.ext X00.2) P5 xl2 (by decide) (by decide)) (fun _ _ L q => by rw [q.2.1]; exact Fr.nil _) xE [] [] rfl own_pd4 rfl rfl rfl (Nat.le_of_ble_eq_true rfl) (by decide) (by decide) (by decide +kernel) ?_
  rintro T313 h314 v315 L316 S317 ⟨rfl, -, e312⟩
  replace S317 : own_S p l e ({ frames := 4, cells := 1, slots := 34, locals := 62 } : Room) s m #[(.ref a), (.ref x)] below meth c n0 T313 h314 0 0 := S317
  rw [e312] at S317; clear e312
  rw [(own_cod xcd).1]
  show own_Go p e below _ T313 (mkF m 13 #[.val (.ref a), .val (.ref x), .unset] [(.int (22 : Int32))])
  refine own_seg C S317 [(13, .istore_n 2, 1), (14, .aload_n 0, 1), (15, .aload_n 0, 1)] (by decide +kernel) 16 #[.val (.ref a), .val (.ref x), .val (.int (22 : Int32))] [(.ref a), (.ref a)] rfl ?_
  refine own_getF C S317 (host := "") (Or.inl (own_wd hw 149 rfl)) Via.refl aN (by decide +kernel) ?_
  intro T318 S319
  refine own_seg C S319 [(19, .iload_n 2, 1), (20, .iadd, 1)] (by decide +kernel) 21 #[.val (.ref a), .val (.ref x), .val (.int (22 : Int32))] [(.int ((0 : Int32) + (22 : Int32))), (.ref a)] rfl ?_
  show own_Go p e below _ T318 (mkF m 21 #[.val (.ref a), .val (.ref x), .val (.int (22 : Int32))] [(.int (22 : Int32)), (.ref a)])
  refine own_callP C S319 (own_wd hw 151 rfl) (own_wd hw 152 rfl) (own_selfP (own_wd hw 152 rfl) (own_wd hw 153 rfl) (own_wd hw 154 rfl) (by decide)) (own_wd hw 153 rfl) (own_wd hw 155 rfl) (by decide) (own_Met.pay (own_ensG l Z a0 hw a b bk bvs vs2 h0 n0 z0 ge_a aE aV aC aN bK ne_b_a e1) C 0 (own_wd hw 155 rfl) (own_wd hw 129 rfl) (by decide) (by decide)) (fun _ _ _ q => q.2) aE [(.int (22 : Int32))] [] rfl own_pd5 rfl rfl rfl (Nat.le_of_ble_eq_true rfl) (by decide) (by decide) (by decide +kernel) ?_
  rintro T329 h330 v331 L332 S333 ⟨⟨a320, k321, rfl, g322, K323, f324, f325, f326, f327, f328⟩, -⟩
  replace S333 : own_S p l e ({ frames := 4, cells := 1, slots := 34, locals := 62 } : Room) s m #[(.ref a), (.ref x)] below meth c n0 T329 h330 1 34 := S333
  show own_Go p e below _ T329 (mkF m 24 #[.val (.ref a), .val (.ref x), .val (.int (22 : Int32))] [])
  refine own_seg C S333 [(24, .aload_n 0, 1), (25, .aload_n 0, 1)] (by decide +kernel) 26 #[.val (.ref a), .val (.ref x), .val (.int (22 : Int32))] [(.ref a), (.ref a)] rfl ?_
  refine own_getF C S333 (host := "") (Or.inl (own_wd hw 149 rfl)) Via.refl f327 (by decide +kernel) ?_
  intro T334 S335
  refine own_seg C S335 [(29, .aload_n 1, 1)] (by decide +kernel) 30 #[.val (.ref a), .val (.ref x), .val (.int (22 : Int32))] [(.ref x), (.int (0 : Int32)), (.ref a)] rfl ?_
  have f336 : Old Z n0 h330 := (X00.keep K323 (allS ge_a all0))
  have f337 : Exa Z h330 x "java/lang/String" := (xE.keep K323)
  have f338 : Fld Z h330 x "java/lang/String" "value" "[B" (.ref xt) := (xV.keep K323 (ninS ne_x_a nin0))
  have f339 : Fld Z h330 x "java/lang/String" "coder" "B" (.int 0) := (xC.keep K323 (ninS ne_x_a nin0))
  have f340 : Arv Z h330 xt xk .byte (22 : Int32) xvs (.int 0) := (xK.keep K323 (ninS ne_xt_a nin0))
  have f341 : n0 ≤ h330.size := (Nat.le_trans z0 K323.1)
  have g342 : n0 ≤ a320 := Nat.le_trans z0 g322
  refine own_callP C S335 (own_wd hw 177 rfl) (own_wd hw 178 rfl) (own_selfP (own_wd hw 178 rfl) (own_wd hw 179 rfl) (own_wd hw 180 rfl) (by decide)) (own_wd hw 179 rfl) (own_wd hw 181 rfl) (by decide) (own_Met.pay (own_put l Z a0 hw G1 G3 x xt xk (22 : Int32) xvs xcs a a320 k321 (34 : Int32) vs2 (0 : Int32) us h330 n0 f341 g342 f336 f337 f338 f339 f340 f324 f325 f326 f328 O2 O4 P5 rG3 xcd xhp xl2 (by decide) (by decide) (by decide) (by rw [el]; decide) e2) C 0 (own_wd hw 181 rfl) (own_wd hw 129 rfl) (by decide) (by decide)) (fun _ _ _ q => q.2) f324 [(.int (0 : Int32)), (.ref x)] [] rfl own_pd9 rfl rfl rfl (Nat.le_of_ble_eq_true rfl) (by decide) (by decide) (by decide +kernel) ?_
  rintro T345 h346 v347 L348 S349 ⟨⟨rfl, K343, f344⟩, -⟩
  replace S349 : own_S p l e ({ frames := 4, cells := 1, slots := 34, locals := 62 } : Room) s m #[(.ref a), (.ref x)] below meth c n0 T345 h346 1 34 := S349
  show own_Go p e below _ T345 (mkF m 33 #[.val (.ref a), .val (.ref x), .val (.int (22 : Int32))] [])
  refine own_seg C S349 [(33, .aload_n 0, 1), (34, .dup, 1)] (by decide +kernel) 35 #[.val (.ref a), .val (.ref x), .val (.int (22 : Int32))] [(.ref a), (.ref a)] rfl ?_
  have n350 : a ≠ a320 := Nat.ne_of_lt (Nat.lt_of_lt_of_le aV.lt g322)
  have f351 : Fld Z h346 a "java/lang/AbstractStringBuilder" "count" "I" (.int (0 : Int32)) := (f327.keep K343 (ninS n350 nin0))
  refine own_getF C S349 (host := "") (Or.inl (own_wd hw 149 rfl)) Via.refl f351 (by decide +kernel) ?_
  intro T352 S353
  refine own_seg C S353 [(38, .iload_n 2, 1), (39, .iadd, 1)] (by decide +kernel) 40 #[.val (.ref a), .val (.ref x), .val (.int (22 : Int32))] [(.int ((0 : Int32) + (22 : Int32))), (.ref a)] rfl ?_
  have f354 : Exa Z h346 a "java/lang/StringBuilder" := (f324.keep K343)
  refine own_putF C S353 (ty := .int) (host := "") (Or.inl (own_wd hw 149 rfl)) Via.refl f351 f354 (Or.inl (own_wd hw 150 rfl)) (own_wd hw 120 rfl) own_fd2 rfl rfl ge_a (by decide +kernel) ?_
  intro T355 h357 S356 W358
  have f359 : Fld Z h357 a "java/lang/AbstractStringBuilder" "count" "I" (.int ((0 : Int32) + (22 : Int32))) := Fld.same W358 f351
  refine own_seg C S356 [(43, .aload_n 0, 1)] (by decide +kernel) 44 #[.val (.ref a), .val (.ref x), .val (.int (22 : Int32))] [(.ref a)] rfl ?_
  refine own_retA C S356 rfl rfl (by decide +kernel) (by decide) (by decide) ?_
  have f360 : Exa Z h357 a "java/lang/StringBuilder" := (Exa.wr W358 f354)
  have f361 : Fld Z h357 a "java/lang/AbstractStringBuilder" "value" "[B" (.ref a320) := (Fld.other W358 (f325.keep K343 (ninS n350 nin0)) (Or.inr (own_sn4 hw)))
  have f362 : Fld Z h357 a "java/lang/AbstractStringBuilder" "coder" "B" (.int (0 : Int32)) := (Fld.other W358 (f326.keep K343 (ninS n350 nin0)) (Or.inr (own_sn5 hw)))
  have f363 : Arv Z h357 a320 k321 .byte (34 : Int32) us (.int (0 : Int32)) := (f344.other W358 (Ne.symm n350))
  exact ⟨a320, k321, rfl, (Nat.le_trans (Nat.le_refl _) g322), ((((Keep.refl _ _).trans K323 (allS (Or.inl (List.mem_of_getElem? (i := 0) rfl)) all0)).trans K343 (allS (Or.inr (Nat.le_trans (Nat.le_refl _) g322)) all0)).wr W358 (Or.inl (List.mem_of_getElem? (i := 0) rfl))), f360, f361, f362, f359, f363⟩
set_option maxRecDepth 65536 in
set_option maxHeartbeats 40000000 in
theorem own_sbG (l : Launch) (Z : State) (a0 : Array Value) (hw : ∀ d ∈ tables_1, d.before a0 Z = true) (G1 : Int32) (G3 : Value) (x : Addr) (xt : Addr) (xk : ClassId) (xN : Int32) (xvs : List Value) (xcs : List Int32) (a : Addr) (b : Addr) (bk : ClassId) (bvs : List Value) (vs2 : List Value) (us : List Value) (h0 : Heap) (n0 : Nat) (z0 : n0 ≤ h0.size) (ge_a : n0 ≤ a) (X00 : Old Z n0 h0) (xE : Exa Z h0 x "java/lang/String") (xV : Fld Z h0 x "java/lang/String" "value" "[B" (.ref xt)) (xC : Fld Z h0 x "java/lang/String" "coder" "B" (.int 0)) (xK : Arv Z h0 xt xk .byte xN xvs (.int 0)) (aE : Exa Z h0 a "java/lang/StringBuilder") (aV : Fld Z h0 a "java/lang/AbstractStringBuilder" "value" "[B" (.ref b)) (aC : Fld Z h0 a "java/lang/AbstractStringBuilder" "coder" "B" (.int (0 : Int32))) (aN : Fld Z h0 a "java/lang/AbstractStringBuilder" "count" "I" (.int (0 : Int32))) (bK : Arv Z h0 b bk .byte (16 : Int32) bvs (.int (0 : Int32))) (ne_xt_a : xt ≠ a) (ne_x_a : x ≠ a) (ne_b_a : b ≠ a) (O2 : Sta Z Z.heap "java/lang/String" "COMPACT_STRINGS" "Z" (.int G1)) (O4 : Sta Z Z.heap "jdk/internal/util/Preconditions" "SIOOBE_FORMATTER" "Ljava/util/function/BiFunction;" G3) (P5 : ¬ G1 = (0 : Int32)) (rG3 : G3.isRef = true) (xcd : StrChars.Road.CodA xcs 0 xN xvs) (xhp : ∀ c ∈ xcs, ¬ c < 0 ∧ ¬ (255 : Int32) < c) (xl2 : xcs.length ≤ 4000) (e1 : (List.range (16 : Int32).toNatClampNeg).map (fun i => bvs.getD ((0 : Int32).toNatClampNeg + i) (.int (0 : Int32))) ++ (List.replicate 34 (.int (0 : Int32))).drop ((0 : Int32).toNatClampNeg + (16 : Int32).toNatClampNeg) = vs2) (eN : xN = (22 : Int32)) (el : vs2.length = 34) (e2 : vs2.take (0 : Int32).toNatClampNeg ++ ((List.range (22 : Int32).toNatClampNeg).map fun i => xvs.getD ((0 : Int32).toNatClampNeg + i) (.int 0)) ++ vs2.drop ((0 : Int32).toNatClampNeg + (22 : Int32).toNatClampNeg) = us) :
    own_Met l Z (⟨"java/lang/StringBuilder", "append", "(Ljava/lang/String;)Ljava/lang/StringBuilder;"⟩ : MethodName) jdk_67_method_7_code 2 (some (.object "java/lang/StringBuilder")) ({ frames := 5, cells := 1, slots := 34, locals := 76 } : Room) n0 #[(.ref a), (.ref x)] h0 (fun v h => ∃ r : Addr, ∃ rk : ClassId, v = some (.ref a) ∧ h0.size ≤ r ∧ Keep h0 h [a] ∧ Exa Z h a "java/lang/StringBuilder" ∧ Fld Z h a "java/lang/AbstractStringBuilder" "value" "[B" (.ref r) ∧ Fld Z h a "java/lang/AbstractStringBuilder" "coder" "B" (.int (0 : Int32)) ∧ Fld Z h a "java/lang/AbstractStringBuilder" "count" "I" (.int (22 : Int32)) ∧ Arv Z h r rk .byte (34 : Int32) us (.int (0 : Int32))) := by
  refine own_met (by decide +kernel) #[.val (.ref a), .val (.ref x)] (fun m => by first | (simp [entryFrame, mkF, argsToLocals, Value.category]; done) | rfl) ?_
  intro p e s m below meth c T0 C S0
  refine own_seg C S0 [(0, .aload_n 0, 1), (1, .aload_n 1, 1)] (by decide +kernel) 2 #[.val (.ref a), .val (.ref x)] [(.ref x), (.ref a)] rfl ?_
  refine own_callX C S0 (own_wd hw 143 rfl) (own_same (y' := ⟨"java/lang/AbstractStringBuilder", "ensureCapacityInternal", "(I)V"⟩) rfl (own_wd hw 144 rfl) (own_wd hw 154 rfl) (by decide)) (own_wd hw 144 rfl) (own_wd hw 145 rfl) (by decide) (own_wd hw 147 rfl) (own_Met.pay (own_asbG l Z a0 hw G1 G3 x xt xk xN xvs xcs a b bk bvs vs2 us h0 n0 z0 ge_a X00 xE xV xC xK aE aV aC aN bK ne_xt_a ne_x_a ne_b_a O2 O4 P5 rG3 xcd xhp xl2 e1 eN el e2) C 0 (own_wd hw 147 rfl) (own_wd hw 129 rfl) (by decide) (by decide)) (fun _ _ _ q => q.2) (Ins.self aE) [(.ref x)] [] rfl own_pd10 rfl rfl rfl (Nat.le_of_ble_eq_true rfl) (by decide) (by decide) (by decide +kernel) ?_
  rintro T373 h374 v375 L376 S377 ⟨⟨a364, k365, rfl, g366, K367, f368, f369, f370, f371, f372⟩, -⟩
  replace S377 : own_S p l e ({ frames := 5, cells := 1, slots := 34, locals := 76 } : Room) s m #[(.ref a), (.ref x)] below meth c n0 T373 h374 1 34 := S377
  show own_Go p e below _ T373 (mkF m 5 #[.val (.ref a), .val (.ref x)] [(.ref a)])
  refine own_seg C S377 [(5, .pop, 1), (6, .aload_n 0, 1)] (by decide +kernel) 7 #[.val (.ref a), .val (.ref x)] [(.ref a)] rfl ?_
  refine own_retA C S377 rfl rfl (by decide +kernel) (by decide) (by decide) ?_
  exact ⟨a364, k365, rfl, (Nat.le_trans (Nat.le_refl _) g366), ((Keep.refl _ _).trans K367 (allS (Or.inl (List.mem_of_getElem? (i := 0) rfl)) all0)), f368, f369, f370, f371, f372⟩
set_option maxRecDepth 65536 in
set_option maxHeartbeats 40000000 in
theorem own_ckl (l : Launch) (Z : State) (a0 : Array Value) (hw : ∀ d ∈ tables_1, d.before a0 Z = true) (x1 : Int32) (x2 : Int32) (h0 : Heap) (n0 : Nat) (z0 : n0 ≤ h0.size) (hge : ¬ x2 < x1) :
    own_Met l Z (⟨"java/util/Arrays", "checkLength", "(II)V"⟩ : MethodName) jdk_65_method_131_code 2 none ({ frames := 0, cells := 0, slots := 0, locals := 0 } : Room) n0 #[(.int x1), (.int x2)] h0 (fun v h => v = none ∧ h = h0) := by
  refine own_met (by decide +kernel) #[.val (.int x1), .val (.int x2)] (fun m => by first | (simp [entryFrame, mkF, argsToLocals, Value.category]; done) | rfl) ?_
  intro p e s m below meth c T0 C S0
  refine own_seg C S0 [(0, .iload_n 1, 1), (1, .iload_n 0, 1)] (by decide +kernel) 2 #[.val (.int x1), .val (.int x2)] [(.int x1), (.int x2)] rfl ?_
  refine own_icmp C S0 (q := .ge) (o := 35) (by decide +kernel) 37 (by decide) (by decide) (fun (q378 : ¬ x2 < x1) => ?_) (fun (hq : x2 < x1) => False.elim (hge hq))
  refine own_retV C S0 (by decide +kernel) (by decide) (by decide) ?_
  exact ⟨rfl, rfl⟩
theorem own_pd14 : parseMethodDescriptor "(II)V" = some ⟨[.int, .int], none⟩ := by decide +kernel
set_option maxRecDepth 65536 in
set_option maxHeartbeats 40000000 in
theorem own_corb (l : Launch) (Z : State) (a0 : Array Value) (hw : ∀ d ∈ tables_1, d.before a0 Z = true) (b : Addr) (bk : ClassId) (bN : Int32) (bvs : List Value) (n : Int32) (us : List Value) (h0 : Heap) (n0 : Nat) (z0 : n0 ≤ h0.size) (bK : Arv Z h0 b bk .byte bN bvs (.int (0 : Int32))) (t0 : ¬ n < (0 : Int32)) (t1 : ¬ bN < n) (t2 : ¬ n = bN) (t3 : n.toNatClampNeg ≤ 64) (t4 : ((List.range n.toNatClampNeg).map fun i => bvs.getD ((0 : Int32).toNatClampNeg + i) (.int (0 : Int32))) = us) :
    own_Met l Z (⟨"java/util/Arrays", "copyOfRangeByte", "([BII)[B"⟩ : MethodName) jdk_65_method_133_code 5 (some (.array .byte)) ({ frames := 1, cells := 1, slots := 64, locals := 18 } : Room) n0 #[(.ref b), (.int (0 : Int32)), (.int n)] h0 (fun v h => ∃ r : Addr, ∃ rk : ClassId, v = some (.ref r) ∧ h0.size ≤ r ∧ Keep h0 h [] ∧ Arv Z h r rk .byte n us (.int (0 : Int32))) := by
  refine own_met (by decide +kernel) #[.val (.ref b), .val (.int (0 : Int32)), .val (.int n), .unset, .unset] (fun m => by first | (simp [entryFrame, mkF, argsToLocals, Value.category]; done) | rfl) ?_
  intro p e s m below meth c T0 C S0
  refine own_seg C S0 [(0, .iload_n 1, 1), (1, .iload_n 2, 1)] (by decide +kernel) 2 #[.val (.ref b), .val (.int (0 : Int32)), .val (.int n), .unset, .unset] [(.int n), (.int (0 : Int32))] rfl ?_
  refine own_callS C S0 (own_wd hw 235 rfl) (own_wd hw 236 rfl) (own_wd hw 170 rfl) (own_wd hw 237 rfl) (by decide) (own_Met.pay (own_ckl l Z a0 hw (0 : Int32) n h0 n0 z0 t0) C 0 (own_wd hw 237 rfl) (own_wd hw 170 rfl) (by decide) (by decide)) (fun _ _ _ q => q.2) [(.int (0 : Int32)), (.int n)] [] rfl own_pd14 rfl rfl rfl (Nat.le_of_ble_eq_true rfl) (by decide) (by decide) (by decide +kernel) ?_
  rintro T380 h381 v382 L383 S384 ⟨⟨rfl, e379⟩, -⟩
  replace S384 : own_S p l e ({ frames := 1, cells := 1, slots := 64, locals := 18 } : Room) s m #[(.ref b), (.int (0 : Int32)), (.int n)] below meth c n0 T380 h381 0 0 := S384
  rw [e379] at S384; clear e379
  show own_Go p e below _ T380 (mkF m 5 #[.val (.ref b), .val (.int (0 : Int32)), .val (.int n), .unset, .unset] [])
  refine own_seg C S384 [(5, .iload_n 2, 1), (6, .iload_n 1, 1), (7, .isub, 1), (8, .istore_n 3, 1), (9, .iload_n 3, 1)] (by decide +kernel) 10 #[.val (.ref b), .val (.int (0 : Int32)), .val (.int n), .val (.int (n - (0 : Int32))), .unset] [(.int (n - (0 : Int32)))] rfl ?_
  rw [show (n - (0 : Int32)) = n from Int32.sub_zero n]
  refine own_newP C S384 (aty := .byte) (own_wd hw 24 rfl) (by decide +kernel) t0 64 t3 (by decide) (by decide) (by decide) ?_
  intro T385 h387 a388 k389 S386 g390 E391 f392
  have f393 : Arv Z h387 a388 k389 .byte n (List.replicate n.toNatClampNeg (.int (0 : Int32))) (.int (0 : Int32)) := Arv.pad f392 (pad_rep [] (.int (0 : Int32)) n.toNatClampNeg)
  refine own_seg C S386 [(12, .astore 4, 2), (14, .aload_n 0, 1), (15, .iload_n 1, 1), (16, .aload 4, 2), (18, .iconst 0, 1), (19, .aload_n 0, 1)] (by decide +kernel) 20 #[.val (.ref b), .val (.int (0 : Int32)), .val (.int n), .val (.int n), .val (.ref a388)] [(.ref b), (.int (0 : Int32)), (.ref a388), (.int (0 : Int32)), (.ref b)] rfl ?_
  have f394 : Arv Z h387 b bk .byte bN bvs (.int (0 : Int32)) := (bK.ext E391)
  refine own_alen C S386 f394 (by decide +kernel) ?_
  refine own_seg C S386 [(21, .iload_n 1, 1), (22, .isub, 1), (23, .iload_n 3, 1)] (by decide +kernel) 24 #[.val (.ref b), .val (.int (0 : Int32)), .val (.int n), .val (.int n), .val (.ref a388)] [(.int n), (.int (bN - (0 : Int32))), (.int (0 : Int32)), (.ref a388), (.int (0 : Int32)), (.ref b)] rfl ?_
  have f395 : n0 ≤ h387.size := (Nat.le_trans z0 E391.1)
  refine own_callS C S386 (own_wd hw 172 rfl) (own_wd hw 96 rfl) (own_wd hw 93 rfl) (own_wd hw 97 rfl) (by decide) (own_Met.pay (own_min l Z a0 hw (bN - (0 : Int32)) n h387 n0 f395) C 4 (own_wd hw 97 rfl) (own_wd hw 93 rfl) (by decide) (by decide)) (fun _ _ _ q => q.2) [(.int (bN - (0 : Int32))), (.int n)] [(.int (0 : Int32)), (.ref a388), (.int (0 : Int32)), (.ref b)] rfl own_pd1 rfl rfl rfl (Nat.le_of_ble_eq_true rfl) (by decide) (by decide) (by decide +kernel) ?_
  rintro T397 h398 v399 L400 S401 ⟨⟨rfl, e396⟩, -⟩
  replace S401 : own_S p l e ({ frames := 1, cells := 1, slots := 64, locals := 18 } : Room) s m #[(.ref b), (.int (0 : Int32)), (.int n)] below meth c n0 T397 h398 1 64 := S401
  rw [e396] at S401; clear e396
  show own_Go p e below _ T397 (mkF m 27 #[.val (.ref b), .val (.int (0 : Int32)), .val (.int n), .val (.int n), .val (.ref a388)] [(.int (if n < (bN - (0 : Int32)) then n else (bN - (0 : Int32)))), (.int (0 : Int32)), (.ref a388), (.int (0 : Int32)), (.ref b)])
  rw [show (bN - (0 : Int32)) = bN from Int32.sub_zero bN, own_min_g t1]
  show own_Go p e below _ T397 (mkF m 27 #[.val (.ref b), .val (.int (0 : Int32)), .val (.int n), .val (.int n), .val (.ref a388)] [(.int n), (.int (0 : Int32)), (.ref a388), (.int (0 : Int32)), (.ref b)])
  have g402 : n0 ≤ a388 := by rw [g390]; exact z0
  refine own_copy C S401 (own_wd hw 173 rfl) (own_wd hw 176 rfl) (own_wd hw 174 rfl) (own_wd hw 175 rfl) f394 f393 rfl (by decide) (by decide) t0 (by rw [show (0 : Int32).toNatClampNeg = 0 from rfl]; exact own_nat_le t0 t1) (Nat.le_of_eq (Nat.zero_add _)) (by rw [List.length_replicate]; exact Nat.le_of_eq (Nat.zero_add _)) g402 us (by rw [← t4]; exact own_take0 _ _ _) rfl (by decide +kernel) (by decide) 0 (Nat.le_of_ble_eq_true rfl) (by decide) ?_
  intro T403 h405 S404 K406 f407
  refine own_seg C S404 [(30, .aload 4, 2)] (by decide +kernel) 32 #[.val (.ref b), .val (.int (0 : Int32)), .val (.int n), .val (.int n), .val (.ref a388)] [(.ref a388)] rfl ?_
  refine own_retA C S404 rfl rfl (by decide +kernel) (by decide) (by decide) ?_
  exact ⟨a388, k389, rfl, (by rw [g390]; exact (Nat.le_refl _)), (((Keep.refl _ _).ext E391).trans K406 (allS (Or.inr (by rw [g390]; exact (Nat.le_refl _))) all0)), f407⟩
theorem own_pd15 : parseMethodDescriptor "([BII)[B" = some ⟨[(.array .byte), .int, .int], (some (.array .byte))⟩ := by decide +kernel
set_option maxRecDepth 65536 in
set_option maxHeartbeats 40000000 in
theorem own_cor (l : Launch) (Z : State) (a0 : Array Value) (hw : ∀ d ∈ tables_1, d.before a0 Z = true) (b : Addr) (bk : ClassId) (bN : Int32) (bvs : List Value) (n : Int32) (us : List Value) (h0 : Heap) (n0 : Nat) (z0 : n0 ≤ h0.size) (bK : Arv Z h0 b bk .byte bN bvs (.int (0 : Int32))) (t0 : ¬ n < (0 : Int32)) (t1 : ¬ bN < n) (t2 : ¬ n = bN) (t3 : n.toNatClampNeg ≤ 64) (t4 : ((List.range n.toNatClampNeg).map fun i => bvs.getD ((0 : Int32).toNatClampNeg + i) (.int (0 : Int32))) = us) :
    own_Met l Z (⟨"java/util/Arrays", "copyOfRange", "([BII)[B"⟩ : MethodName) jdk_65_method_132_code 3 (some (.array .byte)) ({ frames := 2, cells := 1, slots := 64, locals := 34 } : Room) n0 #[(.ref b), (.int (0 : Int32)), (.int n)] h0 (fun v h => ∃ r : Addr, ∃ rk : ClassId, v = some (.ref r) ∧ h0.size ≤ r ∧ Keep h0 h [] ∧ Arv Z h r rk .byte n us (.int (0 : Int32))) := by
  refine own_met (by decide +kernel) #[.val (.ref b), .val (.int (0 : Int32)), .val (.int n)] (fun m => by first | (simp [entryFrame, mkF, argsToLocals, Value.category]; done) | rfl) ?_
  intro p e s m below meth c T0 C S0
  refine own_seg C S0 [(0, .iload_n 1, 1)] (by decide +kernel) 1 #[.val (.ref b), .val (.int (0 : Int32)), .val (.int n)] [(.int (0 : Int32))] rfl ?_
  refine own_if C S0 (q := .ne) (o := 9) (by decide +kernel) 10 (by decide) (by decide) (fun (hq : ¬ (0 : Int32) = (0 : Int32)) => False.elim (hq rfl)) (fun (q408 : (0 : Int32) = (0 : Int32)) => ?_)
  refine own_seg C S0 [(4, .iload_n 2, 1), (5, .aload_n 0, 1)] (by decide +kernel) 6 #[.val (.ref b), .val (.int (0 : Int32)), .val (.int n)] [(.ref b), (.int n)] rfl ?_
  refine own_alen C S0 bK (by decide +kernel) ?_
  refine own_icmp C S0 (q := .eq) (o := 10) (by decide +kernel) 17 (by decide) (by decide) (fun (hq : n = bN) => False.elim (t2 hq)) (fun (q409 : ¬ n = bN) => ?_)
  refine own_seg C S0 [(10, .aload_n 0, 1), (11, .iload_n 1, 1), (12, .iload_n 2, 1)] (by decide +kernel) 13 #[.val (.ref b), .val (.int (0 : Int32)), .val (.int n)] [(.int n), (.int (0 : Int32)), (.ref b)] rfl ?_
  refine own_callS C S0 (own_wd hw 232 rfl) (own_wd hw 233 rfl) (own_wd hw 170 rfl) (own_wd hw 234 rfl) (by decide) (own_Met.pay (own_corb l Z a0 hw b bk bN bvs n us h0 n0 z0 bK t0 t1 t2 t3 t4) C 0 (own_wd hw 234 rfl) (own_wd hw 170 rfl) (by decide) (by decide)) (fun _ _ _ q => q.2) [(.ref b), (.int (0 : Int32)), (.int n)] [] rfl own_pd15 rfl rfl rfl (Nat.le_of_ble_eq_true rfl) (by decide) (by decide) (by decide +kernel) ?_
  rintro T415 h416 v417 L418 S419 ⟨⟨a410, k411, rfl, g412, K413, f414⟩, -⟩
  replace S419 : own_S p l e ({ frames := 2, cells := 1, slots := 64, locals := 34 } : Room) s m #[(.ref b), (.int (0 : Int32)), (.int n)] below meth c n0 T415 h416 1 64 := S419
  show own_Go p e below _ T415 (mkF m 16 #[.val (.ref b), .val (.int (0 : Int32)), .val (.int n)] [(.ref a410)])
  refine own_retA C S419 rfl rfl (by decide +kernel) (by decide) (by decide) ?_
  exact ⟨a410, k411, rfl, (Nat.le_trans (Nat.le_refl _) g412), ((Keep.refl _ _).trans K413 all0), f414⟩
set_option maxRecDepth 65536 in
set_option maxHeartbeats 40000000 in
theorem own_gv (l : Launch) (Z : State) (a0 : Array Value) (hw : ∀ d ∈ tables_1, d.before a0 Z = true) (a : Addr) (y : Addr) (h0 : Heap) (n0 : Nat) (z0 : n0 ≤ h0.size) (pF : Fld Z h0 a "java/lang/AbstractStringBuilder" "value" "[B" (.ref y)) :
    own_Met l Z (⟨"java/lang/AbstractStringBuilder", "getValue", "()[B"⟩ : MethodName) jdk_68_method_64_code 1 (some (.array .byte)) ({ frames := 0, cells := 0, slots := 0, locals := 0 } : Room) n0 #[(.ref a)] h0 (fun v h => v = some (.ref y) ∧ h = h0) := by
  refine own_met (by decide +kernel) #[.val (.ref a)] (fun m => by first | (simp [entryFrame, mkF, argsToLocals, Value.category]; done) | rfl) ?_
  intro p e s m below meth c T0 C S0
  refine own_seg C S0 [(0, .aload_n 0, 1)] (by decide +kernel) 1 #[.val (.ref a)] [(.ref a)] rfl ?_
  refine own_getF C S0 (host := "") (Or.inl (own_wd hw 133 rfl)) Via.refl pF (by decide +kernel) ?_
  intro T420 S421
  refine own_retA C S421 rfl rfl (by decide +kernel) (by decide) (by decide) ?_
  exact ⟨rfl, rfl⟩
set_option maxRecDepth 65536 in
set_option maxHeartbeats 40000000 in
theorem own_asbL (l : Launch) (Z : State) (a0 : Array Value) (hw : ∀ d ∈ tables_1, d.before a0 Z = true) (a : Addr) (y : Int32) (h0 : Heap) (n0 : Nat) (z0 : n0 ≤ h0.size) (pF : Fld Z h0 a "java/lang/AbstractStringBuilder" "count" "I" (.int y)) :
    own_Met l Z (⟨"java/lang/AbstractStringBuilder", "length", "()I"⟩ : MethodName) jdk_68_method_6_code 1 (some .int) ({ frames := 0, cells := 0, slots := 0, locals := 0 } : Room) n0 #[(.ref a)] h0 (fun v h => v = some (.int y) ∧ h = h0) := by
  refine own_met (by decide +kernel) #[.val (.ref a)] (fun m => by first | (simp [entryFrame, mkF, argsToLocals, Value.category]; done) | rfl) ?_
  intro p e s m below meth c T0 C S0
  refine own_seg C S0 [(0, .aload_n 0, 1)] (by decide +kernel) 1 #[.val (.ref a)] [(.ref a)] rfl ?_
  refine own_getF C S0 (host := "") (Or.inl (own_wd hw 149 rfl)) Via.refl pF (by decide +kernel) ?_
  intro T422 S423
  refine own_retI C S423 (by decide +kernel) (by decide) (by decide) ?_
  exact ⟨rfl, rfl⟩
set_option maxRecDepth 65536 in
set_option maxHeartbeats 40000000 in
theorem own_sbL (l : Launch) (Z : State) (a0 : Array Value) (hw : ∀ d ∈ tables_1, d.before a0 Z = true) (a : Addr) (y : Int32) (h0 : Heap) (n0 : Nat) (z0 : n0 ≤ h0.size) (pF : Fld Z h0 a "java/lang/AbstractStringBuilder" "count" "I" (.int y)) (aE : Exa Z h0 a "java/lang/StringBuilder") :
    own_Met l Z (⟨"java/lang/StringBuilder", "length", "()I"⟩ : MethodName) jdk_67_method_93_code 1 (some .int) ({ frames := 1, cells := 0, slots := 0, locals := 12 } : Room) n0 #[(.ref a)] h0 (fun v h => v = some (.int y) ∧ h = h0) := by
  refine own_met (by decide +kernel) #[.val (.ref a)] (fun m => by first | (simp [entryFrame, mkF, argsToLocals, Value.category]; done) | rfl) ?_
  intro p e s m below meth c T0 C S0
  refine own_seg C S0 [(0, .aload_n 0, 1)] (by decide +kernel) 1 #[.val (.ref a)] [(.ref a)] rfl ?_
  refine own_callX C S0 (own_wd hw 222 rfl) (own_same (y' := ⟨"java/lang/AbstractStringBuilder", "ensureCapacityInternal", "(I)V"⟩) rfl (own_wd hw 218 rfl) (own_wd hw 154 rfl) (by decide)) (own_wd hw 218 rfl) (own_wd hw 145 rfl) (by decide) (own_wd hw 223 rfl) (own_Met.pay (own_asbL l Z a0 hw a y h0 n0 z0 pF) C 0 (own_wd hw 223 rfl) (own_wd hw 129 rfl) (by decide) (by decide)) (fun _ _ _ q => q.2) (Ins.self aE) [] [] rfl own_pd4 rfl rfl rfl (Nat.le_of_ble_eq_true rfl) (by decide) (by decide) (by decide +kernel) ?_
  rintro T425 h426 v427 L428 S429 ⟨⟨rfl, e424⟩, -⟩
  replace S429 : own_S p l e ({ frames := 1, cells := 0, slots := 0, locals := 12 } : Room) s m #[(.ref a)] below meth c n0 T425 h426 0 0 := S429
  rw [e424] at S429; clear e424
  show own_Go p e below _ T425 (mkF m 4 #[.val (.ref a)] [(.int y)])
  refine own_retI C S429 (by decide +kernel) (by decide) (by decide) ?_
  exact ⟨rfl, rfl⟩
set_option maxRecDepth 65536 in
set_option maxHeartbeats 40000000 in
theorem own_asbisL (l : Launch) (Z : State) (a0 : Array Value) (hw : ∀ d ∈ tables_1, d.before a0 Z = true) (G1 : Int32) (G3 : Value) (x : Addr) (h0 : Heap) (n0 : Nat) (z0 : n0 ≤ h0.size) (X00 : Old Z n0 h0) (pC : Fld Z h0 x "java/lang/AbstractStringBuilder" "coder" "B" (.int 0)) (O2 : Sta Z Z.heap "java/lang/String" "COMPACT_STRINGS" "Z" (.int G1)) (O4 : Sta Z Z.heap "jdk/internal/util/Preconditions" "SIOOBE_FORMATTER" "Ljava/util/function/BiFunction;" G3) (P5 : ¬ G1 = (0 : Int32)) (rG3 : G3.isRef = true) :
    own_Met l Z (⟨"java/lang/AbstractStringBuilder", "isLatin1", "()Z"⟩ : MethodName) jdk_68_method_68_code 1 (some .boolean) ({ frames := 0, cells := 0, slots := 0, locals := 0 } : Room) n0 #[(.ref x)] h0 (fun v h => v = some (.int (1 : Int32)) ∧ h = h0) := by
  refine own_met (by decide +kernel) #[.val (.ref x)] (fun m => by first | (simp [entryFrame, mkF, argsToLocals, Value.category]; done) | rfl) ?_
  intro p e s m below meth c T0 C S0
  refine own_getS C S0 (own_wd hw 132 rfl) Via.refl (O2.ext X00.2) (by decide +kernel) ?_
  intro T430 S431
  refine own_if C S431 (q := .eq) (o := 14) (by decide +kernel) 17 (by decide) (by decide) (fun (hq : G1 = (0 : Int32)) => False.elim (P5 hq)) (fun (q432 : ¬ G1 = (0 : Int32)) => ?_)
  refine own_seg C S431 [(6, .aload_n 0, 1)] (by decide +kernel) 7 #[.val (.ref x)] [(.ref x)] rfl ?_
  refine own_getF C S431 (host := "") (Or.inl (own_wd hw 135 rfl)) Via.refl pC (by decide +kernel) ?_
  intro T433 S434
  refine own_if C S434 (q := .ne) (o := 7) (by decide +kernel) 17 (by decide) (by decide) (fun (hq : ¬ 0 = (0 : Int32)) => False.elim (hq rfl)) (fun (q435 : 0 = (0 : Int32)) => ?_)
  refine own_seg C S434 [(13, .iconst 1, 1), (14, .goto 4, 3)] (by decide +kernel) 18 #[.val (.ref x)] [(.int (1 : Int32))] rfl ?_
  refine own_retZ C S434 (by decide +kernel) (by decide) (by decide) (by decide) ?_
  exact ⟨rfl, rfl⟩
theorem own_pd16 : parseMethodDescriptor "()[B" = some ⟨[], (some (.array .byte))⟩ := by decide +kernel
theorem own_sn6 {Z : State} {a0 : Array Value} (hw : ∀ d ∈ tables_1, d.before a0 Z = true) : Jvm.RoadKit.slotOf Z "java/lang/String" "value" "[B" ≠ Jvm.RoadKit.slotOf Z "java/lang/String" "coder" "B" := slot_ne (Or.inr (own_wd hw 34 rfl)) (Or.inr (own_wd hw 32 rfl)) (by decide) own_fd0 own_fd1
theorem own_sn7 {Z : State} {a0 : Array Value} (hw : ∀ d ∈ tables_1, d.before a0 Z = true) : Jvm.RoadKit.slotOf Z "java/lang/String" "coder" "B" ≠ Jvm.RoadKit.slotOf Z "java/lang/String" "value" "[B" := slot_ne (Or.inr (own_wd hw 32 rfl)) (Or.inr (own_wd hw 34 rfl)) (by decide) own_fd1 own_fd0
set_option maxRecDepth 65536 in
set_option maxHeartbeats 40000000 in
theorem own_sib (l : Launch) (Z : State) (a0 : Array Value) (hw : ∀ d ∈ tables_1, d.before a0 Z = true) (G1 : Int32) (G3 : Value) (x : Addr) (a : Addr) (b : Addr) (bk : ClassId) (bN : Int32) (bvs : List Value) (cnt : Int32) (us : List Value) (h0 : Heap) (n0 : Nat) (z0 : n0 ≤ h0.size) (ge_x : n0 ≤ x) (X00 : Old Z n0 h0) (xE : Exa Z h0 x "java/lang/String") (xV : Fld Z h0 x "java/lang/String" "value" "[B" .null) (xC : Fld Z h0 x "java/lang/String" "coder" "B" (.int (0 : Int32))) (aE : Exa Z h0 a "java/lang/StringBuilder") (aV : Fld Z h0 a "java/lang/AbstractStringBuilder" "value" "[B" (.ref b)) (aC : Fld Z h0 a "java/lang/AbstractStringBuilder" "coder" "B" (.int (0 : Int32))) (aN : Fld Z h0 a "java/lang/AbstractStringBuilder" "count" "I" (.int cnt)) (bK : Arv Z h0 b bk .byte bN bvs (.int (0 : Int32))) (ne_a_x : a ≠ x) (ne_b_x : b ≠ x) (O2 : Sta Z Z.heap "java/lang/String" "COMPACT_STRINGS" "Z" (.int G1)) (O4 : Sta Z Z.heap "jdk/internal/util/Preconditions" "SIOOBE_FORMATTER" "Ljava/util/function/BiFunction;" G3) (P5 : ¬ G1 = (0 : Int32)) (rG3 : G3.isRef = true) (t0 : ¬ cnt < (0 : Int32)) (t1 : ¬ bN < cnt) (t2 : ¬ cnt = bN) (t3 : cnt.toNatClampNeg ≤ 64) (t4 : ((List.range cnt.toNatClampNeg).map fun i => bvs.getD ((0 : Int32).toNatClampNeg + i) (.int (0 : Int32))) = us) :
    own_Met l Z (⟨"java/lang/String", "<init>", "(Ljava/lang/AbstractStringBuilder;Ljava/lang/Void;)V"⟩ : MethodName) jdk_42_method_150_code 5 none ({ frames := 3, cells := 1, slots := 64, locals := 49 } : Room) n0 #[(.ref x), (.ref a), .null] h0 (fun v h => ∃ r : Addr, ∃ rk : ClassId, v = none ∧ h0.size ≤ r ∧ Keep h0 h [x] ∧ Exa Z h x "java/lang/String" ∧ Fld Z h x "java/lang/String" "coder" "B" (.int 0) ∧ Fld Z h x "java/lang/String" "value" "[B" (.ref r) ∧ Arv Z h r rk .byte cnt us (.int 0)) := by
  refine own_met (by decide +kernel) #[.val (.ref x), .val (.ref a), .val .null, .unset, .unset] (fun m => by first | (simp [entryFrame, mkF, argsToLocals, Value.category]; done) | rfl) ?_
  intro p e s m below meth c T0 C S0
  refine own_seg C S0 [(0, .aload_n 0, 1)] (by decide +kernel) 1 #[.val (.ref x), .val (.ref a), .val .null, .unset, .unset] [(.ref x)] rfl ?_
  refine own_initO C S0 (own_wd hw 16 rfl) (own_wd hw 17 rfl) (own_wd hw 18 rfl) rfl (by decide +kernel) (by decide) 0 (Nat.le_of_ble_eq_true rfl) (by decide) ?_
  intro T436 S437
  refine own_seg C S437 [(4, .aload_n 1, 1)] (by decide +kernel) 5 #[.val (.ref x), .val (.ref a), .val .null, .unset, .unset] [(.ref a)] rfl ?_
  refine own_callV C S437 (own_wd hw 211 rfl) (own_wd hw 212 rfl) (own_wd hw 214 rfl) (y' := ⟨"java/lang/AbstractStringBuilder", "getValue", "()[B"⟩) rfl (own_wd hw 214 rfl) (own_wd hw 213 rfl) (by decide) (own_Met.pay (own_gv l Z a0 hw a b h0 n0 z0 aV) C 0 (own_wd hw 215 rfl) (own_wd hw 129 rfl) (by decide) (by decide)) (fun _ _ _ q => q.2) aE [] [] rfl own_pd16 rfl rfl rfl (Nat.le_of_ble_eq_true rfl) (by decide) (by decide) (by decide +kernel) ?_
  rintro T439 h440 v441 L442 S443 ⟨⟨rfl, e438⟩, -⟩
  replace S443 : own_S p l e ({ frames := 3, cells := 1, slots := 64, locals := 49 } : Room) s m #[(.ref x), (.ref a), .null] below meth c n0 T439 h440 0 0 := S443
  rw [e438] at S443; clear e438
  show own_Go p e below _ T439 (mkF m 8 #[.val (.ref x), .val (.ref a), .val .null, .unset, .unset] [(.ref b)])
  refine own_seg C S443 [(8, .astore_n 3, 1), (9, .aload_n 1, 1)] (by decide +kernel) 10 #[.val (.ref x), .val (.ref a), .val .null, .val (.ref b), .unset] [(.ref a)] rfl ?_
  refine own_callV C S443 (own_wd hw 216 rfl) (own_wd hw 217 rfl) (own_wd hw 219 rfl) (y' := ⟨"java/lang/AbstractStringBuilder", "ensureCapacityInternal", "(I)V"⟩) rfl (own_wd hw 154 rfl) (own_wd hw 220 rfl) (by decide) (own_Met.pay (own_sbL l Z a0 hw a cnt h0 n0 z0 aN aE) C 0 (own_wd hw 221 rfl) (own_wd hw 121 rfl) (by decide) (by decide)) (fun _ _ _ q => q.2) aE [] [] rfl own_pd4 rfl rfl rfl (Nat.le_of_ble_eq_true rfl) (by decide) (by decide) (by decide +kernel) ?_
  rintro T445 h446 v447 L448 S449 ⟨⟨rfl, e444⟩, -⟩
  replace S449 : own_S p l e ({ frames := 3, cells := 1, slots := 64, locals := 49 } : Room) s m #[(.ref x), (.ref a), .null] below meth c n0 T445 h446 0 0 := S449
  rw [e444] at S449; clear e444
  show own_Go p e below _ T445 (mkF m 13 #[.val (.ref x), .val (.ref a), .val .null, .val (.ref b), .unset] [(.int cnt)])
  refine own_seg C S449 [(13, .istore 4, 2), (15, .aload_n 1, 1)] (by decide +kernel) 16 #[.val (.ref x), .val (.ref a), .val .null, .val (.ref b), .val (.int cnt)] [(.ref a)] rfl ?_
  refine own_callV C S449 (own_wd hw 224 rfl) (own_wd hw 225 rfl) (own_wd hw 227 rfl) (y' := ⟨"java/lang/AbstractStringBuilder", "isLatin1", "()Z"⟩) rfl (own_wd hw 227 rfl) (own_wd hw 226 rfl) (by decide) (own_Met.pay (own_asbisL l Z a0 hw G1 G3 a h0 n0 z0 X00 aC O2 O4 P5 rG3) C 0 (own_wd hw 228 rfl) (own_wd hw 129 rfl) (by decide) (by decide)) (fun _ _ _ q => q.2) aE [] [] rfl own_pd3 rfl rfl rfl (Nat.le_of_ble_eq_true rfl) (by decide) (by decide) (by decide +kernel) ?_
  rintro T451 h452 v453 L454 S455 ⟨⟨rfl, e450⟩, -⟩
  replace S455 : own_S p l e ({ frames := 3, cells := 1, slots := 64, locals := 49 } : Room) s m #[(.ref x), (.ref a), .null] below meth c n0 T451 h452 0 0 := S455
  rw [e450] at S455; clear e450
  show own_Go p e below _ T451 (mkF m 19 #[.val (.ref x), .val (.ref a), .val .null, .val (.ref b), .val (.int cnt)] [(.int (1 : Int32))])
  refine own_if C S455 (q := .eq) (o := 22) (by decide +kernel) 41 (by decide) (by decide) (fun (hq : (1 : Int32) = (0 : Int32)) => False.elim (absurd hq (by decide))) (fun (q456 : ¬ (1 : Int32) = (0 : Int32)) => ?_)
  refine own_seg C S455 [(22, .aload_n 0, 1), (23, .iconst 0, 1)] (by decide +kernel) 24 #[.val (.ref x), .val (.ref a), .val .null, .val (.ref b), .val (.int cnt)] [(.int (0 : Int32)), (.ref x)] rfl ?_
  refine own_putF C S455 (ty := .byte) (host := "") (Or.inl (own_wd hw 31 rfl)) Via.refl xC xE (Or.inr ⟨(own_wd hw 32 rfl), rfl, rfl⟩) (own_wd hw 7 rfl) own_fd1 rfl rfl ge_x (by decide +kernel) ?_
  intro T457 h459 S458 W460
  have f461 : Fld Z h459 x "java/lang/String" "coder" "B" (.int (0 : Int32)) := Fld.same W460 xC
  refine own_seg C S458 [(27, .aload_n 0, 1), (28, .aload_n 3, 1), (29, .iconst 0, 1), (30, .iload 4, 2)] (by decide +kernel) 32 #[.val (.ref x), .val (.ref a), .val .null, .val (.ref b), .val (.int cnt)] [(.int cnt), (.int (0 : Int32)), (.ref b), (.ref x)] rfl ?_
  have f462 : Arv Z h459 b bk .byte bN bvs (.int (0 : Int32)) := (bK.other W460 ne_b_x)
  have f463 : n0 ≤ h459.size := (by rw [W460.size]; exact z0)
  refine own_callS C S458 (own_wd hw 229 rfl) (own_wd hw 230 rfl) (own_wd hw 170 rfl) (own_wd hw 231 rfl) (by decide) (own_Met.pay (own_cor l Z a0 hw b bk bN bvs cnt us h459 n0 f463 f462 t0 t1 t2 t3 t4) C 1 (own_wd hw 231 rfl) (own_wd hw 170 rfl) (by decide) (by decide)) (fun _ _ _ q => q.2) [(.ref b), (.int (0 : Int32)), (.int cnt)] [(.ref x)] rfl own_pd15 rfl rfl rfl (Nat.le_of_ble_eq_true rfl) (by decide) (by decide) (by decide +kernel) ?_
  rintro T469 h470 v471 L472 S473 ⟨⟨a464, k465, rfl, g466, K467, f468⟩, -⟩
  replace S473 : own_S p l e ({ frames := 3, cells := 1, slots := 64, locals := 49 } : Room) s m #[(.ref x), (.ref a), .null] below meth c n0 T469 h470 1 64 := S473
  show own_Go p e below _ T469 (mkF m 35 #[.val (.ref x), .val (.ref a), .val .null, .val (.ref b), .val (.int cnt)] [(.ref a464), (.ref x)])
  have f474 : Fld Z h470 x "java/lang/String" "value" "[B" .null := ((Fld.other W460 xV (Or.inr (own_sn6 hw))).keep K467 nin0)
  have f475 : Exa Z h470 x "java/lang/String" := ((Exa.wr W460 xE).keep K467)
  refine own_putF C S473 (ty := (.array .byte)) (host := "") (Or.inl (own_wd hw 33 rfl)) Via.refl f474 f475 (Or.inr ⟨(own_wd hw 34 rfl), rfl, rfl⟩) (own_wd hw 7 rfl) own_fd0 rfl rfl ge_x (by decide +kernel) ?_
  intro T476 h478 S477 W479
  have f480 : Fld Z h478 x "java/lang/String" "value" "[B" (.ref a464) := Fld.same W479 f474
  refine own_seg C S477 [(38, .goto 59, 3)] (by decide +kernel) 97 #[.val (.ref x), .val (.ref a), .val .null, .val (.ref b), .val (.int cnt)] [] rfl ?_
  refine own_retV C S477 (by decide +kernel) (by decide) (by decide) ?_
  have f481 : Exa Z h478 x "java/lang/String" := (Exa.wr W479 f475)
  have f482 : Fld Z h478 x "java/lang/String" "coder" "B" (.int (0 : Int32)) := (Fld.other W479 (f461.keep K467 nin0) (Or.inr (own_sn7 hw)))
  have f483 : x < h459.size := (by rw [W460.size]; exact xC.lt)
  have n484 : x ≠ a464 := Nat.ne_of_lt (Nat.lt_of_lt_of_le f483 g466)
  have f485 : Arv Z h478 a464 k465 .byte cnt us (.int (0 : Int32)) := (f468.other W479 (Ne.symm n484))
  exact ⟨a464, k465, rfl, (Nat.le_trans (by rw [W460.size]; exact (Nat.le_refl _)) g466), ((((Keep.refl _ _).wr W460 (Or.inl (List.mem_of_getElem? (i := 0) rfl))).trans K467 all0).wr W479 (Or.inl (List.mem_of_getElem? (i := 0) rfl))), f481, f482, f480, f485⟩
theorem own_pd17 : parseMethodDescriptor "(Ljava/lang/AbstractStringBuilder;Ljava/lang/Void;)V" = some ⟨[(.object "java/lang/AbstractStringBuilder"), (.object "java/lang/Void")], none⟩ := by decide +kernel
set_option maxRecDepth 65536 in
set_option maxHeartbeats 40000000 in
theorem own_sib2 (l : Launch) (Z : State) (a0 : Array Value) (hw : ∀ d ∈ tables_1, d.before a0 Z = true) (G1 : Int32) (G3 : Value) (x : Addr) (a : Addr) (b : Addr) (bk : ClassId) (bN : Int32) (bvs : List Value) (cnt : Int32) (us : List Value) (h0 : Heap) (n0 : Nat) (z0 : n0 ≤ h0.size) (ge_x : n0 ≤ x) (X00 : Old Z n0 h0) (xE : Exa Z h0 x "java/lang/String") (xV : Fld Z h0 x "java/lang/String" "value" "[B" .null) (xC : Fld Z h0 x "java/lang/String" "coder" "B" (.int (0 : Int32))) (aE : Exa Z h0 a "java/lang/StringBuilder") (aV : Fld Z h0 a "java/lang/AbstractStringBuilder" "value" "[B" (.ref b)) (aC : Fld Z h0 a "java/lang/AbstractStringBuilder" "coder" "B" (.int (0 : Int32))) (aN : Fld Z h0 a "java/lang/AbstractStringBuilder" "count" "I" (.int cnt)) (bK : Arv Z h0 b bk .byte bN bvs (.int (0 : Int32))) (ne_a_x : a ≠ x) (ne_b_x : b ≠ x) (O2 : Sta Z Z.heap "java/lang/String" "COMPACT_STRINGS" "Z" (.int G1)) (O4 : Sta Z Z.heap "jdk/internal/util/Preconditions" "SIOOBE_FORMATTER" "Ljava/util/function/BiFunction;" G3) (P5 : ¬ G1 = (0 : Int32)) (rG3 : G3.isRef = true) (t0 : ¬ cnt < (0 : Int32)) (t1 : ¬ bN < cnt) (t2 : ¬ cnt = bN) (t3 : cnt.toNatClampNeg ≤ 64) (t4 : ((List.range cnt.toNatClampNeg).map fun i => bvs.getD ((0 : Int32).toNatClampNeg + i) (.int (0 : Int32))) = us) :
    own_Met l Z (⟨"java/lang/String", "<init>", "(Ljava/lang/StringBuilder;)V"⟩ : MethodName) jdk_42_method_53_code 2 none ({ frames := 4, cells := 1, slots := 64, locals := 65 } : Room) n0 #[(.ref x), (.ref a)] h0 (fun v h => ∃ r : Addr, ∃ rk : ClassId, v = none ∧ h0.size ≤ r ∧ Keep h0 h [x] ∧ Exa Z h x "java/lang/String" ∧ Fld Z h x "java/lang/String" "coder" "B" (.int 0) ∧ Fld Z h x "java/lang/String" "value" "[B" (.ref r) ∧ Arv Z h r rk .byte cnt us (.int 0)) := by
  refine own_met (by decide +kernel) #[.val (.ref x), .val (.ref a)] (fun m => by first | (simp [entryFrame, mkF, argsToLocals, Value.category]; done) | rfl) ?_
  intro p e s m below meth c T0 C S0
  refine own_seg C S0 [(0, .aload_n 0, 1), (1, .aload_n 1, 1), (2, .aconst_null, 1)] (by decide +kernel) 3 #[.val (.ref x), .val (.ref a)] [.null, (.ref a), (.ref x)] rfl ?_
  refine own_callI C S0 rfl (own_wd hw 208 rfl) (own_wd hw 209 rfl) (own_wd hw 210 rfl) (by decide) (own_Met.pay (own_sib l Z a0 hw G1 G3 x a b bk bN bvs cnt us h0 n0 z0 ge_x X00 xE xV xC aE aV aC aN bK ne_a_x ne_b_x O2 O4 P5 rG3 t0 t1 t2 t3 t4) C 0 (own_wd hw 210 rfl) (own_wd hw 8 rfl) (by decide) (by decide)) (fun _ _ _ q => q.2) [(.ref a), .null] [] rfl own_pd17 rfl rfl rfl (Nat.le_of_ble_eq_true rfl) (by decide) (by decide) (by decide +kernel) ?_
  rintro T494 h495 v496 L497 S498 ⟨⟨a486, k487, rfl, g488, K489, f490, f491, f492, f493⟩, -⟩
  replace S498 : own_S p l e ({ frames := 4, cells := 1, slots := 64, locals := 65 } : Room) s m #[(.ref x), (.ref a)] below meth c n0 T494 h495 1 64 := S498
  show own_Go p e below _ T494 (mkF m 6 #[.val (.ref x), .val (.ref a)] [])
  refine own_retV C S498 (by decide +kernel) (by decide) (by decide) ?_
  exact ⟨a486, k487, rfl, (Nat.le_trans (Nat.le_refl _) g488), ((Keep.refl _ _).trans K489 (allS (Or.inl (List.mem_of_getElem? (i := 0) rfl)) all0)), f490, f491, f492, f493⟩
theorem own_pd18 : parseMethodDescriptor "(Ljava/lang/StringBuilder;)V" = some ⟨[(.object "java/lang/StringBuilder")], none⟩ := by decide +kernel
set_option maxRecDepth 65536 in
set_option maxHeartbeats 40000000 in
theorem own_ts (l : Launch) (Z : State) (a0 : Array Value) (hw : ∀ d ∈ tables_1, d.before a0 Z = true) (G1 : Int32) (G3 : Value) (a : Addr) (b : Addr) (bk : ClassId) (bN : Int32) (bvs : List Value) (cnt : Int32) (us : List Value) (h0 : Heap) (n0 : Nat) (z0 : n0 ≤ h0.size) (X00 : Old Z n0 h0) (aE : Exa Z h0 a "java/lang/StringBuilder") (aV : Fld Z h0 a "java/lang/AbstractStringBuilder" "value" "[B" (.ref b)) (aC : Fld Z h0 a "java/lang/AbstractStringBuilder" "coder" "B" (.int (0 : Int32))) (aN : Fld Z h0 a "java/lang/AbstractStringBuilder" "count" "I" (.int cnt)) (bK : Arv Z h0 b bk .byte bN bvs (.int (0 : Int32))) (O2 : Sta Z Z.heap "java/lang/String" "COMPACT_STRINGS" "Z" (.int G1)) (O4 : Sta Z Z.heap "jdk/internal/util/Preconditions" "SIOOBE_FORMATTER" "Ljava/util/function/BiFunction;" G3) (P5 : ¬ G1 = (0 : Int32)) (rG3 : G3.isRef = true) (t0 : ¬ cnt < (0 : Int32)) (t1 : ¬ bN < cnt) (t2 : ¬ cnt = bN) (t3 : cnt.toNatClampNeg ≤ 64) (t4 : ((List.range cnt.toNatClampNeg).map fun i => bvs.getD ((0 : Int32).toNatClampNeg + i) (.int (0 : Int32))) = us) :
    own_Met l Z (⟨"java/lang/StringBuilder", "toString", "()Ljava/lang/String;"⟩ : MethodName) jdk_67_method_42_code 1 (some (.object "java/lang/String")) ({ frames := 5, cells := 2, slots := 68, locals := 79 } : Room) n0 #[(.ref a)] h0 (fun v h => ∃ x : Addr, ∃ r : Addr, ∃ rk : ClassId, v = some (.ref x) ∧ h0.size ≤ x ∧ h0.size ≤ r ∧ Keep h0 h [] ∧ Exa Z h x "java/lang/String" ∧ Fld Z h x "java/lang/String" "coder" "B" (.int 0) ∧ Fld Z h x "java/lang/String" "value" "[B" (.ref r) ∧ Arv Z h r rk .byte cnt us (.int 0)) := by
  refine own_met (by decide +kernel) #[.val (.ref a)] (fun m => by first | (simp [entryFrame, mkF, argsToLocals, Value.category]; done) | rfl) ?_
  intro p e s m below meth c T0 C S0
  refine own_new C S0 (own_wd hw 204 rfl) (own_wd hw 7 rfl) (own_wd hw 8 rfl) (by decide +kernel) (by decide) (by decide) ?_
  intro T499 h501 a502 S500 g503 E504 x505 D506
  have f507 : Fld Z h501 a502 "java/lang/String" "coder" "B" (.int (0 : Int32)) := D506 (ty := .byte) (Or.inr (own_wd hw 32 rfl)) own_fd1
  have f508 : Fld Z h501 a502 "java/lang/String" "value" "[B" .null := D506 (ty := (.array .byte)) (Or.inr (own_wd hw 34 rfl)) own_fd0
  refine own_seg C S500 [(3, .dup, 1), (4, .aload_n 0, 1)] (by decide +kernel) 5 #[.val (.ref a)] [(.ref a), (.ref a502), (.ref a502)] rfl ?_
  have f509 : Old Z n0 h501 := (X00.ext E504)
  have f510 : Exa Z h501 a "java/lang/StringBuilder" := (Exa.ext E504 aE)
  have f511 : Fld Z h501 a "java/lang/AbstractStringBuilder" "value" "[B" (.ref b) := (Fld.ext E504 aV)
  have f512 : Fld Z h501 a "java/lang/AbstractStringBuilder" "coder" "B" (.int (0 : Int32)) := (Fld.ext E504 aC)
  have f513 : Fld Z h501 a "java/lang/AbstractStringBuilder" "count" "I" (.int cnt) := (Fld.ext E504 aN)
  have f514 : Arv Z h501 b bk .byte bN bvs (.int (0 : Int32)) := (bK.ext E504)
  have f515 : n0 ≤ h501.size := (Nat.le_trans z0 E504.1)
  have g516 : n0 ≤ a502 := by rw [g503]; exact z0
  have n517 : a ≠ a502 := by rw [g503]; exact Nat.ne_of_lt aE.lt
  have n518 : b ≠ a502 := by rw [g503]; exact Nat.ne_of_lt bK.lt
  refine own_callI C S500 rfl (own_wd hw 205 rfl) (own_wd hw 206 rfl) (own_wd hw 207 rfl) (by decide) (own_Met.pay (own_sib2 l Z a0 hw G1 G3 a502 a b bk bN bvs cnt us h501 n0 f515 g516 f509 x505 f508 f507 f510 f511 f512 f513 f514 n517 n518 O2 O4 P5 rG3 t0 t1 t2 t3 t4) C 1 (own_wd hw 207 rfl) (own_wd hw 8 rfl) (by decide) (by decide)) (fun _ _ _ q => q.2) [(.ref a)] [(.ref a502)] rfl own_pd18 rfl rfl rfl (Nat.le_of_ble_eq_true rfl) (by decide) (by decide) (by decide +kernel) ?_
  rintro T527 h528 v529 L530 S531 ⟨⟨a519, k520, rfl, g521, K522, f523, f524, f525, f526⟩, -⟩
  replace S531 : own_S p l e ({ frames := 5, cells := 2, slots := 68, locals := 79 } : Room) s m #[(.ref a)] below meth c n0 T527 h528 2 68 := S531
  show own_Go p e below _ T527 (mkF m 8 #[.val (.ref a)] [(.ref a502)])
  refine own_retA C S531 rfl rfl (by decide +kernel) (by decide) (by decide) ?_
  exact ⟨a502, a519, k520, rfl, (by rw [g503]; exact (Nat.le_refl _)), (Nat.le_trans (Nat.le_trans (Nat.le_refl _) E504.1) g521), (((Keep.refl _ _).ext E504).trans K522 (allS (Or.inr (by rw [g503]; exact (Nat.le_refl _))) all0)), f523, f524, f525, f526⟩
set_option maxRecDepth 65536 in
set_option maxHeartbeats 40000000 in
theorem own_nsn (l : Launch) (Z : State) (a0 : Array Value) (hw : ∀ d ∈ tables_1, d.before a0 Z = true) (a : Addr) (y : Addr) (h0 : Heap) (n0 : Nat) (z0 : n0 ≤ h0.size) (pF : Fld Z h0 a "com/example/nearfar_cache/nearfarcache/Namespace" "name" "Ljava/lang/String;" (.ref y)) :
    own_Met l Z (⟨"com/example/nearfar_cache/nearfarcache/Namespace", "name", "()Ljava/lang/String;"⟩ : MethodName) prog_19_method_5_code 1 (some (.object "java/lang/String")) ({ frames := 0, cells := 0, slots := 0, locals := 0 } : Room) n0 #[(.ref a)] h0 (fun v h => v = some (.ref y) ∧ h = h0) := by
  refine own_met (by decide +kernel) #[.val (.ref a)] (fun m => by first | (simp [entryFrame, mkF, argsToLocals, Value.category]; done) | rfl) ?_
  intro p e s m below meth c T0 C S0
  refine own_seg C S0 [(0, .aload_n 0, 1)] (by decide +kernel) 1 #[.val (.ref a)] [(.ref a)] rfl ?_
  refine own_getF C S0 (host := "") (Or.inl (own_wd hw 111 rfl)) Via.refl pF (by decide +kernel) ?_
  intro T532 S533
  refine own_retA C S533 rfl rfl (by decide +kernel) (by decide) (by decide) ?_
  exact ⟨rfl, rfl⟩
set_option maxRecDepth 65536 in
set_option maxHeartbeats 40000000 in
theorem own_ch (l : Launch) (Z : State) (a0 : Array Value) (hw : ∀ d ∈ tables_1, d.before a0 Z = true) (x : Int32) (h0 : Heap) (n0 : Nat) (z0 : n0 ≤ h0.size) :
    own_Met l Z (⟨"com/example/nearfar_cache/nearfarcache/redis/RedisKeysInvalidationChannelPinLaw", "ch", "(I)C"⟩ : MethodName) method_2_code 2 (some .char) ({ frames := 0, cells := 0, slots := 0, locals := 0 } : Room) n0 #[(.int x)] h0 (fun v h => ∃ r : Int32, v = some (.int r) ∧ h = h0 ∧ own_Ch r ∧ ¬ r = (58 : Int32)) := by
  refine own_met (by decide +kernel) #[.val (.int x), .unset] (fun m => by first | (simp [entryFrame, mkF, argsToLocals, Value.category]; done) | rfl) ?_
  intro p e s m below meth c T0 C S0
  refine own_seg C S0 [(0, .iload_n 0, 1), (1, .sipush 255, 3), (4, .iand, 1), (5, .i2c, 1), (6, .istore_n 1, 1), (7, .iload_n 1, 1), (8, .bipush 58, 2)] (by decide +kernel) 10 #[.val (.int x), .val (.int ((x &&& (255 : Int32)).toUInt32.toUInt16.toUInt32.toInt32))] [(.int (58 : Int32)), (.int ((x &&& (255 : Int32)).toUInt32.toUInt16.toUInt32.toInt32))] rfl ?_
  rw [show (x &&& (255 : Int32)).toUInt32.toUInt16.toUInt32.toInt32 = (x &&& (255 : Int32)) from i2c_mask x]
  refine own_icmp C S0 (q := .ne) (o := 6) (by decide +kernel) 16 (by decide) (by decide) (fun (q534 : ¬ (x &&& (255 : Int32)) = (58 : Int32)) => ?_) (fun (q535 : (x &&& (255 : Int32)) = (58 : Int32)) => ?_)
  · refine own_seg C S0 [(16, .iload_n 1, 1)] (by decide +kernel) 17 #[.val (.int x), .val (.int (x &&& (255 : Int32)))] [(.int (x &&& (255 : Int32)))] rfl ?_
    refine own_retC C S0 (by decide +kernel) (i2c_mask x) (by decide) (by decide) ?_
    exact ⟨_, rfl, rfl, own_Ch.of x, q534⟩
  · refine own_seg C S0 [(13, .bipush 59, 2), (15, .istore_n 1, 1), (16, .iload_n 1, 1)] (by decide +kernel) 17 #[.val (.int x), .val (.int (59 : Int32))] [(.int (59 : Int32))] rfl ?_
    refine own_retC C S0 (by decide +kernel) rfl (by decide) (by decide) ?_
    exact ⟨_, rfl, rfl, ⟨by decide, by decide, by decide⟩, by decide⟩
theorem own_pd19 : parseMethodDescriptor "()V" = some ⟨[], none⟩ := by decide +kernel
theorem own_pd20 : parseMethodDescriptor "(Ljava/lang/Object;Ljava/lang/String;)Ljava/lang/Object;" = some ⟨[(.object "java/lang/Object"), (.object "java/lang/String")], (some (.object "java/lang/Object"))⟩ := by decide +kernel
theorem own_hem : ∀ d ∈ StrChars.Road.wordsEmp, d ∈ tables_1 := by decide +kernel
theorem own_heq : ∀ d ∈ StrChars.Road.wordsEq, d ∈ tables_1 := by decide +kernel
theorem own_pd21 : parseMethodDescriptor "(Ljava/lang/Object;)Z" = some ⟨[(.object "java/lang/Object")], (some .boolean)⟩ := by decide +kernel
theorem own_fd3 : parseFieldDescriptor "Ljava/lang/String;" = some (.object "java/lang/String") := by decide +kernel
set_option maxRecDepth 65536 in
set_option maxHeartbeats 40000000 in
theorem own_ns (l : Launch) (Z : State) (a0 : Array Value) (hw : ∀ d ∈ tables_1, d.before a0 Z = true) (hEL : EW Z a0 own_EL) (wS : ∀ a ∈ Bundle.stringAtoms, a.before a0 Z = true) (G1 : Int32) (G3 : Value) (a : Addr) (x : Addr) (xt : Addr) (xk : ClassId) (xN : Int32) (xvs : List Value) (xcs : List Int32) (h0 : Heap) (n0 : Nat) (z0 : n0 ≤ h0.size) (ge_a : n0 ≤ a) (X00 : Old Z n0 h0) (xE : Exa Z h0 x "java/lang/String") (xV : Fld Z h0 x "java/lang/String" "value" "[B" (.ref xt)) (xC : Fld Z h0 x "java/lang/String" "coder" "B" (.int 0)) (xK : Arv Z h0 xt xk .byte xN xvs (.int 0)) (aE : Exa Z h0 a "com/example/nearfar_cache/nearfarcache/Namespace") (aN : Fld Z h0 a "com/example/nearfar_cache/nearfarcache/Namespace" "name" "Ljava/lang/String;" .null) (O2 : Sta Z Z.heap "java/lang/String" "COMPACT_STRINGS" "Z" (.int G1)) (O4 : Sta Z Z.heap "jdk/internal/util/Preconditions" "SIOOBE_FORMATTER" "Ljava/util/function/BiFunction;" G3) (P5 : ¬ G1 = (0 : Int32)) (rG3 : G3.isRef = true) (xcd : StrChars.Road.CodA xcs 0 xN xvs) (xhp : ∀ c ∈ xcs, ¬ c < 0 ∧ ¬ (255 : Int32) < c) (xl2 : xcs.length ≤ 4000) (h0e : ¬ xcs.length = 0) (hne : ∀ c ∈ xcs, ¬ c = (58 : Int32)) (h7 : ¬ xcs = ([110, 101, 97, 114, 102, 97, 114] : List Int32)) :
    own_MetW l Z own_EL (⟨"com/example/nearfar_cache/nearfarcache/Namespace", "<init>", "(Ljava/lang/String;)V"⟩ : MethodName) prog_19_method_1_code 2 none ({ frames := 4, cells := 4, slots := 52, locals := 59 } : Room) n0 #[(.ref a), (.ref x)] h0 [] (fun v h => v = none ∧ Keep h0 h [a] ∧ Exa Z h a "com/example/nearfar_cache/nearfarcache/Namespace" ∧ Fld Z h a "com/example/nearfar_cache/nearfarcache/Namespace" "name" "Ljava/lang/String;" (.ref x)) := by
  refine own_metW hEL wS (by decide +kernel) #[.val (.ref a), .val (.ref x)] (fun m => by first | (simp [entryFrame, mkF, argsToLocals, Value.category]; done) | rfl) ?_
  intro p e s m below meth c T0 CW SW0
  have SW536 : own_SW p l e ({ frames := 4, cells := 4, slots := 52, locals := 59 } : Room) s m #[(.ref a), (.ref x)] below meth c n0 Z own_EL "com/example/nearfar_cache/nearfarcache/Namespace" T0 h0 [a] 0 0 := SW0.addE aE (by decide) (by decide)
  refine own_lift CW SW536 ?_
  intro vm537 C S538 rb539
  refine own_seg C S538 [(0, .aload_n 0, 1)] (by decide +kernel) 1 #[.val (.ref a), .val (.ref x)] [(.ref a)] rfl ?_
  refine own_callI C S538 rfl (own_wd hw 41 rfl) (own_wd hw 42 rfl) (own_wd hw 45 rfl) (by decide) (own_Met.pay (own_rec l Z a0 hw a h0 n0 z0) C 0 (own_wd hw 45 rfl) (own_wd hw 44 rfl) (by decide) (by decide)) (fun _ _ _ q => q.2) [] [] rfl own_pd19 rfl rfl rfl (Nat.le_of_ble_eq_true rfl) (by decide) (by decide) (by decide +kernel) ?_
  rintro T541 h542 v543 L544 S545 ⟨⟨rfl, e540⟩, -⟩
  replace S545 : own_S p l e ({ frames := 4, cells := 4, slots := 52, locals := 59 } : Room) (s.setVm vm537) m #[(.ref a), (.ref x)] below meth c n0 T541 h542 0 0 := S545
  rw [e540] at S545; clear e540
  show own_Go p e below _ T541 (mkF m 4 #[.val (.ref a), .val (.ref x)] [])
  refine own_seg C S545 [(4, .aload_n 1, 1)] (by decide +kernel) 5 #[.val (.ref a), .val (.ref x)] [(.ref x)] rfl ?_
  have SW546 : own_SW p l e ({ frames := 4, cells := 4, slots := 52, locals := 59 } : Room) s m #[(.ref a), (.ref x)] below meth c n0 Z own_EL "com/example/nearfar_cache/nearfarcache/Namespace" T541 h0 [a] 0 0 := rb539 _ _ _ _ [] [] S545 (Keep.refl _ _) all0 all0
  refine own_ldcO CW SW546 (own_wd hw 47 rfl) (by decide +kernel) 16 (by decide) (by decide) (by decide) (by decide) ?_
  intro T547 h548 a549 SW550 E551
  refine own_lift CW SW550 ?_
  intro vm552 C S553 rb554
  have f555 : n0 ≤ h548.size := (Nat.le_trans z0 E551.1)
  refine own_callS C S553 (own_wd hw 50 rfl) (own_wd hw 51 rfl) (own_wd hw 52 rfl) (own_wd hw 53 rfl) (by decide) (own_Met.pay (own_rnn2 l Z a0 hw x a549 h548 n0 f555) C 0 (own_wd hw 53 rfl) (own_wd hw 52 rfl) (by decide) (by decide)) (fun _ _ _ q => q.2) [(.ref x), (.ref a549)] [] rfl own_pd20 rfl rfl rfl (Nat.le_of_ble_eq_true rfl) (by decide) (by decide) (by decide +kernel) ?_
  rintro T557 h558 v559 L560 S561 ⟨⟨rfl, e556⟩, -⟩
  replace S561 : own_S p l e ({ frames := 4, cells := 4, slots := 52, locals := 59 } : Room) (s.setVm vm552) m #[(.ref a), (.ref x)] below meth c n0 T557 h558 2 20 := S561
  rw [e556] at S561; clear e556
  show own_Go p e below _ T557 (mkF m 10 #[.val (.ref a), .val (.ref x)] [(.ref x)])
  refine own_seg C S561 [(10, .pop, 1), (11, .aload_n 1, 1)] (by decide +kernel) 12 #[.val (.ref a), .val (.ref x)] [(.ref x)] rfl ?_
  have f562 : Exa Z h548 x "java/lang/String" := (Exa.ext E551 xE)
  have f563 : Fld Z h548 x "java/lang/String" "value" "[B" (.ref xt) := (Fld.ext E551 xV)
  have f564 : Fld Z h548 x "java/lang/String" "coder" "B" (.int 0) := (Fld.ext E551 xC)
  have f565 : Arv Z h548 xt xk .byte xN xvs (.int 0) := (xK.ext E551)
  refine own_callV C S561 (own_wd hw 54 rfl) (own_wd hw 55 rfl) (own_wd hw 57 rfl) (y' := ⟨"java/lang/String", "isEmpty", "()Z"⟩) rfl (own_wd hw 57 rfl) (own_wd hw 56 rfl) (by decide) (Q := (fun v h' L => v = some (.int (if (xcs).length = 0 then 1 else 0)) ∧ L = [] ∧ h' = h548)) (StrChars.Road.empW (W := 0) C.2.2.2.2.2.2.2 (fun d hd => hw d (own_hem d hd)) (kI := 4) (own_wd hw 7 rfl) f562 f563 f564 f565 xcd (own_up _ xhp) xl2 (by decide) (by decide)) (fun _ _ L q => by rw [q.2.1]; exact Fr.nil _) f562 [] [] rfl own_pd3 rfl rfl rfl (Nat.le_of_ble_eq_true rfl) (by decide) (by decide) (by decide +kernel) ?_
  rintro T567 h568 v569 L570 S571 ⟨rfl, -, e566⟩
  replace S571 : own_S p l e ({ frames := 4, cells := 4, slots := 52, locals := 59 } : Room) (s.setVm vm552) m #[(.ref a), (.ref x)] below meth c n0 T567 h568 2 20 := S571
  rw [e566] at S571; clear e566
  show own_Go p e below _ T567 (mkF m 15 #[.val (.ref a), .val (.ref x)] [(.int (if (xcs).length = 0 then 1 else 0))])
  refine own_if C S571 (q := .eq) (o := 13) (by decide +kernel) 28 (by decide) (by decide) (fun (q572 : (if (xcs).length = 0 then 1 else 0) = (0 : Int32)) => ?_) (fun (hq : ¬ (if (xcs).length = 0 then 1 else 0) = (0 : Int32)) => False.elim (hq (if_neg h0e)))
  refine own_seg C S571 [(28, .aload_n 1, 1), (29, .bipush 58, 2)] (by decide +kernel) 31 #[.val (.ref a), .val (.ref x)] [(.int (58 : Int32)), (.ref x)] rfl ?_
  have f573 : Old Z n0 h548 := (X00.ext E551)
  refine own_callV C S571 (own_wd hw 59 rfl) (own_wd hw 60 rfl) (own_wd hw 62 rfl) (y' := ⟨"java/lang/String", "indexOf", "(I)I"⟩) rfl (own_wd hw 62 rfl) (own_wd hw 61 rfl) (by decide) (own_Met.pay (own_io l Z a0 hw G1 G3 x xt xk xN xvs xcs (58 : Int32) h548 n0 f555 f573 f562 f563 f564 f565 O2 O4 P5 rG3 xcd xhp xl2 (by decide)) C 0 (own_wd hw 63 rfl) (own_wd hw 8 rfl) (by decide) (by decide)) (fun _ _ _ q => q.2) f562 [(.int (58 : Int32))] [] rfl own_pd12 rfl rfl rfl (Nat.le_of_ble_eq_true rfl) (by decide) (by decide) (by decide +kernel) ?_
  rintro T577 h578 v579 L580 S581 ⟨⟨y574, rfl, e575, p576⟩, -⟩
  replace S581 : own_S p l e ({ frames := 4, cells := 4, slots := 52, locals := 59 } : Room) (s.setVm vm552) m #[(.ref a), (.ref x)] below meth c n0 T577 h578 2 20 := S581
  rw [e575] at S581; clear e575
  show own_Go p e below _ T577 (mkF m 34 #[.val (.ref a), .val (.ref x)] [(.int y574)])
  refine own_if C S581 (q := .lt) (o := 30) (by decide +kernel) 64 (by decide) (by decide) (fun (q582 : y574 < (0 : Int32)) => ?_) (fun (hq : ¬ y574 < (0 : Int32)) => False.elim (p576.no hne hq))
  refine own_seg C S581 [(64, .aload_n 1, 1)] (by decide +kernel) 65 #[.val (.ref a), .val (.ref x)] [(.ref x)] rfl ?_
  have SW583 : own_SW p l e ({ frames := 4, cells := 4, slots := 52, locals := 59 } : Room) s m #[(.ref a), (.ref x)] below meth c n0 Z own_EL "com/example/nearfar_cache/nearfarcache/Namespace" T577 h548 [a] 2 20 := rb554 _ _ _ _ [] [] S581 (Keep.refl _ _) all0 all0
  refine own_ldcW CW SW583 (own_wd hw 101 rfl) (List.mem_of_getElem? (i := 1) rfl) (z := (7 : Int32)) (vs := [(.int (110 : Int32)), (.int (101 : Int32)), (.int (97 : Int32)), (.int (114 : Int32)), (.int (102 : Int32)), (.int (97 : Int32)), (.int (114 : Int32))]) ⟨by decide, by decide⟩ (by decide) rfl (by decide +kernel) 28 (by decide) (by decide) (by decide) (by decide) ?_
  intro T584 h585 a586 b587 k588 SW589 E590 x591 f592 f593 f594 ne595
  have hp596 : ∀ c ∈ ([110, 101, 97, 114, 102, 97, 114] : List Int32), ¬ c < 0 ∧ ¬ (255 : Int32) < c := by decide
  have hcd597 : StrChars.Road.CodA ([110, 101, 97, 114, 102, 97, 114] : List Int32) 0 (7 : Int32) [(.int (110 : Int32)), (.int (101 : Int32)), (.int (97 : Int32)), (.int (114 : Int32)), (.int (102 : Int32)), (.int (97 : Int32)), (.int (114 : Int32))] := StrChars.Road.codOf (cs := ([110, 101, 97, 114, 102, 97, 114] : List Int32)) (n := 7) rfl (fun c hc => (hp596 c hc).2)
  refine own_lift CW SW589 ?_
  intro vm598 C S599 rb600
  have f601 : Exa Z h585 x "java/lang/String" := (Exa.ext E590 f562)
  have f602 : Fld Z h585 x "java/lang/String" "value" "[B" (.ref xt) := (Fld.ext E590 f563)
  have f603 : Fld Z h585 x "java/lang/String" "coder" "B" (.int 0) := (Fld.ext E590 f564)
  have f604 : Arv Z h585 xt xk .byte xN xvs (.int 0) := (f565.ext E590)
  have f605 : Old Z n0 h585 := (f573.ext E590)
  refine own_callV C S599 (own_wd hw 102 rfl) (own_wd hw 103 rfl) (own_wd hw 105 rfl) (y' := ⟨"java/lang/String", "equals", "(Ljava/lang/Object;)Z"⟩) rfl (own_wd hw 105 rfl) (own_wd hw 104 rfl) (by decide) (Q := (fun v h' L => ((v = some (.int 1) ∧ xcs = ([110, 101, 97, 114, 102, 97, 114] : List Int32)) ∨ (v = some (.int 0) ∧ ¬ xcs = ([110, 101, 97, 114, 102, 97, 114] : List Int32))) ∧ L = [] ∧ h' = h585)) (StrChars.Road.eqW (W := 0) C.2.2.2.2.2.2.2 (fun d hd => hw d (own_heq d hd)) (kI := 4) (own_wd hw 7 rfl) f601 f602 f603 f604 xcd (own_up _ xhp) xl2 x591 f593 f592 f594 hcd597 (own_up _ hp596) (Nat.le_of_ble_eq_true rfl) (O2.ext f605.2) P5 (by decide) (by decide)) (fun _ _ L q => by rw [q.2.1]; exact Fr.nil _) f601 [(.ref a586)] [] rfl own_pd21 rfl rfl rfl (Nat.le_of_ble_eq_true rfl) (by decide) (by decide) (by decide +kernel) ?_
  rintro T610 h611 v612 L613 S614 ⟨d609, -, e606⟩
  replace S614 : own_S p l e ({ frames := 4, cells := 4, slots := 52, locals := 59 } : Room) (s.setVm vm598) m #[(.ref a), (.ref x)] below meth c n0 T610 h611 4 52 := S614
  rw [e606] at S614; clear e606
  rcases d609 with ⟨rfl, q607⟩ | ⟨rfl, q608⟩
  · exact absurd q607 h7
  · refine own_if C S614 (q := .eq) (o := 13) (by decide +kernel) 83 (by decide) (by decide) (fun (q615 : (0 : Int32) = (0 : Int32)) => ?_) (fun (hq : ¬ (0 : Int32) = (0 : Int32)) => False.elim (hq rfl))
    refine own_seg C S614 [(83, .aload_n 0, 1), (84, .aload_n 1, 1)] (by decide +kernel) 85 #[.val (.ref a), .val (.ref x)] [(.ref x), (.ref a)] rfl ?_
    have f616 : Fld Z h585 a "com/example/nearfar_cache/nearfarcache/Namespace" "name" "Ljava/lang/String;" .null := (Fld.ext E590 (Fld.ext E551 aN))
    have f617 : Exa Z h585 a "com/example/nearfar_cache/nearfarcache/Namespace" := (Exa.ext E590 (Exa.ext E551 aE))
    refine own_putF C S614 (ty := (.object "java/lang/String")) (host := "") (Or.inl (own_wd hw 111 rfl)) Via.refl f616 f617 (Or.inr ⟨(own_wd hw 112 rfl), rfl, rfl⟩) (own_wd hw 36 rfl) own_fd3 rfl rfl ge_a (by decide +kernel) ?_
    intro T618 h620 S619 W621
    have f622 : Fld Z h620 a "com/example/nearfar_cache/nearfarcache/Namespace" "name" "Ljava/lang/String;" (.ref x) := Fld.same W621 f616
    have SW623 : own_SW p l e ({ frames := 4, cells := 4, slots := 52, locals := 59 } : Room) s m #[(.ref a), (.ref x)] below meth c n0 Z own_EL "com/example/nearfar_cache/nearfarcache/Namespace" T618 h620 [a] 4 52 := rb600 _ _ _ _ [a] [] S619 ((Keep.refl _ _).wr W621 (Or.inl (List.mem_of_getElem? (i := 0) rfl))) (allS (List.mem_of_getElem? (i := 0) rfl) all0) all0
    refine own_retVW CW SW623 (by decide +kernel) (by decide) (by decide) ?_
    have f624 : Exa Z h620 a "com/example/nearfar_cache/nearfarcache/Namespace" := (Exa.wr W621 f617)
    exact ⟨rfl, ((((Keep.refl _ _).ext E551).ext E590).wr W621 (Or.inl (List.mem_of_getElem? (i := 0) rfl))), f624, f622⟩
theorem own_pd22 : parseMethodDescriptor "(Ljava/lang/String;)Ljava/lang/StringBuilder;" = some ⟨[(.object "java/lang/String")], (some (.object "java/lang/StringBuilder"))⟩ := by decide +kernel
theorem own_pd23 : parseMethodDescriptor "()Ljava/lang/String;" = some ⟨[], (some (.object "java/lang/String"))⟩ := by decide +kernel
set_option maxRecDepth 65536 in
set_option maxHeartbeats 40000000 in
theorem own_ic1 (l : Launch) (Z : State) (a0 : Array Value) (hw : ∀ d ∈ tables_1, d.before a0 Z = true) (hEL : EW Z a0 own_EL) (wS : ∀ a ∈ Bundle.stringAtoms, a.before a0 Z = true) (G1 : Int32) (G3 : Value) (n : Addr) (x : Addr) (xt : Addr) (xk : ClassId) (x0 : Int32) (h0 : Heap) (n0 : Nat) (z0 : n0 ≤ h0.size) (X00 : Old Z n0 h0) (nE : Exa Z h0 n "com/example/nearfar_cache/nearfarcache/Namespace") (nN : Fld Z h0 n "com/example/nearfar_cache/nearfarcache/Namespace" "name" "Ljava/lang/String;" (.ref x)) (xE : Exa Z h0 x "java/lang/String") (xV : Fld Z h0 x "java/lang/String" "value" "[B" (.ref xt)) (xC : Fld Z h0 x "java/lang/String" "coder" "B" (.int 0)) (xK : Arv Z h0 xt xk .byte (1 : Int32) ([(.int x0.toInt8.toInt32)]) (.int 0)) (O2 : Sta Z Z.heap "java/lang/String" "COMPACT_STRINGS" "Z" (.int G1)) (O4 : Sta Z Z.heap "jdk/internal/util/Preconditions" "SIOOBE_FORMATTER" "Ljava/util/function/BiFunction;" G3) (P5 : ¬ G1 = (0 : Int32)) (rG3 : G3.isRef = true) (xh0 : ¬ x0 < 0 ∧ ¬ (255 : Int32) < x0) :
    own_MetW l Z own_EL (⟨"com/example/nearfar_cache/nearfarcache/redis/RedisKeys", "invalidationChannel", "(Lcom/example/nearfar_cache/nearfarcache/Namespace;)Ljava/lang/String;"⟩ : MethodName) prog_26_method_4_code 1 (some (.object "java/lang/String")) ({ frames := 6, cells := 9, slots := 254, locals := 91 } : Room) n0 #[(.ref n)] h0 [] (fun v h => ∃ r : Addr, ∃ rt : Addr, ∃ rk : ClassId, v = some (.ref r) ∧ h0.size ≤ r ∧ h0.size ≤ rt ∧ Keep h0 h [] ∧ Exa Z h r "java/lang/String" ∧ Fld Z h r "java/lang/String" "coder" "B" (.int 0) ∧ Fld Z h r "java/lang/String" "value" "[B" (.ref rt) ∧ Arv Z h rt rk .byte (23 : Int32) ([(.int (110 : Int32)), (.int (101 : Int32)), (.int (97 : Int32)), (.int (114 : Int32)), (.int (102 : Int32)), (.int (97 : Int32)), (.int (114 : Int32)), (.int (58 : Int32)), (.int (105 : Int32)), (.int (110 : Int32)), (.int (118 : Int32)), (.int (97 : Int32)), (.int (108 : Int32)), (.int (105 : Int32)), (.int (100 : Int32)), (.int (97 : Int32)), (.int (116 : Int32)), (.int (105 : Int32)), (.int (111 : Int32)), (.int (110 : Int32)), (.int (115 : Int32)), (.int (58 : Int32)), (.int x0.toInt8.toInt32)]) (.int 0)) := by
  refine own_metW hEL wS (by decide +kernel) #[.val (.ref n)] (fun m => by first | (simp [entryFrame, mkF, argsToLocals, Value.category]; done) | rfl) ?_
  intro p e s m below meth c T0 CW SW0
  have hp625 : ∀ c ∈ ([x0] : List Int32), ¬ c < 0 ∧ ¬ (255 : Int32) < c := by
    intro c hc; simp only [List.mem_cons, List.not_mem_nil, or_false] at hc
    rcases hc with rfl
    · exact xh0
  have hcd626 : StrChars.Road.CodA ([x0] : List Int32) 0 (1 : Int32) [(.int x0.toInt8.toInt32)] := StrChars.Road.codOf (cs := ([x0] : List Int32)) (n := 1) rfl (fun c hc => (hp625 c hc).2)
  refine own_lift CW SW0 ?_
  intro vm627 C S628 rb629
  refine own_seg C S628 [(0, .aload_n 0, 1)] (by decide +kernel) 1 #[.val (.ref n)] [(.ref n)] rfl ?_
  have SW630 : own_SW p l e ({ frames := 6, cells := 9, slots := 254, locals := 91 } : Room) s m #[(.ref n)] below meth c n0 Z own_EL "com/example/nearfar_cache/nearfarcache/redis/RedisKeys" T0 h0 [] 0 0 := rb629 _ _ _ _ [] [] S628 (Keep.refl _ _) all0 all0
  refine own_ldcO CW SW630 (own_wd hw 117 rfl) (by decide +kernel) 36 (by decide) (by decide) (by decide) (by decide) ?_
  intro T631 h632 a633 SW634 E635
  refine own_lift CW SW634 ?_
  intro vm636 C S637 rb638
  have f639 : n0 ≤ h632.size := (Nat.le_trans z0 E635.1)
  refine own_callS C S637 (own_wd hw 118 rfl) (own_wd hw 51 rfl) (own_wd hw 52 rfl) (own_wd hw 53 rfl) (by decide) (own_Met.pay (own_rnn2 l Z a0 hw n a633 h632 n0 f639) C 0 (own_wd hw 53 rfl) (own_wd hw 52 rfl) (by decide) (by decide)) (fun _ _ _ q => q.2) [(.ref n), (.ref a633)] [] rfl own_pd20 rfl rfl rfl (Nat.le_of_ble_eq_true rfl) (by decide) (by decide) (by decide +kernel) ?_
  rintro T641 h642 v643 L644 S645 ⟨⟨rfl, e640⟩, -⟩
  replace S645 : own_S p l e ({ frames := 6, cells := 9, slots := 254, locals := 91 } : Room) (s.setVm vm636) m #[(.ref n)] below meth c n0 T641 h642 2 40 := S645
  rw [e640] at S645; clear e640
  show own_Go p e below _ T641 (mkF m 6 #[.val (.ref n)] [(.ref n)])
  refine own_seg C S645 [(6, .pop, 1)] (by decide +kernel) 7 #[.val (.ref n)] [] rfl ?_
  refine own_new C S645 (own_wd hw 119 rfl) (own_wd hw 120 rfl) (own_wd hw 121 rfl) (by decide +kernel) (by decide) (by decide) ?_
  intro T646 h648 a649 S647 g650 E651 x652 D653
  have f654 : Fld Z h648 a649 "java/lang/AbstractStringBuilder" "value" "[B" .null := D653 (ty := (.array .byte)) (Or.inl (own_wd hw 134 rfl)) own_fd0
  have f655 : Fld Z h648 a649 "java/lang/AbstractStringBuilder" "coder" "B" (.int (0 : Int32)) := D653 (ty := .byte) (Or.inl (own_wd hw 136 rfl)) own_fd1
  have f656 : Fld Z h648 a649 "java/lang/AbstractStringBuilder" "count" "I" (.int (0 : Int32)) := D653 (ty := .int) (Or.inl (own_wd hw 150 rfl)) own_fd2
  refine own_seg C S647 [(10, .dup, 1)] (by decide +kernel) 11 #[.val (.ref n)] [(.ref a649), (.ref a649)] rfl ?_
  have f657 : Old Z n0 h648 := ((X00.ext E635).ext E651)
  have f658 : n0 ≤ h648.size := (Nat.le_trans f639 E651.1)
  have g659 : n0 ≤ a649 := by rw [g650]; exact f639
  refine own_callI C S647 rfl (own_wd hw 122 rfl) (own_wd hw 123 rfl) (own_wd hw 124 rfl) (by decide) (own_Met.pay (own_sbI l Z a0 hw G1 G3 a649 h648 n0 f658 g659 f657 x652 f654 f655 f656 O2 O4 P5 rG3) C 1 (own_wd hw 124 rfl) (own_wd hw 121 rfl) (by decide) (by decide)) (fun _ _ _ q => q.2) [] [(.ref a649)] rfl own_pd19 rfl rfl rfl (Nat.le_of_ble_eq_true rfl) (by decide) (by decide) (by decide +kernel) ?_
  rintro T669 h670 v671 L672 S673 ⟨⟨a660, k661, rfl, g662, K663, f664, f665, f666, f667, f668⟩, -⟩
  replace S673 : own_S p l e ({ frames := 6, cells := 9, slots := 254, locals := 91 } : Room) (s.setVm vm636) m #[(.ref n)] below meth c n0 T669 h670 4 60 := S673
  show own_Go p e below _ T669 (mkF m 14 #[.val (.ref n)] [(.ref a649)])
  have f674 : a649 < h670.size := (Nat.lt_of_lt_of_le f654.lt K663.1)
  have SW675 : own_SW p l e ({ frames := 6, cells := 9, slots := 254, locals := 91 } : Room) s m #[(.ref n)] below meth c n0 Z own_EL "com/example/nearfar_cache/nearfarcache/redis/RedisKeys" T669 h670 [a649, a660] 4 60 := rb638 _ _ _ _ [] [a649, a660] S673 (((Keep.refl _ _).ext E651).trans K663 (allS (Or.inr (by rw [g650]; exact (Nat.le_refl _))) all0)) all0 (allS ⟨(by rw [g650]; exact (Nat.le_refl _)), f674⟩ (allS ⟨(Nat.le_trans (Nat.le_trans (Nat.le_refl _) E651.1) g662), f668.lt⟩ all0))
  refine own_ldcW CW SW675 (own_wd hw 137 rfl) (List.mem_of_getElem? (i := 3) rfl) (z := (22 : Int32)) (vs := [(.int (110 : Int32)), (.int (101 : Int32)), (.int (97 : Int32)), (.int (114 : Int32)), (.int (102 : Int32)), (.int (97 : Int32)), (.int (114 : Int32)), (.int (58 : Int32)), (.int (105 : Int32)), (.int (110 : Int32)), (.int (118 : Int32)), (.int (97 : Int32)), (.int (108 : Int32)), (.int (105 : Int32)), (.int (100 : Int32)), (.int (97 : Int32)), (.int (116 : Int32)), (.int (105 : Int32)), (.int (111 : Int32)), (.int (110 : Int32)), (.int (115 : Int32)), (.int (58 : Int32))]) ⟨by decide, by decide⟩ (by decide) rfl (by decide +kernel) 88 (by decide) (by decide) (by decide) (by decide) ?_
  intro T676 h677 a678 b679 k680 SW681 E682 x683 f684 f685 f686 ne687
  have hp688 : ∀ c ∈ ([110, 101, 97, 114, 102, 97, 114, 58, 105, 110, 118, 97, 108, 105, 100, 97, 116, 105, 111, 110, 115, 58] : List Int32), ¬ c < 0 ∧ ¬ (255 : Int32) < c := by decide
  have hcd689 : StrChars.Road.CodA ([110, 101, 97, 114, 102, 97, 114, 58, 105, 110, 118, 97, 108, 105, 100, 97, 116, 105, 111, 110, 115, 58] : List Int32) 0 (22 : Int32) [(.int (110 : Int32)), (.int (101 : Int32)), (.int (97 : Int32)), (.int (114 : Int32)), (.int (102 : Int32)), (.int (97 : Int32)), (.int (114 : Int32)), (.int (58 : Int32)), (.int (105 : Int32)), (.int (110 : Int32)), (.int (118 : Int32)), (.int (97 : Int32)), (.int (108 : Int32)), (.int (105 : Int32)), (.int (100 : Int32)), (.int (97 : Int32)), (.int (116 : Int32)), (.int (105 : Int32)), (.int (111 : Int32)), (.int (110 : Int32)), (.int (115 : Int32)), (.int (58 : Int32))] := StrChars.Road.codOf (cs := ([110, 101, 97, 114, 102, 97, 114, 58, 105, 110, 118, 97, 108, 105, 100, 97, 116, 105, 111, 110, 115, 58] : List Int32)) (n := 22) rfl (fun c hc => (hp688 c hc).2)
  refine own_lift CW SW681 ?_
  intro vm690 C S691 rb692
  have f693 : Old Z n0 h677 := ((f657.keep K663 (allS g659 all0)).ext E682)
  have f694 : Exa Z h677 a649 "java/lang/StringBuilder" := (Exa.ext E682 f664)
  have f695 : Fld Z h677 a649 "java/lang/AbstractStringBuilder" "value" "[B" (.ref a660) := (Fld.ext E682 f665)
  have f696 : Fld Z h677 a649 "java/lang/AbstractStringBuilder" "coder" "B" (.int (0 : Int32)) := (Fld.ext E682 f666)
  have f697 : Fld Z h677 a649 "java/lang/AbstractStringBuilder" "count" "I" (.int (0 : Int32)) := (Fld.ext E682 f667)
  have f698 : Arv Z h677 a660 k661 .byte (16 : Int32) ([(.int (0 : Int32)), (.int (0 : Int32)), (.int (0 : Int32)), (.int (0 : Int32)), (.int (0 : Int32)), (.int (0 : Int32)), (.int (0 : Int32)), (.int (0 : Int32)), (.int (0 : Int32)), (.int (0 : Int32)), (.int (0 : Int32)), (.int (0 : Int32)), (.int (0 : Int32)), (.int (0 : Int32)), (.int (0 : Int32)), (.int (0 : Int32))]) (.int (0 : Int32)) := (f668.ext E682)
  have f699 : n0 ≤ h677.size := (Nat.le_trans (Nat.le_trans f658 K663.1) E682.1)
  have n700 : a649 ≠ a660 := Nat.ne_of_lt (Nat.lt_of_lt_of_le f654.lt g662)
  refine own_callV C S691 (own_wd hw 138 rfl) (own_wd hw 139 rfl) (own_wd hw 141 rfl) (y' := ⟨"java/lang/StringBuilder", "append", "(Ljava/lang/String;)Ljava/lang/StringBuilder;"⟩) rfl (own_wd hw 141 rfl) (own_wd hw 140 rfl) (by decide) (own_Met.pay (own_sbG l Z a0 hw G1 G3 a678 b679 k680 (22 : Int32) ([(.int (110 : Int32)), (.int (101 : Int32)), (.int (97 : Int32)), (.int (114 : Int32)), (.int (102 : Int32)), (.int (97 : Int32)), (.int (114 : Int32)), (.int (58 : Int32)), (.int (105 : Int32)), (.int (110 : Int32)), (.int (118 : Int32)), (.int (97 : Int32)), (.int (108 : Int32)), (.int (105 : Int32)), (.int (100 : Int32)), (.int (97 : Int32)), (.int (116 : Int32)), (.int (105 : Int32)), (.int (111 : Int32)), (.int (110 : Int32)), (.int (115 : Int32)), (.int (58 : Int32))]) ([110, 101, 97, 114, 102, 97, 114, 58, 105, 110, 118, 97, 108, 105, 100, 97, 116, 105, 111, 110, 115, 58] : List Int32) a649 a660 k661 ([(.int (0 : Int32)), (.int (0 : Int32)), (.int (0 : Int32)), (.int (0 : Int32)), (.int (0 : Int32)), (.int (0 : Int32)), (.int (0 : Int32)), (.int (0 : Int32)), (.int (0 : Int32)), (.int (0 : Int32)), (.int (0 : Int32)), (.int (0 : Int32)), (.int (0 : Int32)), (.int (0 : Int32)), (.int (0 : Int32)), (.int (0 : Int32))]) ([(.int (0 : Int32)), (.int (0 : Int32)), (.int (0 : Int32)), (.int (0 : Int32)), (.int (0 : Int32)), (.int (0 : Int32)), (.int (0 : Int32)), (.int (0 : Int32)), (.int (0 : Int32)), (.int (0 : Int32)), (.int (0 : Int32)), (.int (0 : Int32)), (.int (0 : Int32)), (.int (0 : Int32)), (.int (0 : Int32)), (.int (0 : Int32)), (.int (0 : Int32)), (.int (0 : Int32)), (.int (0 : Int32)), (.int (0 : Int32)), (.int (0 : Int32)), (.int (0 : Int32)), (.int (0 : Int32)), (.int (0 : Int32)), (.int (0 : Int32)), (.int (0 : Int32)), (.int (0 : Int32)), (.int (0 : Int32)), (.int (0 : Int32)), (.int (0 : Int32)), (.int (0 : Int32)), (.int (0 : Int32)), (.int (0 : Int32)), (.int (0 : Int32))]) ([(.int (110 : Int32)), (.int (101 : Int32)), (.int (97 : Int32)), (.int (114 : Int32)), (.int (102 : Int32)), (.int (97 : Int32)), (.int (114 : Int32)), (.int (58 : Int32)), (.int (105 : Int32)), (.int (110 : Int32)), (.int (118 : Int32)), (.int (97 : Int32)), (.int (108 : Int32)), (.int (105 : Int32)), (.int (100 : Int32)), (.int (97 : Int32)), (.int (116 : Int32)), (.int (105 : Int32)), (.int (111 : Int32)), (.int (110 : Int32)), (.int (115 : Int32)), (.int (58 : Int32)), (.int (0 : Int32)), (.int (0 : Int32)), (.int (0 : Int32)), (.int (0 : Int32)), (.int (0 : Int32)), (.int (0 : Int32)), (.int (0 : Int32)), (.int (0 : Int32)), (.int (0 : Int32)), (.int (0 : Int32)), (.int (0 : Int32)), (.int (0 : Int32))]) h677 n0 f699 g659 f693 x683 f685 f684 f686 f694 f695 f696 f697 f698 (Ne.symm (ne687 a649 (List.mem_of_getElem? (i := 0) rfl)).2) (Ne.symm (ne687 a649 (List.mem_of_getElem? (i := 0) rfl)).1) (Ne.symm n700) O2 O4 P5 rG3 hcd689 hp688 (Nat.le_of_ble_eq_true rfl) rfl rfl rfl rfl) C 0 (own_wd hw 142 rfl) (own_wd hw 121 rfl) (by decide) (by decide)) (fun _ _ _ q => q.2) f694 [(.ref a678)] [] rfl own_pd22 rfl rfl rfl (Nat.le_of_ble_eq_true rfl) (by decide) (by decide) (by decide +kernel) ?_
  rintro T710 h711 v712 L713 S714 ⟨⟨a701, k702, rfl, g703, K704, f705, f706, f707, f708, f709⟩, -⟩
  replace S714 : own_S p l e ({ frames := 6, cells := 9, slots := 254, locals := 91 } : Room) (s.setVm vm690) m #[(.ref n)] below meth c n0 T710 h711 7 186 := S714
  show own_Go p e below _ T710 (mkF m 19 #[.val (.ref n)] [(.ref a649)])
  refine own_seg C S714 [(19, .aload_n 0, 1)] (by decide +kernel) 20 #[.val (.ref n)] [(.ref n), (.ref a649)] rfl ?_
  have f715 : n < h632.size := (Nat.lt_of_lt_of_le nE.lt E635.1)
  have n716 : n ≠ a649 := by rw [g650]; exact Nat.ne_of_lt f715
  have f717 : Fld Z h711 n "com/example/nearfar_cache/nearfarcache/Namespace" "name" "Ljava/lang/String;" (.ref x) := ((Fld.ext E682 ((Fld.ext E651 (Fld.ext E635 nN)).keep K663 (ninS n716 nin0))).keep K704 (ninS n716 nin0))
  have f718 : n0 ≤ h711.size := (Nat.le_trans f699 K704.1)
  have f725 : Exa Z h711 n "com/example/nearfar_cache/nearfarcache/Namespace" := ((Exa.ext E682 ((Exa.ext E651 (Exa.ext E635 nE)).keep K663)).keep K704)
  refine own_callV C S714 (own_wd hw 194 rfl) (own_wd hw 195 rfl) (own_wd hw 197 rfl) (y' := ⟨"com/example/nearfar_cache/nearfarcache/Namespace", "name", "()Ljava/lang/String;"⟩) rfl (own_wd hw 197 rfl) (own_wd hw 196 rfl) (by decide) (own_Met.pay (own_nsn l Z a0 hw n x h711 n0 f718 f717) C 1 (own_wd hw 198 rfl) (own_wd hw 37 rfl) (by decide) (by decide)) (fun _ _ _ q => q.2) f725 [] [(.ref a649)] rfl own_pd23 rfl rfl rfl (Nat.le_of_ble_eq_true rfl) (by decide) (by decide) (by decide +kernel) ?_
  rintro T720 h721 v722 L723 S724 ⟨⟨rfl, e719⟩, -⟩
  replace S724 : own_S p l e ({ frames := 6, cells := 9, slots := 254, locals := 91 } : Room) (s.setVm vm690) m #[(.ref n)] below meth c n0 T720 h721 7 186 := S724
  rw [e719] at S724; clear e719
  show own_Go p e below _ T720 (mkF m 23 #[.val (.ref n)] [(.ref x), (.ref a649)])
  have f726 : Old Z n0 h711 := (f693.keep K704 (allS g659 all0))
  have f727 : Exa Z h711 x "java/lang/String" := ((Exa.ext E682 ((Exa.ext E651 (Exa.ext E635 xE)).keep K663)).keep K704)
  have f728 : x < h632.size := (Nat.lt_of_lt_of_le xE.lt E635.1)
  have n729 : x ≠ a649 := by rw [g650]; exact Nat.ne_of_lt f728
  have f730 : Fld Z h711 x "java/lang/String" "value" "[B" (.ref xt) := ((Fld.ext E682 ((Fld.ext E651 (Fld.ext E635 xV)).keep K663 (ninS n729 nin0))).keep K704 (ninS n729 nin0))
  have f731 : Fld Z h711 x "java/lang/String" "coder" "B" (.int 0) := ((Fld.ext E682 ((Fld.ext E651 (Fld.ext E635 xC)).keep K663 (ninS n729 nin0))).keep K704 (ninS n729 nin0))
  have f732 : xt < h632.size := (Nat.lt_of_lt_of_le xK.lt E635.1)
  have n733 : xt ≠ a649 := by rw [g650]; exact Nat.ne_of_lt f732
  have f734 : Arv Z h711 xt xk .byte (1 : Int32) ([(.int x0.toInt8.toInt32)]) (.int 0) := (((((xK.ext E635).ext E651).keep K663 (ninS n733 nin0)).ext E682).keep K704 (ninS n733 nin0))
  have g735 : n0 ≤ a701 := Nat.le_trans f699 g703
  have f736 : xt < h677.size := (Nat.lt_of_lt_of_le (Nat.lt_of_lt_of_le (Nat.lt_of_lt_of_le f732 E651.1) K663.1) E682.1)
  have n737 : xt ≠ a701 := Nat.ne_of_lt (Nat.lt_of_lt_of_le f736 g703)
  have f738 : x < h677.size := (Nat.lt_of_lt_of_le (Nat.lt_of_lt_of_le (Nat.lt_of_lt_of_le f728 E651.1) K663.1) E682.1)
  have n739 : x ≠ a701 := Nat.ne_of_lt (Nat.lt_of_lt_of_le f738 g703)
  have f740 : a649 < h677.size := (Nat.lt_of_lt_of_le f674 E682.1)
  have n741 : a649 ≠ a701 := Nat.ne_of_lt (Nat.lt_of_lt_of_le f740 g703)
  refine own_callV C S724 (own_wd hw 138 rfl) (own_wd hw 139 rfl) (own_wd hw 141 rfl) (y' := ⟨"java/lang/StringBuilder", "append", "(Ljava/lang/String;)Ljava/lang/StringBuilder;"⟩) rfl (own_wd hw 141 rfl) (own_wd hw 140 rfl) (by decide) (own_Met.pay (own_sbA l Z a0 hw G1 G3 x xt xk (1 : Int32) ([(.int x0.toInt8.toInt32)]) ([x0] : List Int32) a649 a701 k702 (34 : Int32) ([(.int (110 : Int32)), (.int (101 : Int32)), (.int (97 : Int32)), (.int (114 : Int32)), (.int (102 : Int32)), (.int (97 : Int32)), (.int (114 : Int32)), (.int (58 : Int32)), (.int (105 : Int32)), (.int (110 : Int32)), (.int (118 : Int32)), (.int (97 : Int32)), (.int (108 : Int32)), (.int (105 : Int32)), (.int (100 : Int32)), (.int (97 : Int32)), (.int (116 : Int32)), (.int (105 : Int32)), (.int (111 : Int32)), (.int (110 : Int32)), (.int (115 : Int32)), (.int (58 : Int32)), (.int (0 : Int32)), (.int (0 : Int32)), (.int (0 : Int32)), (.int (0 : Int32)), (.int (0 : Int32)), (.int (0 : Int32)), (.int (0 : Int32)), (.int (0 : Int32)), (.int (0 : Int32)), (.int (0 : Int32)), (.int (0 : Int32)), (.int (0 : Int32))]) (22 : Int32) ([(.int (110 : Int32)), (.int (101 : Int32)), (.int (97 : Int32)), (.int (114 : Int32)), (.int (102 : Int32)), (.int (97 : Int32)), (.int (114 : Int32)), (.int (58 : Int32)), (.int (105 : Int32)), (.int (110 : Int32)), (.int (118 : Int32)), (.int (97 : Int32)), (.int (108 : Int32)), (.int (105 : Int32)), (.int (100 : Int32)), (.int (97 : Int32)), (.int (116 : Int32)), (.int (105 : Int32)), (.int (111 : Int32)), (.int (110 : Int32)), (.int (115 : Int32)), (.int (58 : Int32)), (.int x0.toInt8.toInt32), (.int (0 : Int32)), (.int (0 : Int32)), (.int (0 : Int32)), (.int (0 : Int32)), (.int (0 : Int32)), (.int (0 : Int32)), (.int (0 : Int32)), (.int (0 : Int32)), (.int (0 : Int32)), (.int (0 : Int32)), (.int (0 : Int32))]) h711 n0 f718 g659 g735 f726 f727 f730 f731 f734 f705 f706 f707 f708 f709 n737 n733 n729 n739 (Ne.symm n741) O2 O4 P5 rG3 hcd626 hp625 (Nat.le_of_ble_eq_true rfl) (by decide) (by decide) (by decide) (by decide) (by decide) rfl) C 0 (own_wd hw 142 rfl) (own_wd hw 121 rfl) (by decide) (by decide)) (fun _ _ _ q => q.2) f705 [(.ref x)] [] rfl own_pd22 rfl rfl rfl (Nat.le_of_ble_eq_true rfl) (by decide) (by decide) (by decide +kernel) ?_
  rintro T748 h749 v750 L751 S752 ⟨⟨rfl, K742, f743, f744, f745, f746, f747⟩, -⟩
  replace S752 : own_S p l e ({ frames := 6, cells := 9, slots := 254, locals := 91 } : Room) (s.setVm vm690) m #[(.ref n)] below meth c n0 T748 h749 7 186 := S752
  have f753 : Fld Z h749 a649 "java/lang/AbstractStringBuilder" "count" "I" (.int (23 : Int32)) := f746
  show own_Go p e below _ T748 (mkF m 26 #[.val (.ref n)] [(.ref a649)])
  have f754 : Old Z n0 h749 := (f726.keep K742 (allS g659 (allS g735 all0)))
  have f755 : n0 ≤ h749.size := (Nat.le_trans f718 K742.1)
  refine own_callV C S752 (own_wd hw 199 rfl) (own_wd hw 200 rfl) (own_wd hw 202 rfl) (y' := ⟨"java/lang/StringBuilder", "toString", "()Ljava/lang/String;"⟩) rfl (own_wd hw 202 rfl) (own_wd hw 201 rfl) (by decide) (own_Met.pay (own_ts l Z a0 hw G1 G3 a649 a701 k702 (34 : Int32) ([(.int (110 : Int32)), (.int (101 : Int32)), (.int (97 : Int32)), (.int (114 : Int32)), (.int (102 : Int32)), (.int (97 : Int32)), (.int (114 : Int32)), (.int (58 : Int32)), (.int (105 : Int32)), (.int (110 : Int32)), (.int (118 : Int32)), (.int (97 : Int32)), (.int (108 : Int32)), (.int (105 : Int32)), (.int (100 : Int32)), (.int (97 : Int32)), (.int (116 : Int32)), (.int (105 : Int32)), (.int (111 : Int32)), (.int (110 : Int32)), (.int (115 : Int32)), (.int (58 : Int32)), (.int x0.toInt8.toInt32), (.int (0 : Int32)), (.int (0 : Int32)), (.int (0 : Int32)), (.int (0 : Int32)), (.int (0 : Int32)), (.int (0 : Int32)), (.int (0 : Int32)), (.int (0 : Int32)), (.int (0 : Int32)), (.int (0 : Int32)), (.int (0 : Int32))]) (23 : Int32) ([(.int (110 : Int32)), (.int (101 : Int32)), (.int (97 : Int32)), (.int (114 : Int32)), (.int (102 : Int32)), (.int (97 : Int32)), (.int (114 : Int32)), (.int (58 : Int32)), (.int (105 : Int32)), (.int (110 : Int32)), (.int (118 : Int32)), (.int (97 : Int32)), (.int (108 : Int32)), (.int (105 : Int32)), (.int (100 : Int32)), (.int (97 : Int32)), (.int (116 : Int32)), (.int (105 : Int32)), (.int (111 : Int32)), (.int (110 : Int32)), (.int (115 : Int32)), (.int (58 : Int32)), (.int x0.toInt8.toInt32)]) h749 n0 f755 f754 f743 f744 f745 f753 f747 O2 O4 P5 rG3 (by decide) (by decide) (by decide) (by decide) rfl) C 0 (own_wd hw 203 rfl) (own_wd hw 121 rfl) (by decide) (by decide)) (fun _ _ _ q => q.2) f743 [] [] rfl own_pd23 rfl rfl rfl (Nat.le_of_ble_eq_true rfl) (by decide) (by decide) (by decide +kernel) ?_
  rintro T766 h767 v768 L769 S770 ⟨⟨a756, a757, k758, rfl, g759, g760, K761, f762, f763, f764, f765⟩, -⟩
  replace S770 : own_S p l e ({ frames := 6, cells := 9, slots := 254, locals := 91 } : Room) (s.setVm vm690) m #[(.ref n)] below meth c n0 T766 h767 9 254 := S770
  show own_Go p e below _ T766 (mkF m 29 #[.val (.ref n)] [(.ref a756)])
  have f771 : a701 < h767.size := (Nat.lt_of_lt_of_le (Nat.lt_of_lt_of_le f709.lt K742.1) K761.1)
  have SW772 : own_SW p l e ({ frames := 6, cells := 9, slots := 254, locals := 91 } : Room) s m #[(.ref n)] below meth c n0 Z own_EL "com/example/nearfar_cache/nearfarcache/redis/RedisKeys" T766 h767 [a701, a756, a757, a649, a660] 9 254 := rb692 _ _ _ _ [a649] [a701, a756, a757] S770 ((((Keep.refl _ _).trans K704 (allS (Or.inl (List.mem_of_getElem? (i := 0) rfl)) all0)).trans K742 (allS (Or.inl (List.mem_of_getElem? (i := 0) rfl)) (allS (Or.inr (Nat.le_trans (Nat.le_refl _) g703)) all0))).trans K761 all0) (allS (List.mem_of_getElem? (i := 0) rfl) all0) (allS ⟨(Nat.le_trans (Nat.le_refl _) g703), f771⟩ (allS ⟨(Nat.le_trans (Nat.le_trans (Nat.le_trans (Nat.le_refl _) K704.1) K742.1) g759), f762.lt⟩ (allS ⟨(Nat.le_trans (Nat.le_trans (Nat.le_trans (Nat.le_refl _) K704.1) K742.1) g760), f765.lt⟩ all0)))
  refine own_retAW CW SW772 rfl rfl (by decide +kernel) (by decide) (by decide) ?_
  exact ⟨a756, a757, k758, rfl, (Nat.le_trans (Nat.le_trans (Nat.le_trans (Nat.le_trans (Nat.le_trans (Nat.le_trans (Nat.le_trans (Nat.le_refl _) E635.1) E651.1) K663.1) E682.1) K704.1) K742.1) g759), (Nat.le_trans (Nat.le_trans (Nat.le_trans (Nat.le_trans (Nat.le_trans (Nat.le_trans (Nat.le_trans (Nat.le_refl _) E635.1) E651.1) K663.1) E682.1) K704.1) K742.1) g760), ((((((((Keep.refl _ _).ext E635).ext E651).trans K663 (allS (Or.inr (by rw [g650]; exact (Nat.le_trans (Nat.le_refl _) E635.1))) all0)).ext E682).trans K704 (allS (Or.inr (by rw [g650]; exact (Nat.le_trans (Nat.le_refl _) E635.1))) all0)).trans K742 (allS (Or.inr (by rw [g650]; exact (Nat.le_trans (Nat.le_refl _) E635.1))) (allS (Or.inr (Nat.le_trans (Nat.le_trans (Nat.le_trans (Nat.le_trans (Nat.le_trans (Nat.le_refl _) E635.1) E651.1) K663.1) E682.1) g703)) all0))).trans K761 all0), f762, f763, f764, f765⟩
set_option maxRecDepth 65536 in
set_option maxHeartbeats 40000000 in
theorem own_ic2 (l : Launch) (Z : State) (a0 : Array Value) (hw : ∀ d ∈ tables_1, d.before a0 Z = true) (hEL : EW Z a0 own_EL) (wS : ∀ a ∈ Bundle.stringAtoms, a.before a0 Z = true) (G1 : Int32) (G3 : Value) (n : Addr) (x : Addr) (xt : Addr) (xk : ClassId) (x0 : Int32) (x1 : Int32) (h0 : Heap) (n0 : Nat) (z0 : n0 ≤ h0.size) (X00 : Old Z n0 h0) (nE : Exa Z h0 n "com/example/nearfar_cache/nearfarcache/Namespace") (nN : Fld Z h0 n "com/example/nearfar_cache/nearfarcache/Namespace" "name" "Ljava/lang/String;" (.ref x)) (xE : Exa Z h0 x "java/lang/String") (xV : Fld Z h0 x "java/lang/String" "value" "[B" (.ref xt)) (xC : Fld Z h0 x "java/lang/String" "coder" "B" (.int 0)) (xK : Arv Z h0 xt xk .byte (2 : Int32) ([(.int x0.toInt8.toInt32), (.int x1.toInt8.toInt32)]) (.int 0)) (O2 : Sta Z Z.heap "java/lang/String" "COMPACT_STRINGS" "Z" (.int G1)) (O4 : Sta Z Z.heap "jdk/internal/util/Preconditions" "SIOOBE_FORMATTER" "Ljava/util/function/BiFunction;" G3) (P5 : ¬ G1 = (0 : Int32)) (rG3 : G3.isRef = true) (xh0 : ¬ x0 < 0 ∧ ¬ (255 : Int32) < x0) (xh1 : ¬ x1 < 0 ∧ ¬ (255 : Int32) < x1) :
    own_MetW l Z own_EL (⟨"com/example/nearfar_cache/nearfarcache/redis/RedisKeys", "invalidationChannel", "(Lcom/example/nearfar_cache/nearfarcache/Namespace;)Ljava/lang/String;"⟩ : MethodName) prog_26_method_4_code 1 (some (.object "java/lang/String")) ({ frames := 6, cells := 9, slots := 254, locals := 91 } : Room) n0 #[(.ref n)] h0 [] (fun v h => ∃ r : Addr, ∃ rt : Addr, ∃ rk : ClassId, v = some (.ref r) ∧ h0.size ≤ r ∧ h0.size ≤ rt ∧ Keep h0 h [] ∧ Exa Z h r "java/lang/String" ∧ Fld Z h r "java/lang/String" "coder" "B" (.int 0) ∧ Fld Z h r "java/lang/String" "value" "[B" (.ref rt) ∧ Arv Z h rt rk .byte (24 : Int32) ([(.int (110 : Int32)), (.int (101 : Int32)), (.int (97 : Int32)), (.int (114 : Int32)), (.int (102 : Int32)), (.int (97 : Int32)), (.int (114 : Int32)), (.int (58 : Int32)), (.int (105 : Int32)), (.int (110 : Int32)), (.int (118 : Int32)), (.int (97 : Int32)), (.int (108 : Int32)), (.int (105 : Int32)), (.int (100 : Int32)), (.int (97 : Int32)), (.int (116 : Int32)), (.int (105 : Int32)), (.int (111 : Int32)), (.int (110 : Int32)), (.int (115 : Int32)), (.int (58 : Int32)), (.int x0.toInt8.toInt32), (.int x1.toInt8.toInt32)]) (.int 0)) := by
  refine own_metW hEL wS (by decide +kernel) #[.val (.ref n)] (fun m => by first | (simp [entryFrame, mkF, argsToLocals, Value.category]; done) | rfl) ?_
  intro p e s m below meth c T0 CW SW0
  have hp773 : ∀ c ∈ ([x0, x1] : List Int32), ¬ c < 0 ∧ ¬ (255 : Int32) < c := by
    intro c hc; simp only [List.mem_cons, List.not_mem_nil, or_false] at hc
    rcases hc with rfl | rfl
    · exact xh0
    · exact xh1
  have hcd774 : StrChars.Road.CodA ([x0, x1] : List Int32) 0 (2 : Int32) [(.int x0.toInt8.toInt32), (.int x1.toInt8.toInt32)] := StrChars.Road.codOf (cs := ([x0, x1] : List Int32)) (n := 2) rfl (fun c hc => (hp773 c hc).2)
  refine own_lift CW SW0 ?_
  intro vm775 C S776 rb777
  refine own_seg C S776 [(0, .aload_n 0, 1)] (by decide +kernel) 1 #[.val (.ref n)] [(.ref n)] rfl ?_
  have SW778 : own_SW p l e ({ frames := 6, cells := 9, slots := 254, locals := 91 } : Room) s m #[(.ref n)] below meth c n0 Z own_EL "com/example/nearfar_cache/nearfarcache/redis/RedisKeys" T0 h0 [] 0 0 := rb777 _ _ _ _ [] [] S776 (Keep.refl _ _) all0 all0
  refine own_ldcO CW SW778 (own_wd hw 117 rfl) (by decide +kernel) 36 (by decide) (by decide) (by decide) (by decide) ?_
  intro T779 h780 a781 SW782 E783
  refine own_lift CW SW782 ?_
  intro vm784 C S785 rb786
  have f787 : n0 ≤ h780.size := (Nat.le_trans z0 E783.1)
  refine own_callS C S785 (own_wd hw 118 rfl) (own_wd hw 51 rfl) (own_wd hw 52 rfl) (own_wd hw 53 rfl) (by decide) (own_Met.pay (own_rnn2 l Z a0 hw n a781 h780 n0 f787) C 0 (own_wd hw 53 rfl) (own_wd hw 52 rfl) (by decide) (by decide)) (fun _ _ _ q => q.2) [(.ref n), (.ref a781)] [] rfl own_pd20 rfl rfl rfl (Nat.le_of_ble_eq_true rfl) (by decide) (by decide) (by decide +kernel) ?_
  rintro T789 h790 v791 L792 S793 ⟨⟨rfl, e788⟩, -⟩
  replace S793 : own_S p l e ({ frames := 6, cells := 9, slots := 254, locals := 91 } : Room) (s.setVm vm784) m #[(.ref n)] below meth c n0 T789 h790 2 40 := S793
  rw [e788] at S793; clear e788
  show own_Go p e below _ T789 (mkF m 6 #[.val (.ref n)] [(.ref n)])
  refine own_seg C S793 [(6, .pop, 1)] (by decide +kernel) 7 #[.val (.ref n)] [] rfl ?_
  refine own_new C S793 (own_wd hw 119 rfl) (own_wd hw 120 rfl) (own_wd hw 121 rfl) (by decide +kernel) (by decide) (by decide) ?_
  intro T794 h796 a797 S795 g798 E799 x800 D801
  have f802 : Fld Z h796 a797 "java/lang/AbstractStringBuilder" "value" "[B" .null := D801 (ty := (.array .byte)) (Or.inl (own_wd hw 134 rfl)) own_fd0
  have f803 : Fld Z h796 a797 "java/lang/AbstractStringBuilder" "coder" "B" (.int (0 : Int32)) := D801 (ty := .byte) (Or.inl (own_wd hw 136 rfl)) own_fd1
  have f804 : Fld Z h796 a797 "java/lang/AbstractStringBuilder" "count" "I" (.int (0 : Int32)) := D801 (ty := .int) (Or.inl (own_wd hw 150 rfl)) own_fd2
  refine own_seg C S795 [(10, .dup, 1)] (by decide +kernel) 11 #[.val (.ref n)] [(.ref a797), (.ref a797)] rfl ?_
  have f805 : Old Z n0 h796 := ((X00.ext E783).ext E799)
  have f806 : n0 ≤ h796.size := (Nat.le_trans f787 E799.1)
  have g807 : n0 ≤ a797 := by rw [g798]; exact f787
  refine own_callI C S795 rfl (own_wd hw 122 rfl) (own_wd hw 123 rfl) (own_wd hw 124 rfl) (by decide) (own_Met.pay (own_sbI l Z a0 hw G1 G3 a797 h796 n0 f806 g807 f805 x800 f802 f803 f804 O2 O4 P5 rG3) C 1 (own_wd hw 124 rfl) (own_wd hw 121 rfl) (by decide) (by decide)) (fun _ _ _ q => q.2) [] [(.ref a797)] rfl own_pd19 rfl rfl rfl (Nat.le_of_ble_eq_true rfl) (by decide) (by decide) (by decide +kernel) ?_
  rintro T817 h818 v819 L820 S821 ⟨⟨a808, k809, rfl, g810, K811, f812, f813, f814, f815, f816⟩, -⟩
  replace S821 : own_S p l e ({ frames := 6, cells := 9, slots := 254, locals := 91 } : Room) (s.setVm vm784) m #[(.ref n)] below meth c n0 T817 h818 4 60 := S821
  show own_Go p e below _ T817 (mkF m 14 #[.val (.ref n)] [(.ref a797)])
  have f822 : a797 < h818.size := (Nat.lt_of_lt_of_le f802.lt K811.1)
  have SW823 : own_SW p l e ({ frames := 6, cells := 9, slots := 254, locals := 91 } : Room) s m #[(.ref n)] below meth c n0 Z own_EL "com/example/nearfar_cache/nearfarcache/redis/RedisKeys" T817 h818 [a797, a808] 4 60 := rb786 _ _ _ _ [] [a797, a808] S821 (((Keep.refl _ _).ext E799).trans K811 (allS (Or.inr (by rw [g798]; exact (Nat.le_refl _))) all0)) all0 (allS ⟨(by rw [g798]; exact (Nat.le_refl _)), f822⟩ (allS ⟨(Nat.le_trans (Nat.le_trans (Nat.le_refl _) E799.1) g810), f816.lt⟩ all0))
  refine own_ldcW CW SW823 (own_wd hw 137 rfl) (List.mem_of_getElem? (i := 3) rfl) (z := (22 : Int32)) (vs := [(.int (110 : Int32)), (.int (101 : Int32)), (.int (97 : Int32)), (.int (114 : Int32)), (.int (102 : Int32)), (.int (97 : Int32)), (.int (114 : Int32)), (.int (58 : Int32)), (.int (105 : Int32)), (.int (110 : Int32)), (.int (118 : Int32)), (.int (97 : Int32)), (.int (108 : Int32)), (.int (105 : Int32)), (.int (100 : Int32)), (.int (97 : Int32)), (.int (116 : Int32)), (.int (105 : Int32)), (.int (111 : Int32)), (.int (110 : Int32)), (.int (115 : Int32)), (.int (58 : Int32))]) ⟨by decide, by decide⟩ (by decide) rfl (by decide +kernel) 88 (by decide) (by decide) (by decide) (by decide) ?_
  intro T824 h825 a826 b827 k828 SW829 E830 x831 f832 f833 f834 ne835
  have hp836 : ∀ c ∈ ([110, 101, 97, 114, 102, 97, 114, 58, 105, 110, 118, 97, 108, 105, 100, 97, 116, 105, 111, 110, 115, 58] : List Int32), ¬ c < 0 ∧ ¬ (255 : Int32) < c := by decide
  have hcd837 : StrChars.Road.CodA ([110, 101, 97, 114, 102, 97, 114, 58, 105, 110, 118, 97, 108, 105, 100, 97, 116, 105, 111, 110, 115, 58] : List Int32) 0 (22 : Int32) [(.int (110 : Int32)), (.int (101 : Int32)), (.int (97 : Int32)), (.int (114 : Int32)), (.int (102 : Int32)), (.int (97 : Int32)), (.int (114 : Int32)), (.int (58 : Int32)), (.int (105 : Int32)), (.int (110 : Int32)), (.int (118 : Int32)), (.int (97 : Int32)), (.int (108 : Int32)), (.int (105 : Int32)), (.int (100 : Int32)), (.int (97 : Int32)), (.int (116 : Int32)), (.int (105 : Int32)), (.int (111 : Int32)), (.int (110 : Int32)), (.int (115 : Int32)), (.int (58 : Int32))] := StrChars.Road.codOf (cs := ([110, 101, 97, 114, 102, 97, 114, 58, 105, 110, 118, 97, 108, 105, 100, 97, 116, 105, 111, 110, 115, 58] : List Int32)) (n := 22) rfl (fun c hc => (hp836 c hc).2)
  refine own_lift CW SW829 ?_
  intro vm838 C S839 rb840
  have f841 : Old Z n0 h825 := ((f805.keep K811 (allS g807 all0)).ext E830)
  have f842 : Exa Z h825 a797 "java/lang/StringBuilder" := (Exa.ext E830 f812)
  have f843 : Fld Z h825 a797 "java/lang/AbstractStringBuilder" "value" "[B" (.ref a808) := (Fld.ext E830 f813)
  have f844 : Fld Z h825 a797 "java/lang/AbstractStringBuilder" "coder" "B" (.int (0 : Int32)) := (Fld.ext E830 f814)
  have f845 : Fld Z h825 a797 "java/lang/AbstractStringBuilder" "count" "I" (.int (0 : Int32)) := (Fld.ext E830 f815)
  have f846 : Arv Z h825 a808 k809 .byte (16 : Int32) ([(.int (0 : Int32)), (.int (0 : Int32)), (.int (0 : Int32)), (.int (0 : Int32)), (.int (0 : Int32)), (.int (0 : Int32)), (.int (0 : Int32)), (.int (0 : Int32)), (.int (0 : Int32)), (.int (0 : Int32)), (.int (0 : Int32)), (.int (0 : Int32)), (.int (0 : Int32)), (.int (0 : Int32)), (.int (0 : Int32)), (.int (0 : Int32))]) (.int (0 : Int32)) := (f816.ext E830)
  have f847 : n0 ≤ h825.size := (Nat.le_trans (Nat.le_trans f806 K811.1) E830.1)
  have n848 : a797 ≠ a808 := Nat.ne_of_lt (Nat.lt_of_lt_of_le f802.lt g810)
  refine own_callV C S839 (own_wd hw 138 rfl) (own_wd hw 139 rfl) (own_wd hw 141 rfl) (y' := ⟨"java/lang/StringBuilder", "append", "(Ljava/lang/String;)Ljava/lang/StringBuilder;"⟩) rfl (own_wd hw 141 rfl) (own_wd hw 140 rfl) (by decide) (own_Met.pay (own_sbG l Z a0 hw G1 G3 a826 b827 k828 (22 : Int32) ([(.int (110 : Int32)), (.int (101 : Int32)), (.int (97 : Int32)), (.int (114 : Int32)), (.int (102 : Int32)), (.int (97 : Int32)), (.int (114 : Int32)), (.int (58 : Int32)), (.int (105 : Int32)), (.int (110 : Int32)), (.int (118 : Int32)), (.int (97 : Int32)), (.int (108 : Int32)), (.int (105 : Int32)), (.int (100 : Int32)), (.int (97 : Int32)), (.int (116 : Int32)), (.int (105 : Int32)), (.int (111 : Int32)), (.int (110 : Int32)), (.int (115 : Int32)), (.int (58 : Int32))]) ([110, 101, 97, 114, 102, 97, 114, 58, 105, 110, 118, 97, 108, 105, 100, 97, 116, 105, 111, 110, 115, 58] : List Int32) a797 a808 k809 ([(.int (0 : Int32)), (.int (0 : Int32)), (.int (0 : Int32)), (.int (0 : Int32)), (.int (0 : Int32)), (.int (0 : Int32)), (.int (0 : Int32)), (.int (0 : Int32)), (.int (0 : Int32)), (.int (0 : Int32)), (.int (0 : Int32)), (.int (0 : Int32)), (.int (0 : Int32)), (.int (0 : Int32)), (.int (0 : Int32)), (.int (0 : Int32))]) ([(.int (0 : Int32)), (.int (0 : Int32)), (.int (0 : Int32)), (.int (0 : Int32)), (.int (0 : Int32)), (.int (0 : Int32)), (.int (0 : Int32)), (.int (0 : Int32)), (.int (0 : Int32)), (.int (0 : Int32)), (.int (0 : Int32)), (.int (0 : Int32)), (.int (0 : Int32)), (.int (0 : Int32)), (.int (0 : Int32)), (.int (0 : Int32)), (.int (0 : Int32)), (.int (0 : Int32)), (.int (0 : Int32)), (.int (0 : Int32)), (.int (0 : Int32)), (.int (0 : Int32)), (.int (0 : Int32)), (.int (0 : Int32)), (.int (0 : Int32)), (.int (0 : Int32)), (.int (0 : Int32)), (.int (0 : Int32)), (.int (0 : Int32)), (.int (0 : Int32)), (.int (0 : Int32)), (.int (0 : Int32)), (.int (0 : Int32)), (.int (0 : Int32))]) ([(.int (110 : Int32)), (.int (101 : Int32)), (.int (97 : Int32)), (.int (114 : Int32)), (.int (102 : Int32)), (.int (97 : Int32)), (.int (114 : Int32)), (.int (58 : Int32)), (.int (105 : Int32)), (.int (110 : Int32)), (.int (118 : Int32)), (.int (97 : Int32)), (.int (108 : Int32)), (.int (105 : Int32)), (.int (100 : Int32)), (.int (97 : Int32)), (.int (116 : Int32)), (.int (105 : Int32)), (.int (111 : Int32)), (.int (110 : Int32)), (.int (115 : Int32)), (.int (58 : Int32)), (.int (0 : Int32)), (.int (0 : Int32)), (.int (0 : Int32)), (.int (0 : Int32)), (.int (0 : Int32)), (.int (0 : Int32)), (.int (0 : Int32)), (.int (0 : Int32)), (.int (0 : Int32)), (.int (0 : Int32)), (.int (0 : Int32)), (.int (0 : Int32))]) h825 n0 f847 g807 f841 x831 f833 f832 f834 f842 f843 f844 f845 f846 (Ne.symm (ne835 a797 (List.mem_of_getElem? (i := 0) rfl)).2) (Ne.symm (ne835 a797 (List.mem_of_getElem? (i := 0) rfl)).1) (Ne.symm n848) O2 O4 P5 rG3 hcd837 hp836 (Nat.le_of_ble_eq_true rfl) rfl rfl rfl rfl) C 0 (own_wd hw 142 rfl) (own_wd hw 121 rfl) (by decide) (by decide)) (fun _ _ _ q => q.2) f842 [(.ref a826)] [] rfl own_pd22 rfl rfl rfl (Nat.le_of_ble_eq_true rfl) (by decide) (by decide) (by decide +kernel) ?_
  rintro T858 h859 v860 L861 S862 ⟨⟨a849, k850, rfl, g851, K852, f853, f854, f855, f856, f857⟩, -⟩
  replace S862 : own_S p l e ({ frames := 6, cells := 9, slots := 254, locals := 91 } : Room) (s.setVm vm838) m #[(.ref n)] below meth c n0 T858 h859 7 186 := S862
  show own_Go p e below _ T858 (mkF m 19 #[.val (.ref n)] [(.ref a797)])
  refine own_seg C S862 [(19, .aload_n 0, 1)] (by decide +kernel) 20 #[.val (.ref n)] [(.ref n), (.ref a797)] rfl ?_
  have f863 : n < h780.size := (Nat.lt_of_lt_of_le nE.lt E783.1)
  have n864 : n ≠ a797 := by rw [g798]; exact Nat.ne_of_lt f863
  have f865 : Fld Z h859 n "com/example/nearfar_cache/nearfarcache/Namespace" "name" "Ljava/lang/String;" (.ref x) := ((Fld.ext E830 ((Fld.ext E799 (Fld.ext E783 nN)).keep K811 (ninS n864 nin0))).keep K852 (ninS n864 nin0))
  have f866 : n0 ≤ h859.size := (Nat.le_trans f847 K852.1)
  have f873 : Exa Z h859 n "com/example/nearfar_cache/nearfarcache/Namespace" := ((Exa.ext E830 ((Exa.ext E799 (Exa.ext E783 nE)).keep K811)).keep K852)
  refine own_callV C S862 (own_wd hw 194 rfl) (own_wd hw 195 rfl) (own_wd hw 197 rfl) (y' := ⟨"com/example/nearfar_cache/nearfarcache/Namespace", "name", "()Ljava/lang/String;"⟩) rfl (own_wd hw 197 rfl) (own_wd hw 196 rfl) (by decide) (own_Met.pay (own_nsn l Z a0 hw n x h859 n0 f866 f865) C 1 (own_wd hw 198 rfl) (own_wd hw 37 rfl) (by decide) (by decide)) (fun _ _ _ q => q.2) f873 [] [(.ref a797)] rfl own_pd23 rfl rfl rfl (Nat.le_of_ble_eq_true rfl) (by decide) (by decide) (by decide +kernel) ?_
  rintro T868 h869 v870 L871 S872 ⟨⟨rfl, e867⟩, -⟩
  replace S872 : own_S p l e ({ frames := 6, cells := 9, slots := 254, locals := 91 } : Room) (s.setVm vm838) m #[(.ref n)] below meth c n0 T868 h869 7 186 := S872
  rw [e867] at S872; clear e867
  show own_Go p e below _ T868 (mkF m 23 #[.val (.ref n)] [(.ref x), (.ref a797)])
  have f874 : Old Z n0 h859 := (f841.keep K852 (allS g807 all0))
  have f875 : Exa Z h859 x "java/lang/String" := ((Exa.ext E830 ((Exa.ext E799 (Exa.ext E783 xE)).keep K811)).keep K852)
  have f876 : x < h780.size := (Nat.lt_of_lt_of_le xE.lt E783.1)
  have n877 : x ≠ a797 := by rw [g798]; exact Nat.ne_of_lt f876
  have f878 : Fld Z h859 x "java/lang/String" "value" "[B" (.ref xt) := ((Fld.ext E830 ((Fld.ext E799 (Fld.ext E783 xV)).keep K811 (ninS n877 nin0))).keep K852 (ninS n877 nin0))
  have f879 : Fld Z h859 x "java/lang/String" "coder" "B" (.int 0) := ((Fld.ext E830 ((Fld.ext E799 (Fld.ext E783 xC)).keep K811 (ninS n877 nin0))).keep K852 (ninS n877 nin0))
  have f880 : xt < h780.size := (Nat.lt_of_lt_of_le xK.lt E783.1)
  have n881 : xt ≠ a797 := by rw [g798]; exact Nat.ne_of_lt f880
  have f882 : Arv Z h859 xt xk .byte (2 : Int32) ([(.int x0.toInt8.toInt32), (.int x1.toInt8.toInt32)]) (.int 0) := (((((xK.ext E783).ext E799).keep K811 (ninS n881 nin0)).ext E830).keep K852 (ninS n881 nin0))
  have g883 : n0 ≤ a849 := Nat.le_trans f847 g851
  have f884 : xt < h825.size := (Nat.lt_of_lt_of_le (Nat.lt_of_lt_of_le (Nat.lt_of_lt_of_le f880 E799.1) K811.1) E830.1)
  have n885 : xt ≠ a849 := Nat.ne_of_lt (Nat.lt_of_lt_of_le f884 g851)
  have f886 : x < h825.size := (Nat.lt_of_lt_of_le (Nat.lt_of_lt_of_le (Nat.lt_of_lt_of_le f876 E799.1) K811.1) E830.1)
  have n887 : x ≠ a849 := Nat.ne_of_lt (Nat.lt_of_lt_of_le f886 g851)
  have f888 : a797 < h825.size := (Nat.lt_of_lt_of_le f822 E830.1)
  have n889 : a797 ≠ a849 := Nat.ne_of_lt (Nat.lt_of_lt_of_le f888 g851)
  refine own_callV C S872 (own_wd hw 138 rfl) (own_wd hw 139 rfl) (own_wd hw 141 rfl) (y' := ⟨"java/lang/StringBuilder", "append", "(Ljava/lang/String;)Ljava/lang/StringBuilder;"⟩) rfl (own_wd hw 141 rfl) (own_wd hw 140 rfl) (by decide) (own_Met.pay (own_sbA l Z a0 hw G1 G3 x xt xk (2 : Int32) ([(.int x0.toInt8.toInt32), (.int x1.toInt8.toInt32)]) ([x0, x1] : List Int32) a797 a849 k850 (34 : Int32) ([(.int (110 : Int32)), (.int (101 : Int32)), (.int (97 : Int32)), (.int (114 : Int32)), (.int (102 : Int32)), (.int (97 : Int32)), (.int (114 : Int32)), (.int (58 : Int32)), (.int (105 : Int32)), (.int (110 : Int32)), (.int (118 : Int32)), (.int (97 : Int32)), (.int (108 : Int32)), (.int (105 : Int32)), (.int (100 : Int32)), (.int (97 : Int32)), (.int (116 : Int32)), (.int (105 : Int32)), (.int (111 : Int32)), (.int (110 : Int32)), (.int (115 : Int32)), (.int (58 : Int32)), (.int (0 : Int32)), (.int (0 : Int32)), (.int (0 : Int32)), (.int (0 : Int32)), (.int (0 : Int32)), (.int (0 : Int32)), (.int (0 : Int32)), (.int (0 : Int32)), (.int (0 : Int32)), (.int (0 : Int32)), (.int (0 : Int32)), (.int (0 : Int32))]) (22 : Int32) ([(.int (110 : Int32)), (.int (101 : Int32)), (.int (97 : Int32)), (.int (114 : Int32)), (.int (102 : Int32)), (.int (97 : Int32)), (.int (114 : Int32)), (.int (58 : Int32)), (.int (105 : Int32)), (.int (110 : Int32)), (.int (118 : Int32)), (.int (97 : Int32)), (.int (108 : Int32)), (.int (105 : Int32)), (.int (100 : Int32)), (.int (97 : Int32)), (.int (116 : Int32)), (.int (105 : Int32)), (.int (111 : Int32)), (.int (110 : Int32)), (.int (115 : Int32)), (.int (58 : Int32)), (.int x0.toInt8.toInt32), (.int x1.toInt8.toInt32), (.int (0 : Int32)), (.int (0 : Int32)), (.int (0 : Int32)), (.int (0 : Int32)), (.int (0 : Int32)), (.int (0 : Int32)), (.int (0 : Int32)), (.int (0 : Int32)), (.int (0 : Int32)), (.int (0 : Int32))]) h859 n0 f866 g807 g883 f874 f875 f878 f879 f882 f853 f854 f855 f856 f857 n885 n881 n877 n887 (Ne.symm n889) O2 O4 P5 rG3 hcd774 hp773 (Nat.le_of_ble_eq_true rfl) (by decide) (by decide) (by decide) (by decide) (by decide) rfl) C 0 (own_wd hw 142 rfl) (own_wd hw 121 rfl) (by decide) (by decide)) (fun _ _ _ q => q.2) f853 [(.ref x)] [] rfl own_pd22 rfl rfl rfl (Nat.le_of_ble_eq_true rfl) (by decide) (by decide) (by decide +kernel) ?_
  rintro T896 h897 v898 L899 S900 ⟨⟨rfl, K890, f891, f892, f893, f894, f895⟩, -⟩
  replace S900 : own_S p l e ({ frames := 6, cells := 9, slots := 254, locals := 91 } : Room) (s.setVm vm838) m #[(.ref n)] below meth c n0 T896 h897 7 186 := S900
  have f901 : Fld Z h897 a797 "java/lang/AbstractStringBuilder" "count" "I" (.int (24 : Int32)) := f894
  show own_Go p e below _ T896 (mkF m 26 #[.val (.ref n)] [(.ref a797)])
  have f902 : Old Z n0 h897 := (f874.keep K890 (allS g807 (allS g883 all0)))
  have f903 : n0 ≤ h897.size := (Nat.le_trans f866 K890.1)
  refine own_callV C S900 (own_wd hw 199 rfl) (own_wd hw 200 rfl) (own_wd hw 202 rfl) (y' := ⟨"java/lang/StringBuilder", "toString", "()Ljava/lang/String;"⟩) rfl (own_wd hw 202 rfl) (own_wd hw 201 rfl) (by decide) (own_Met.pay (own_ts l Z a0 hw G1 G3 a797 a849 k850 (34 : Int32) ([(.int (110 : Int32)), (.int (101 : Int32)), (.int (97 : Int32)), (.int (114 : Int32)), (.int (102 : Int32)), (.int (97 : Int32)), (.int (114 : Int32)), (.int (58 : Int32)), (.int (105 : Int32)), (.int (110 : Int32)), (.int (118 : Int32)), (.int (97 : Int32)), (.int (108 : Int32)), (.int (105 : Int32)), (.int (100 : Int32)), (.int (97 : Int32)), (.int (116 : Int32)), (.int (105 : Int32)), (.int (111 : Int32)), (.int (110 : Int32)), (.int (115 : Int32)), (.int (58 : Int32)), (.int x0.toInt8.toInt32), (.int x1.toInt8.toInt32), (.int (0 : Int32)), (.int (0 : Int32)), (.int (0 : Int32)), (.int (0 : Int32)), (.int (0 : Int32)), (.int (0 : Int32)), (.int (0 : Int32)), (.int (0 : Int32)), (.int (0 : Int32)), (.int (0 : Int32))]) (24 : Int32) ([(.int (110 : Int32)), (.int (101 : Int32)), (.int (97 : Int32)), (.int (114 : Int32)), (.int (102 : Int32)), (.int (97 : Int32)), (.int (114 : Int32)), (.int (58 : Int32)), (.int (105 : Int32)), (.int (110 : Int32)), (.int (118 : Int32)), (.int (97 : Int32)), (.int (108 : Int32)), (.int (105 : Int32)), (.int (100 : Int32)), (.int (97 : Int32)), (.int (116 : Int32)), (.int (105 : Int32)), (.int (111 : Int32)), (.int (110 : Int32)), (.int (115 : Int32)), (.int (58 : Int32)), (.int x0.toInt8.toInt32), (.int x1.toInt8.toInt32)]) h897 n0 f903 f902 f891 f892 f893 f901 f895 O2 O4 P5 rG3 (by decide) (by decide) (by decide) (by decide) rfl) C 0 (own_wd hw 203 rfl) (own_wd hw 121 rfl) (by decide) (by decide)) (fun _ _ _ q => q.2) f891 [] [] rfl own_pd23 rfl rfl rfl (Nat.le_of_ble_eq_true rfl) (by decide) (by decide) (by decide +kernel) ?_
  rintro T914 h915 v916 L917 S918 ⟨⟨a904, a905, k906, rfl, g907, g908, K909, f910, f911, f912, f913⟩, -⟩
  replace S918 : own_S p l e ({ frames := 6, cells := 9, slots := 254, locals := 91 } : Room) (s.setVm vm838) m #[(.ref n)] below meth c n0 T914 h915 9 254 := S918
  show own_Go p e below _ T914 (mkF m 29 #[.val (.ref n)] [(.ref a904)])
  have f919 : a849 < h915.size := (Nat.lt_of_lt_of_le (Nat.lt_of_lt_of_le f857.lt K890.1) K909.1)
  have SW920 : own_SW p l e ({ frames := 6, cells := 9, slots := 254, locals := 91 } : Room) s m #[(.ref n)] below meth c n0 Z own_EL "com/example/nearfar_cache/nearfarcache/redis/RedisKeys" T914 h915 [a849, a904, a905, a797, a808] 9 254 := rb840 _ _ _ _ [a797] [a849, a904, a905] S918 ((((Keep.refl _ _).trans K852 (allS (Or.inl (List.mem_of_getElem? (i := 0) rfl)) all0)).trans K890 (allS (Or.inl (List.mem_of_getElem? (i := 0) rfl)) (allS (Or.inr (Nat.le_trans (Nat.le_refl _) g851)) all0))).trans K909 all0) (allS (List.mem_of_getElem? (i := 0) rfl) all0) (allS ⟨(Nat.le_trans (Nat.le_refl _) g851), f919⟩ (allS ⟨(Nat.le_trans (Nat.le_trans (Nat.le_trans (Nat.le_refl _) K852.1) K890.1) g907), f910.lt⟩ (allS ⟨(Nat.le_trans (Nat.le_trans (Nat.le_trans (Nat.le_refl _) K852.1) K890.1) g908), f913.lt⟩ all0)))
  refine own_retAW CW SW920 rfl rfl (by decide +kernel) (by decide) (by decide) ?_
  exact ⟨a904, a905, k906, rfl, (Nat.le_trans (Nat.le_trans (Nat.le_trans (Nat.le_trans (Nat.le_trans (Nat.le_trans (Nat.le_trans (Nat.le_refl _) E783.1) E799.1) K811.1) E830.1) K852.1) K890.1) g907), (Nat.le_trans (Nat.le_trans (Nat.le_trans (Nat.le_trans (Nat.le_trans (Nat.le_trans (Nat.le_trans (Nat.le_refl _) E783.1) E799.1) K811.1) E830.1) K852.1) K890.1) g908), ((((((((Keep.refl _ _).ext E783).ext E799).trans K811 (allS (Or.inr (by rw [g798]; exact (Nat.le_trans (Nat.le_refl _) E783.1))) all0)).ext E830).trans K852 (allS (Or.inr (by rw [g798]; exact (Nat.le_trans (Nat.le_refl _) E783.1))) all0)).trans K890 (allS (Or.inr (by rw [g798]; exact (Nat.le_trans (Nat.le_refl _) E783.1))) (allS (Or.inr (Nat.le_trans (Nat.le_trans (Nat.le_trans (Nat.le_trans (Nat.le_trans (Nat.le_refl _) E783.1) E799.1) K811.1) E830.1) g851)) all0))).trans K909 all0), f910, f911, f912, f913⟩
set_option maxRecDepth 65536 in
set_option maxHeartbeats 40000000 in
theorem own_ic3 (l : Launch) (Z : State) (a0 : Array Value) (hw : ∀ d ∈ tables_1, d.before a0 Z = true) (hEL : EW Z a0 own_EL) (wS : ∀ a ∈ Bundle.stringAtoms, a.before a0 Z = true) (G1 : Int32) (G3 : Value) (n : Addr) (x : Addr) (xt : Addr) (xk : ClassId) (x0 : Int32) (x1 : Int32) (x2 : Int32) (h0 : Heap) (n0 : Nat) (z0 : n0 ≤ h0.size) (X00 : Old Z n0 h0) (nE : Exa Z h0 n "com/example/nearfar_cache/nearfarcache/Namespace") (nN : Fld Z h0 n "com/example/nearfar_cache/nearfarcache/Namespace" "name" "Ljava/lang/String;" (.ref x)) (xE : Exa Z h0 x "java/lang/String") (xV : Fld Z h0 x "java/lang/String" "value" "[B" (.ref xt)) (xC : Fld Z h0 x "java/lang/String" "coder" "B" (.int 0)) (xK : Arv Z h0 xt xk .byte (3 : Int32) ([(.int x0.toInt8.toInt32), (.int x1.toInt8.toInt32), (.int x2.toInt8.toInt32)]) (.int 0)) (O2 : Sta Z Z.heap "java/lang/String" "COMPACT_STRINGS" "Z" (.int G1)) (O4 : Sta Z Z.heap "jdk/internal/util/Preconditions" "SIOOBE_FORMATTER" "Ljava/util/function/BiFunction;" G3) (P5 : ¬ G1 = (0 : Int32)) (rG3 : G3.isRef = true) (xh0 : ¬ x0 < 0 ∧ ¬ (255 : Int32) < x0) (xh1 : ¬ x1 < 0 ∧ ¬ (255 : Int32) < x1) (xh2 : ¬ x2 < 0 ∧ ¬ (255 : Int32) < x2) :
    own_MetW l Z own_EL (⟨"com/example/nearfar_cache/nearfarcache/redis/RedisKeys", "invalidationChannel", "(Lcom/example/nearfar_cache/nearfarcache/Namespace;)Ljava/lang/String;"⟩ : MethodName) prog_26_method_4_code 1 (some (.object "java/lang/String")) ({ frames := 6, cells := 9, slots := 254, locals := 91 } : Room) n0 #[(.ref n)] h0 [] (fun v h => ∃ r : Addr, ∃ rt : Addr, ∃ rk : ClassId, v = some (.ref r) ∧ h0.size ≤ r ∧ h0.size ≤ rt ∧ Keep h0 h [] ∧ Exa Z h r "java/lang/String" ∧ Fld Z h r "java/lang/String" "coder" "B" (.int 0) ∧ Fld Z h r "java/lang/String" "value" "[B" (.ref rt) ∧ Arv Z h rt rk .byte (25 : Int32) ([(.int (110 : Int32)), (.int (101 : Int32)), (.int (97 : Int32)), (.int (114 : Int32)), (.int (102 : Int32)), (.int (97 : Int32)), (.int (114 : Int32)), (.int (58 : Int32)), (.int (105 : Int32)), (.int (110 : Int32)), (.int (118 : Int32)), (.int (97 : Int32)), (.int (108 : Int32)), (.int (105 : Int32)), (.int (100 : Int32)), (.int (97 : Int32)), (.int (116 : Int32)), (.int (105 : Int32)), (.int (111 : Int32)), (.int (110 : Int32)), (.int (115 : Int32)), (.int (58 : Int32)), (.int x0.toInt8.toInt32), (.int x1.toInt8.toInt32), (.int x2.toInt8.toInt32)]) (.int 0)) := by
  refine own_metW hEL wS (by decide +kernel) #[.val (.ref n)] (fun m => by first | (simp [entryFrame, mkF, argsToLocals, Value.category]; done) | rfl) ?_
  intro p e s m below meth c T0 CW SW0
  have hp921 : ∀ c ∈ ([x0, x1, x2] : List Int32), ¬ c < 0 ∧ ¬ (255 : Int32) < c := by
    intro c hc; simp only [List.mem_cons, List.not_mem_nil, or_false] at hc
    rcases hc with rfl | rfl | rfl
    · exact xh0
    · exact xh1
    · exact xh2
  have hcd922 : StrChars.Road.CodA ([x0, x1, x2] : List Int32) 0 (3 : Int32) [(.int x0.toInt8.toInt32), (.int x1.toInt8.toInt32), (.int x2.toInt8.toInt32)] := StrChars.Road.codOf (cs := ([x0, x1, x2] : List Int32)) (n := 3) rfl (fun c hc => (hp921 c hc).2)
  refine own_lift CW SW0 ?_
  intro vm923 C S924 rb925
  refine own_seg C S924 [(0, .aload_n 0, 1)] (by decide +kernel) 1 #[.val (.ref n)] [(.ref n)] rfl ?_
  have SW926 : own_SW p l e ({ frames := 6, cells := 9, slots := 254, locals := 91 } : Room) s m #[(.ref n)] below meth c n0 Z own_EL "com/example/nearfar_cache/nearfarcache/redis/RedisKeys" T0 h0 [] 0 0 := rb925 _ _ _ _ [] [] S924 (Keep.refl _ _) all0 all0
  refine own_ldcO CW SW926 (own_wd hw 117 rfl) (by decide +kernel) 36 (by decide) (by decide) (by decide) (by decide) ?_
  intro T927 h928 a929 SW930 E931
  refine own_lift CW SW930 ?_
  intro vm932 C S933 rb934
  have f935 : n0 ≤ h928.size := (Nat.le_trans z0 E931.1)
  refine own_callS C S933 (own_wd hw 118 rfl) (own_wd hw 51 rfl) (own_wd hw 52 rfl) (own_wd hw 53 rfl) (by decide) (own_Met.pay (own_rnn2 l Z a0 hw n a929 h928 n0 f935) C 0 (own_wd hw 53 rfl) (own_wd hw 52 rfl) (by decide) (by decide)) (fun _ _ _ q => q.2) [(.ref n), (.ref a929)] [] rfl own_pd20 rfl rfl rfl (Nat.le_of_ble_eq_true rfl) (by decide) (by decide) (by decide +kernel) ?_
  rintro T937 h938 v939 L940 S941 ⟨⟨rfl, e936⟩, -⟩
  replace S941 : own_S p l e ({ frames := 6, cells := 9, slots := 254, locals := 91 } : Room) (s.setVm vm932) m #[(.ref n)] below meth c n0 T937 h938 2 40 := S941
  rw [e936] at S941; clear e936
  show own_Go p e below _ T937 (mkF m 6 #[.val (.ref n)] [(.ref n)])
  refine own_seg C S941 [(6, .pop, 1)] (by decide +kernel) 7 #[.val (.ref n)] [] rfl ?_
  refine own_new C S941 (own_wd hw 119 rfl) (own_wd hw 120 rfl) (own_wd hw 121 rfl) (by decide +kernel) (by decide) (by decide) ?_
  intro T942 h944 a945 S943 g946 E947 x948 D949
  have f950 : Fld Z h944 a945 "java/lang/AbstractStringBuilder" "value" "[B" .null := D949 (ty := (.array .byte)) (Or.inl (own_wd hw 134 rfl)) own_fd0
  have f951 : Fld Z h944 a945 "java/lang/AbstractStringBuilder" "coder" "B" (.int (0 : Int32)) := D949 (ty := .byte) (Or.inl (own_wd hw 136 rfl)) own_fd1
  have f952 : Fld Z h944 a945 "java/lang/AbstractStringBuilder" "count" "I" (.int (0 : Int32)) := D949 (ty := .int) (Or.inl (own_wd hw 150 rfl)) own_fd2
  refine own_seg C S943 [(10, .dup, 1)] (by decide +kernel) 11 #[.val (.ref n)] [(.ref a945), (.ref a945)] rfl ?_
  have f953 : Old Z n0 h944 := ((X00.ext E931).ext E947)
  have f954 : n0 ≤ h944.size := (Nat.le_trans f935 E947.1)
  have g955 : n0 ≤ a945 := by rw [g946]; exact f935
  refine own_callI C S943 rfl (own_wd hw 122 rfl) (own_wd hw 123 rfl) (own_wd hw 124 rfl) (by decide) (own_Met.pay (own_sbI l Z a0 hw G1 G3 a945 h944 n0 f954 g955 f953 x948 f950 f951 f952 O2 O4 P5 rG3) C 1 (own_wd hw 124 rfl) (own_wd hw 121 rfl) (by decide) (by decide)) (fun _ _ _ q => q.2) [] [(.ref a945)] rfl own_pd19 rfl rfl rfl (Nat.le_of_ble_eq_true rfl) (by decide) (by decide) (by decide +kernel) ?_
  rintro T965 h966 v967 L968 S969 ⟨⟨a956, k957, rfl, g958, K959, f960, f961, f962, f963, f964⟩, -⟩
  replace S969 : own_S p l e ({ frames := 6, cells := 9, slots := 254, locals := 91 } : Room) (s.setVm vm932) m #[(.ref n)] below meth c n0 T965 h966 4 60 := S969
  show own_Go p e below _ T965 (mkF m 14 #[.val (.ref n)] [(.ref a945)])
  have f970 : a945 < h966.size := (Nat.lt_of_lt_of_le f950.lt K959.1)
  have SW971 : own_SW p l e ({ frames := 6, cells := 9, slots := 254, locals := 91 } : Room) s m #[(.ref n)] below meth c n0 Z own_EL "com/example/nearfar_cache/nearfarcache/redis/RedisKeys" T965 h966 [a945, a956] 4 60 := rb934 _ _ _ _ [] [a945, a956] S969 (((Keep.refl _ _).ext E947).trans K959 (allS (Or.inr (by rw [g946]; exact (Nat.le_refl _))) all0)) all0 (allS ⟨(by rw [g946]; exact (Nat.le_refl _)), f970⟩ (allS ⟨(Nat.le_trans (Nat.le_trans (Nat.le_refl _) E947.1) g958), f964.lt⟩ all0))
  refine own_ldcW CW SW971 (own_wd hw 137 rfl) (List.mem_of_getElem? (i := 3) rfl) (z := (22 : Int32)) (vs := [(.int (110 : Int32)), (.int (101 : Int32)), (.int (97 : Int32)), (.int (114 : Int32)), (.int (102 : Int32)), (.int (97 : Int32)), (.int (114 : Int32)), (.int (58 : Int32)), (.int (105 : Int32)), (.int (110 : Int32)), (.int (118 : Int32)), (.int (97 : Int32)), (.int (108 : Int32)), (.int (105 : Int32)), (.int (100 : Int32)), (.int (97 : Int32)), (.int (116 : Int32)), (.int (105 : Int32)), (.int (111 : Int32)), (.int (110 : Int32)), (.int (115 : Int32)), (.int (58 : Int32))]) ⟨by decide, by decide⟩ (by decide) rfl (by decide +kernel) 88 (by decide) (by decide) (by decide) (by decide) ?_
  intro T972 h973 a974 b975 k976 SW977 E978 x979 f980 f981 f982 ne983
  have hp984 : ∀ c ∈ ([110, 101, 97, 114, 102, 97, 114, 58, 105, 110, 118, 97, 108, 105, 100, 97, 116, 105, 111, 110, 115, 58] : List Int32), ¬ c < 0 ∧ ¬ (255 : Int32) < c := by decide
  have hcd985 : StrChars.Road.CodA ([110, 101, 97, 114, 102, 97, 114, 58, 105, 110, 118, 97, 108, 105, 100, 97, 116, 105, 111, 110, 115, 58] : List Int32) 0 (22 : Int32) [(.int (110 : Int32)), (.int (101 : Int32)), (.int (97 : Int32)), (.int (114 : Int32)), (.int (102 : Int32)), (.int (97 : Int32)), (.int (114 : Int32)), (.int (58 : Int32)), (.int (105 : Int32)), (.int (110 : Int32)), (.int (118 : Int32)), (.int (97 : Int32)), (.int (108 : Int32)), (.int (105 : Int32)), (.int (100 : Int32)), (.int (97 : Int32)), (.int (116 : Int32)), (.int (105 : Int32)), (.int (111 : Int32)), (.int (110 : Int32)), (.int (115 : Int32)), (.int (58 : Int32))] := StrChars.Road.codOf (cs := ([110, 101, 97, 114, 102, 97, 114, 58, 105, 110, 118, 97, 108, 105, 100, 97, 116, 105, 111, 110, 115, 58] : List Int32)) (n := 22) rfl (fun c hc => (hp984 c hc).2)
  refine own_lift CW SW977 ?_
  intro vm986 C S987 rb988
  have f989 : Old Z n0 h973 := ((f953.keep K959 (allS g955 all0)).ext E978)
  have f990 : Exa Z h973 a945 "java/lang/StringBuilder" := (Exa.ext E978 f960)
  have f991 : Fld Z h973 a945 "java/lang/AbstractStringBuilder" "value" "[B" (.ref a956) := (Fld.ext E978 f961)
  have f992 : Fld Z h973 a945 "java/lang/AbstractStringBuilder" "coder" "B" (.int (0 : Int32)) := (Fld.ext E978 f962)
  have f993 : Fld Z h973 a945 "java/lang/AbstractStringBuilder" "count" "I" (.int (0 : Int32)) := (Fld.ext E978 f963)
  have f994 : Arv Z h973 a956 k957 .byte (16 : Int32) ([(.int (0 : Int32)), (.int (0 : Int32)), (.int (0 : Int32)), (.int (0 : Int32)), (.int (0 : Int32)), (.int (0 : Int32)), (.int (0 : Int32)), (.int (0 : Int32)), (.int (0 : Int32)), (.int (0 : Int32)), (.int (0 : Int32)), (.int (0 : Int32)), (.int (0 : Int32)), (.int (0 : Int32)), (.int (0 : Int32)), (.int (0 : Int32))]) (.int (0 : Int32)) := (f964.ext E978)
  have f995 : n0 ≤ h973.size := (Nat.le_trans (Nat.le_trans f954 K959.1) E978.1)
  have n996 : a945 ≠ a956 := Nat.ne_of_lt (Nat.lt_of_lt_of_le f950.lt g958)
  refine own_callV C S987 (own_wd hw 138 rfl) (own_wd hw 139 rfl) (own_wd hw 141 rfl) (y' := ⟨"java/lang/StringBuilder", "append", "(Ljava/lang/String;)Ljava/lang/StringBuilder;"⟩) rfl (own_wd hw 141 rfl) (own_wd hw 140 rfl) (by decide) (own_Met.pay (own_sbG l Z a0 hw G1 G3 a974 b975 k976 (22 : Int32) ([(.int (110 : Int32)), (.int (101 : Int32)), (.int (97 : Int32)), (.int (114 : Int32)), (.int (102 : Int32)), (.int (97 : Int32)), (.int (114 : Int32)), (.int (58 : Int32)), (.int (105 : Int32)), (.int (110 : Int32)), (.int (118 : Int32)), (.int (97 : Int32)), (.int (108 : Int32)), (.int (105 : Int32)), (.int (100 : Int32)), (.int (97 : Int32)), (.int (116 : Int32)), (.int (105 : Int32)), (.int (111 : Int32)), (.int (110 : Int32)), (.int (115 : Int32)), (.int (58 : Int32))]) ([110, 101, 97, 114, 102, 97, 114, 58, 105, 110, 118, 97, 108, 105, 100, 97, 116, 105, 111, 110, 115, 58] : List Int32) a945 a956 k957 ([(.int (0 : Int32)), (.int (0 : Int32)), (.int (0 : Int32)), (.int (0 : Int32)), (.int (0 : Int32)), (.int (0 : Int32)), (.int (0 : Int32)), (.int (0 : Int32)), (.int (0 : Int32)), (.int (0 : Int32)), (.int (0 : Int32)), (.int (0 : Int32)), (.int (0 : Int32)), (.int (0 : Int32)), (.int (0 : Int32)), (.int (0 : Int32))]) ([(.int (0 : Int32)), (.int (0 : Int32)), (.int (0 : Int32)), (.int (0 : Int32)), (.int (0 : Int32)), (.int (0 : Int32)), (.int (0 : Int32)), (.int (0 : Int32)), (.int (0 : Int32)), (.int (0 : Int32)), (.int (0 : Int32)), (.int (0 : Int32)), (.int (0 : Int32)), (.int (0 : Int32)), (.int (0 : Int32)), (.int (0 : Int32)), (.int (0 : Int32)), (.int (0 : Int32)), (.int (0 : Int32)), (.int (0 : Int32)), (.int (0 : Int32)), (.int (0 : Int32)), (.int (0 : Int32)), (.int (0 : Int32)), (.int (0 : Int32)), (.int (0 : Int32)), (.int (0 : Int32)), (.int (0 : Int32)), (.int (0 : Int32)), (.int (0 : Int32)), (.int (0 : Int32)), (.int (0 : Int32)), (.int (0 : Int32)), (.int (0 : Int32))]) ([(.int (110 : Int32)), (.int (101 : Int32)), (.int (97 : Int32)), (.int (114 : Int32)), (.int (102 : Int32)), (.int (97 : Int32)), (.int (114 : Int32)), (.int (58 : Int32)), (.int (105 : Int32)), (.int (110 : Int32)), (.int (118 : Int32)), (.int (97 : Int32)), (.int (108 : Int32)), (.int (105 : Int32)), (.int (100 : Int32)), (.int (97 : Int32)), (.int (116 : Int32)), (.int (105 : Int32)), (.int (111 : Int32)), (.int (110 : Int32)), (.int (115 : Int32)), (.int (58 : Int32)), (.int (0 : Int32)), (.int (0 : Int32)), (.int (0 : Int32)), (.int (0 : Int32)), (.int (0 : Int32)), (.int (0 : Int32)), (.int (0 : Int32)), (.int (0 : Int32)), (.int (0 : Int32)), (.int (0 : Int32)), (.int (0 : Int32)), (.int (0 : Int32))]) h973 n0 f995 g955 f989 x979 f981 f980 f982 f990 f991 f992 f993 f994 (Ne.symm (ne983 a945 (List.mem_of_getElem? (i := 0) rfl)).2) (Ne.symm (ne983 a945 (List.mem_of_getElem? (i := 0) rfl)).1) (Ne.symm n996) O2 O4 P5 rG3 hcd985 hp984 (Nat.le_of_ble_eq_true rfl) rfl rfl rfl rfl) C 0 (own_wd hw 142 rfl) (own_wd hw 121 rfl) (by decide) (by decide)) (fun _ _ _ q => q.2) f990 [(.ref a974)] [] rfl own_pd22 rfl rfl rfl (Nat.le_of_ble_eq_true rfl) (by decide) (by decide) (by decide +kernel) ?_
  rintro T1006 h1007 v1008 L1009 S1010 ⟨⟨a997, k998, rfl, g999, K1000, f1001, f1002, f1003, f1004, f1005⟩, -⟩
  replace S1010 : own_S p l e ({ frames := 6, cells := 9, slots := 254, locals := 91 } : Room) (s.setVm vm986) m #[(.ref n)] below meth c n0 T1006 h1007 7 186 := S1010
  show own_Go p e below _ T1006 (mkF m 19 #[.val (.ref n)] [(.ref a945)])
  refine own_seg C S1010 [(19, .aload_n 0, 1)] (by decide +kernel) 20 #[.val (.ref n)] [(.ref n), (.ref a945)] rfl ?_
  have f1011 : n < h928.size := (Nat.lt_of_lt_of_le nE.lt E931.1)
  have n1012 : n ≠ a945 := by rw [g946]; exact Nat.ne_of_lt f1011
  have f1013 : Fld Z h1007 n "com/example/nearfar_cache/nearfarcache/Namespace" "name" "Ljava/lang/String;" (.ref x) := ((Fld.ext E978 ((Fld.ext E947 (Fld.ext E931 nN)).keep K959 (ninS n1012 nin0))).keep K1000 (ninS n1012 nin0))
  have f1014 : n0 ≤ h1007.size := (Nat.le_trans f995 K1000.1)
  have f1021 : Exa Z h1007 n "com/example/nearfar_cache/nearfarcache/Namespace" := ((Exa.ext E978 ((Exa.ext E947 (Exa.ext E931 nE)).keep K959)).keep K1000)
  refine own_callV C S1010 (own_wd hw 194 rfl) (own_wd hw 195 rfl) (own_wd hw 197 rfl) (y' := ⟨"com/example/nearfar_cache/nearfarcache/Namespace", "name", "()Ljava/lang/String;"⟩) rfl (own_wd hw 197 rfl) (own_wd hw 196 rfl) (by decide) (own_Met.pay (own_nsn l Z a0 hw n x h1007 n0 f1014 f1013) C 1 (own_wd hw 198 rfl) (own_wd hw 37 rfl) (by decide) (by decide)) (fun _ _ _ q => q.2) f1021 [] [(.ref a945)] rfl own_pd23 rfl rfl rfl (Nat.le_of_ble_eq_true rfl) (by decide) (by decide) (by decide +kernel) ?_
  rintro T1016 h1017 v1018 L1019 S1020 ⟨⟨rfl, e1015⟩, -⟩
  replace S1020 : own_S p l e ({ frames := 6, cells := 9, slots := 254, locals := 91 } : Room) (s.setVm vm986) m #[(.ref n)] below meth c n0 T1016 h1017 7 186 := S1020
  rw [e1015] at S1020; clear e1015
  show own_Go p e below _ T1016 (mkF m 23 #[.val (.ref n)] [(.ref x), (.ref a945)])
  have f1022 : Old Z n0 h1007 := (f989.keep K1000 (allS g955 all0))
  have f1023 : Exa Z h1007 x "java/lang/String" := ((Exa.ext E978 ((Exa.ext E947 (Exa.ext E931 xE)).keep K959)).keep K1000)
  have f1024 : x < h928.size := (Nat.lt_of_lt_of_le xE.lt E931.1)
  have n1025 : x ≠ a945 := by rw [g946]; exact Nat.ne_of_lt f1024
  have f1026 : Fld Z h1007 x "java/lang/String" "value" "[B" (.ref xt) := ((Fld.ext E978 ((Fld.ext E947 (Fld.ext E931 xV)).keep K959 (ninS n1025 nin0))).keep K1000 (ninS n1025 nin0))
  have f1027 : Fld Z h1007 x "java/lang/String" "coder" "B" (.int 0) := ((Fld.ext E978 ((Fld.ext E947 (Fld.ext E931 xC)).keep K959 (ninS n1025 nin0))).keep K1000 (ninS n1025 nin0))
  have f1028 : xt < h928.size := (Nat.lt_of_lt_of_le xK.lt E931.1)
  have n1029 : xt ≠ a945 := by rw [g946]; exact Nat.ne_of_lt f1028
  have f1030 : Arv Z h1007 xt xk .byte (3 : Int32) ([(.int x0.toInt8.toInt32), (.int x1.toInt8.toInt32), (.int x2.toInt8.toInt32)]) (.int 0) := (((((xK.ext E931).ext E947).keep K959 (ninS n1029 nin0)).ext E978).keep K1000 (ninS n1029 nin0))
  have g1031 : n0 ≤ a997 := Nat.le_trans f995 g999
  have f1032 : xt < h973.size := (Nat.lt_of_lt_of_le (Nat.lt_of_lt_of_le (Nat.lt_of_lt_of_le f1028 E947.1) K959.1) E978.1)
  have n1033 : xt ≠ a997 := Nat.ne_of_lt (Nat.lt_of_lt_of_le f1032 g999)
  have f1034 : x < h973.size := (Nat.lt_of_lt_of_le (Nat.lt_of_lt_of_le (Nat.lt_of_lt_of_le f1024 E947.1) K959.1) E978.1)
  have n1035 : x ≠ a997 := Nat.ne_of_lt (Nat.lt_of_lt_of_le f1034 g999)
  have f1036 : a945 < h973.size := (Nat.lt_of_lt_of_le f970 E978.1)
  have n1037 : a945 ≠ a997 := Nat.ne_of_lt (Nat.lt_of_lt_of_le f1036 g999)
  refine own_callV C S1020 (own_wd hw 138 rfl) (own_wd hw 139 rfl) (own_wd hw 141 rfl) (y' := ⟨"java/lang/StringBuilder", "append", "(Ljava/lang/String;)Ljava/lang/StringBuilder;"⟩) rfl (own_wd hw 141 rfl) (own_wd hw 140 rfl) (by decide) (own_Met.pay (own_sbA l Z a0 hw G1 G3 x xt xk (3 : Int32) ([(.int x0.toInt8.toInt32), (.int x1.toInt8.toInt32), (.int x2.toInt8.toInt32)]) ([x0, x1, x2] : List Int32) a945 a997 k998 (34 : Int32) ([(.int (110 : Int32)), (.int (101 : Int32)), (.int (97 : Int32)), (.int (114 : Int32)), (.int (102 : Int32)), (.int (97 : Int32)), (.int (114 : Int32)), (.int (58 : Int32)), (.int (105 : Int32)), (.int (110 : Int32)), (.int (118 : Int32)), (.int (97 : Int32)), (.int (108 : Int32)), (.int (105 : Int32)), (.int (100 : Int32)), (.int (97 : Int32)), (.int (116 : Int32)), (.int (105 : Int32)), (.int (111 : Int32)), (.int (110 : Int32)), (.int (115 : Int32)), (.int (58 : Int32)), (.int (0 : Int32)), (.int (0 : Int32)), (.int (0 : Int32)), (.int (0 : Int32)), (.int (0 : Int32)), (.int (0 : Int32)), (.int (0 : Int32)), (.int (0 : Int32)), (.int (0 : Int32)), (.int (0 : Int32)), (.int (0 : Int32)), (.int (0 : Int32))]) (22 : Int32) ([(.int (110 : Int32)), (.int (101 : Int32)), (.int (97 : Int32)), (.int (114 : Int32)), (.int (102 : Int32)), (.int (97 : Int32)), (.int (114 : Int32)), (.int (58 : Int32)), (.int (105 : Int32)), (.int (110 : Int32)), (.int (118 : Int32)), (.int (97 : Int32)), (.int (108 : Int32)), (.int (105 : Int32)), (.int (100 : Int32)), (.int (97 : Int32)), (.int (116 : Int32)), (.int (105 : Int32)), (.int (111 : Int32)), (.int (110 : Int32)), (.int (115 : Int32)), (.int (58 : Int32)), (.int x0.toInt8.toInt32), (.int x1.toInt8.toInt32), (.int x2.toInt8.toInt32), (.int (0 : Int32)), (.int (0 : Int32)), (.int (0 : Int32)), (.int (0 : Int32)), (.int (0 : Int32)), (.int (0 : Int32)), (.int (0 : Int32)), (.int (0 : Int32)), (.int (0 : Int32))]) h1007 n0 f1014 g955 g1031 f1022 f1023 f1026 f1027 f1030 f1001 f1002 f1003 f1004 f1005 n1033 n1029 n1025 n1035 (Ne.symm n1037) O2 O4 P5 rG3 hcd922 hp921 (Nat.le_of_ble_eq_true rfl) (by decide) (by decide) (by decide) (by decide) (by decide) rfl) C 0 (own_wd hw 142 rfl) (own_wd hw 121 rfl) (by decide) (by decide)) (fun _ _ _ q => q.2) f1001 [(.ref x)] [] rfl own_pd22 rfl rfl rfl (Nat.le_of_ble_eq_true rfl) (by decide) (by decide) (by decide +kernel) ?_
  rintro T1044 h1045 v1046 L1047 S1048 ⟨⟨rfl, K1038, f1039, f1040, f1041, f1042, f1043⟩, -⟩
  replace S1048 : own_S p l e ({ frames := 6, cells := 9, slots := 254, locals := 91 } : Room) (s.setVm vm986) m #[(.ref n)] below meth c n0 T1044 h1045 7 186 := S1048
  have f1049 : Fld Z h1045 a945 "java/lang/AbstractStringBuilder" "count" "I" (.int (25 : Int32)) := f1042
  show own_Go p e below _ T1044 (mkF m 26 #[.val (.ref n)] [(.ref a945)])
  have f1050 : Old Z n0 h1045 := (f1022.keep K1038 (allS g955 (allS g1031 all0)))
  have f1051 : n0 ≤ h1045.size := (Nat.le_trans f1014 K1038.1)
  refine own_callV C S1048 (own_wd hw 199 rfl) (own_wd hw 200 rfl) (own_wd hw 202 rfl) (y' := ⟨"java/lang/StringBuilder", "toString", "()Ljava/lang/String;"⟩) rfl (own_wd hw 202 rfl) (own_wd hw 201 rfl) (by decide) (own_Met.pay (own_ts l Z a0 hw G1 G3 a945 a997 k998 (34 : Int32) ([(.int (110 : Int32)), (.int (101 : Int32)), (.int (97 : Int32)), (.int (114 : Int32)), (.int (102 : Int32)), (.int (97 : Int32)), (.int (114 : Int32)), (.int (58 : Int32)), (.int (105 : Int32)), (.int (110 : Int32)), (.int (118 : Int32)), (.int (97 : Int32)), (.int (108 : Int32)), (.int (105 : Int32)), (.int (100 : Int32)), (.int (97 : Int32)), (.int (116 : Int32)), (.int (105 : Int32)), (.int (111 : Int32)), (.int (110 : Int32)), (.int (115 : Int32)), (.int (58 : Int32)), (.int x0.toInt8.toInt32), (.int x1.toInt8.toInt32), (.int x2.toInt8.toInt32), (.int (0 : Int32)), (.int (0 : Int32)), (.int (0 : Int32)), (.int (0 : Int32)), (.int (0 : Int32)), (.int (0 : Int32)), (.int (0 : Int32)), (.int (0 : Int32)), (.int (0 : Int32))]) (25 : Int32) ([(.int (110 : Int32)), (.int (101 : Int32)), (.int (97 : Int32)), (.int (114 : Int32)), (.int (102 : Int32)), (.int (97 : Int32)), (.int (114 : Int32)), (.int (58 : Int32)), (.int (105 : Int32)), (.int (110 : Int32)), (.int (118 : Int32)), (.int (97 : Int32)), (.int (108 : Int32)), (.int (105 : Int32)), (.int (100 : Int32)), (.int (97 : Int32)), (.int (116 : Int32)), (.int (105 : Int32)), (.int (111 : Int32)), (.int (110 : Int32)), (.int (115 : Int32)), (.int (58 : Int32)), (.int x0.toInt8.toInt32), (.int x1.toInt8.toInt32), (.int x2.toInt8.toInt32)]) h1045 n0 f1051 f1050 f1039 f1040 f1041 f1049 f1043 O2 O4 P5 rG3 (by decide) (by decide) (by decide) (by decide) rfl) C 0 (own_wd hw 203 rfl) (own_wd hw 121 rfl) (by decide) (by decide)) (fun _ _ _ q => q.2) f1039 [] [] rfl own_pd23 rfl rfl rfl (Nat.le_of_ble_eq_true rfl) (by decide) (by decide) (by decide +kernel) ?_
  rintro T1062 h1063 v1064 L1065 S1066 ⟨⟨a1052, a1053, k1054, rfl, g1055, g1056, K1057, f1058, f1059, f1060, f1061⟩, -⟩
  replace S1066 : own_S p l e ({ frames := 6, cells := 9, slots := 254, locals := 91 } : Room) (s.setVm vm986) m #[(.ref n)] below meth c n0 T1062 h1063 9 254 := S1066
  show own_Go p e below _ T1062 (mkF m 29 #[.val (.ref n)] [(.ref a1052)])
  have f1067 : a997 < h1063.size := (Nat.lt_of_lt_of_le (Nat.lt_of_lt_of_le f1005.lt K1038.1) K1057.1)
  have SW1068 : own_SW p l e ({ frames := 6, cells := 9, slots := 254, locals := 91 } : Room) s m #[(.ref n)] below meth c n0 Z own_EL "com/example/nearfar_cache/nearfarcache/redis/RedisKeys" T1062 h1063 [a997, a1052, a1053, a945, a956] 9 254 := rb988 _ _ _ _ [a945] [a997, a1052, a1053] S1066 ((((Keep.refl _ _).trans K1000 (allS (Or.inl (List.mem_of_getElem? (i := 0) rfl)) all0)).trans K1038 (allS (Or.inl (List.mem_of_getElem? (i := 0) rfl)) (allS (Or.inr (Nat.le_trans (Nat.le_refl _) g999)) all0))).trans K1057 all0) (allS (List.mem_of_getElem? (i := 0) rfl) all0) (allS ⟨(Nat.le_trans (Nat.le_refl _) g999), f1067⟩ (allS ⟨(Nat.le_trans (Nat.le_trans (Nat.le_trans (Nat.le_refl _) K1000.1) K1038.1) g1055), f1058.lt⟩ (allS ⟨(Nat.le_trans (Nat.le_trans (Nat.le_trans (Nat.le_refl _) K1000.1) K1038.1) g1056), f1061.lt⟩ all0)))
  refine own_retAW CW SW1068 rfl rfl (by decide +kernel) (by decide) (by decide) ?_
  exact ⟨a1052, a1053, k1054, rfl, (Nat.le_trans (Nat.le_trans (Nat.le_trans (Nat.le_trans (Nat.le_trans (Nat.le_trans (Nat.le_trans (Nat.le_refl _) E931.1) E947.1) K959.1) E978.1) K1000.1) K1038.1) g1055), (Nat.le_trans (Nat.le_trans (Nat.le_trans (Nat.le_trans (Nat.le_trans (Nat.le_trans (Nat.le_trans (Nat.le_refl _) E931.1) E947.1) K959.1) E978.1) K1000.1) K1038.1) g1056), ((((((((Keep.refl _ _).ext E931).ext E947).trans K959 (allS (Or.inr (by rw [g946]; exact (Nat.le_trans (Nat.le_refl _) E931.1))) all0)).ext E978).trans K1000 (allS (Or.inr (by rw [g946]; exact (Nat.le_trans (Nat.le_refl _) E931.1))) all0)).trans K1038 (allS (Or.inr (by rw [g946]; exact (Nat.le_trans (Nat.le_refl _) E931.1))) (allS (Or.inr (Nat.le_trans (Nat.le_trans (Nat.le_trans (Nat.le_trans (Nat.le_trans (Nat.le_refl _) E931.1) E947.1) K959.1) E978.1) g999)) all0))).trans K1057 all0), f1058, f1059, f1060, f1061⟩
theorem own_hch : ∀ d ∈ StrChars.Road.wordsChN, d ∈ tables_1 := by decide +kernel
theorem own_pd24 : parseMethodDescriptor "(I)C" = some ⟨[.int], (some .char)⟩ := by decide +kernel
set_option maxRecDepth 65536 in
set_option maxHeartbeats 40000000 in
theorem own_hpx (l : Launch) (Z : State) (a0 : Array Value) (hw : ∀ d ∈ tables_1, d.before a0 Z = true) (G1 : Int32) (G3 : Value) (x : Addr) (xt : Addr) (xk : ClassId) (xN : Int32) (xvs : List Value) (xcs : List Int32) (h0 : Heap) (n0 : Nat) (z0 : n0 ≤ h0.size) (X00 : Old Z n0 h0) (xE : Exa Z h0 x "java/lang/String") (xV : Fld Z h0 x "java/lang/String" "value" "[B" (.ref xt)) (xC : Fld Z h0 x "java/lang/String" "coder" "B" (.int 0)) (xK : Arv Z h0 xt xk .byte xN xvs (.int 0)) (O2 : Sta Z Z.heap "java/lang/String" "COMPACT_STRINGS" "Z" (.int G1)) (O4 : Sta Z Z.heap "jdk/internal/util/Preconditions" "SIOOBE_FORMATTER" "Ljava/util/function/BiFunction;" G3) (P5 : ¬ G1 = (0 : Int32)) (rG3 : G3.isRef = true) (xcd : StrChars.Road.CodA xcs 0 xN xvs) (xhp : ∀ c ∈ xcs, ¬ c < 0 ∧ ¬ (255 : Int32) < c) (xl2 : xcs.length ≤ 4000) (hl : 22 ≤ xcs.length) (hN2 : ¬ xN < (22 : Int32)) (g0 : xcs.getD 0 0 = (110 : Int32)) (g1 : xcs.getD 1 0 = (101 : Int32)) (g2 : xcs.getD 2 0 = (97 : Int32)) (g3 : xcs.getD 3 0 = (114 : Int32)) (g4 : xcs.getD 4 0 = (102 : Int32)) (g5 : xcs.getD 5 0 = (97 : Int32)) (g6 : xcs.getD 6 0 = (114 : Int32)) (g7 : xcs.getD 7 0 = (58 : Int32)) (g8 : xcs.getD 8 0 = (105 : Int32)) (g9 : xcs.getD 9 0 = (110 : Int32)) (g10 : xcs.getD 10 0 = (118 : Int32)) (g11 : xcs.getD 11 0 = (97 : Int32)) (g12 : xcs.getD 12 0 = (108 : Int32)) (g13 : xcs.getD 13 0 = (105 : Int32)) (g14 : xcs.getD 14 0 = (100 : Int32)) (g15 : xcs.getD 15 0 = (97 : Int32)) (g16 : xcs.getD 16 0 = (116 : Int32)) (g17 : xcs.getD 17 0 = (105 : Int32)) (g18 : xcs.getD 18 0 = (111 : Int32)) (g19 : xcs.getD 19 0 = (110 : Int32)) (g20 : xcs.getD 20 0 = (115 : Int32)) (g21 : xcs.getD 21 0 = (58 : Int32)) :
    own_Met l Z (⟨"com/example/nearfar_cache/nearfarcache/redis/RedisKeysInvalidationChannelPinLaw", "hasPrefix", "(Ljava/lang/String;)Z"⟩ : MethodName) method_3_code 1 (some .boolean) ({ frames := 4, cells := 0, slots := 0, locals := 53 } : Room) n0 #[(.ref x)] h0 (fun v h => v = some (.int (1 : Int32)) ∧ h = h0) := by
  refine own_met (by decide +kernel) #[.val (.ref x)] (fun m => by first | (simp [entryFrame, mkF, argsToLocals, Value.category]; done) | rfl) ?_
  intro p e s m below meth c T0 C S0
  refine own_seg C S0 [(0, .aload_n 0, 1)] (by decide +kernel) 1 #[.val (.ref x)] [(.ref x)] rfl ?_
  refine own_callV C S0 (own_wd hw 238 rfl) (own_wd hw 75 rfl) (own_wd hw 77 rfl) (y' := ⟨"java/lang/String", "length", "()I"⟩) rfl (own_wd hw 77 rfl) (own_wd hw 76 rfl) (by decide) (Q := (fun v h' L => v = some (.int (Int32.ofNat (xcs).length)) ∧ L = [] ∧ h' = h0)) (StrChars.Road.lenW (W := 0) C.2.2.2.2.2.2.2 (fun d hd => hw d (own_hln d hd)) (kI := 4) (own_wd hw 7 rfl) xE xV xC xK xcd (own_up _ xhp) (O2.ext X00.2) P5 xl2 (by decide) (by decide)) (fun _ _ L q => by rw [q.2.1]; exact Fr.nil _) xE [] [] rfl own_pd4 rfl rfl rfl (Nat.le_of_ble_eq_true rfl) (by decide) (by decide) (by decide +kernel) ?_
  rintro T1070 h1071 v1072 L1073 S1074 ⟨rfl, -, e1069⟩
  replace S1074 : own_S p l e ({ frames := 4, cells := 0, slots := 0, locals := 53 } : Room) s m #[(.ref x)] below meth c n0 T1070 h1071 0 0 := S1074
  rw [e1069] at S1074; clear e1069
  rw [(own_cod xcd).1]
  show own_Go p e below _ T1070 (mkF m 4 #[.val (.ref x)] [(.int xN)])
  refine own_seg C S1074 [(4, .bipush 22, 2)] (by decide +kernel) 6 #[.val (.ref x)] [(.int (22 : Int32)), (.int xN)] rfl ?_
  refine own_icmp C S1074 (q := .lt) (o := 243) (by decide +kernel) 249 (by decide) (by decide) (fun (hq : xN < (22 : Int32)) => False.elim (hN2 hq)) (fun (q1075 : ¬ xN < (22 : Int32)) => ?_)
  refine own_seg C S1074 [(9, .aload_n 0, 1), (10, .iconst 0, 1)] (by decide +kernel) 11 #[.val (.ref x)] [(.int (0 : Int32)), (.ref x)] rfl ?_
  refine own_callV C S1074 (own_wd hw 242 rfl) (own_wd hw 243 rfl) (own_wd hw 245 rfl) (y' := ⟨"java/lang/String", "charAt", "(I)C"⟩) rfl (own_wd hw 245 rfl) (own_wd hw 244 rfl) (by decide) (Q := (fun v h' L => v = some (.int ((xcs).getD 0 0)) ∧ L = [] ∧ h' = h0)) (StrChars.Road.chN (W := 0) C.2.2.2.2.2.2.2 (fun d hd => hw d (own_hch d hd)) (kI := 4) (own_wd hw 7 rfl) xE xV xC xK xcd (own_up _ xhp) (O2.ext X00.2) P5 (O4.ext X00.2) rG3 xl2 (i := 0) (Nat.lt_of_lt_of_le (by decide) hl) rfl (by decide) (by decide)) (fun _ _ L q => by rw [q.2.1]; exact Fr.nil _) xE [(.int (0 : Int32))] [] rfl own_pd24 rfl rfl rfl (Nat.le_of_ble_eq_true rfl) (by decide) (by decide) (by decide +kernel) ?_
  rintro T1077 h1078 v1079 L1080 S1081 ⟨rfl, -, e1076⟩
  replace S1081 : own_S p l e ({ frames := 4, cells := 0, slots := 0, locals := 53 } : Room) s m #[(.ref x)] below meth c n0 T1077 h1078 0 0 := S1081
  rw [e1076] at S1081; clear e1076
  show own_Go p e below _ T1077 (mkF m 14 #[.val (.ref x)] [(.int ((xcs).getD 0 0))])
  refine own_seg C S1081 [(14, .bipush 110, 2)] (by decide +kernel) 16 #[.val (.ref x)] [(.int (110 : Int32)), (.int ((xcs).getD 0 0))] rfl ?_
  refine own_icmp C S1081 (q := .ne) (o := 233) (by decide +kernel) 249 (by decide) (by decide) (fun (hq : ¬ ((xcs).getD 0 0) = (110 : Int32)) => False.elim (hq g0)) (fun (q1082 : ((xcs).getD 0 0) = (110 : Int32)) => ?_)
  refine own_seg C S1081 [(19, .aload_n 0, 1), (20, .iconst 1, 1)] (by decide +kernel) 21 #[.val (.ref x)] [(.int (1 : Int32)), (.ref x)] rfl ?_
  refine own_callV C S1081 (own_wd hw 242 rfl) (own_wd hw 243 rfl) (own_wd hw 245 rfl) (y' := ⟨"java/lang/String", "charAt", "(I)C"⟩) rfl (own_wd hw 245 rfl) (own_wd hw 244 rfl) (by decide) (Q := (fun v h' L => v = some (.int ((xcs).getD 1 0)) ∧ L = [] ∧ h' = h0)) (StrChars.Road.chN (W := 0) C.2.2.2.2.2.2.2 (fun d hd => hw d (own_hch d hd)) (kI := 4) (own_wd hw 7 rfl) xE xV xC xK xcd (own_up _ xhp) (O2.ext X00.2) P5 (O4.ext X00.2) rG3 xl2 (i := 1) (Nat.lt_of_lt_of_le (by decide) hl) rfl (by decide) (by decide)) (fun _ _ L q => by rw [q.2.1]; exact Fr.nil _) xE [(.int (1 : Int32))] [] rfl own_pd24 rfl rfl rfl (Nat.le_of_ble_eq_true rfl) (by decide) (by decide) (by decide +kernel) ?_
  rintro T1084 h1085 v1086 L1087 S1088 ⟨rfl, -, e1083⟩
  replace S1088 : own_S p l e ({ frames := 4, cells := 0, slots := 0, locals := 53 } : Room) s m #[(.ref x)] below meth c n0 T1084 h1085 0 0 := S1088
  rw [e1083] at S1088; clear e1083
  show own_Go p e below _ T1084 (mkF m 24 #[.val (.ref x)] [(.int ((xcs).getD 1 0))])
  refine own_seg C S1088 [(24, .bipush 101, 2)] (by decide +kernel) 26 #[.val (.ref x)] [(.int (101 : Int32)), (.int ((xcs).getD 1 0))] rfl ?_
  refine own_icmp C S1088 (q := .ne) (o := 223) (by decide +kernel) 249 (by decide) (by decide) (fun (hq : ¬ ((xcs).getD 1 0) = (101 : Int32)) => False.elim (hq g1)) (fun (q1089 : ((xcs).getD 1 0) = (101 : Int32)) => ?_)
  refine own_seg C S1088 [(29, .aload_n 0, 1), (30, .iconst 2, 1)] (by decide +kernel) 31 #[.val (.ref x)] [(.int (2 : Int32)), (.ref x)] rfl ?_
  refine own_callV C S1088 (own_wd hw 242 rfl) (own_wd hw 243 rfl) (own_wd hw 245 rfl) (y' := ⟨"java/lang/String", "charAt", "(I)C"⟩) rfl (own_wd hw 245 rfl) (own_wd hw 244 rfl) (by decide) (Q := (fun v h' L => v = some (.int ((xcs).getD 2 0)) ∧ L = [] ∧ h' = h0)) (StrChars.Road.chN (W := 0) C.2.2.2.2.2.2.2 (fun d hd => hw d (own_hch d hd)) (kI := 4) (own_wd hw 7 rfl) xE xV xC xK xcd (own_up _ xhp) (O2.ext X00.2) P5 (O4.ext X00.2) rG3 xl2 (i := 2) (Nat.lt_of_lt_of_le (by decide) hl) rfl (by decide) (by decide)) (fun _ _ L q => by rw [q.2.1]; exact Fr.nil _) xE [(.int (2 : Int32))] [] rfl own_pd24 rfl rfl rfl (Nat.le_of_ble_eq_true rfl) (by decide) (by decide) (by decide +kernel) ?_
  rintro T1091 h1092 v1093 L1094 S1095 ⟨rfl, -, e1090⟩
  replace S1095 : own_S p l e ({ frames := 4, cells := 0, slots := 0, locals := 53 } : Room) s m #[(.ref x)] below meth c n0 T1091 h1092 0 0 := S1095
  rw [e1090] at S1095; clear e1090
  show own_Go p e below _ T1091 (mkF m 34 #[.val (.ref x)] [(.int ((xcs).getD 2 0))])
  refine own_seg C S1095 [(34, .bipush 97, 2)] (by decide +kernel) 36 #[.val (.ref x)] [(.int (97 : Int32)), (.int ((xcs).getD 2 0))] rfl ?_
  refine own_icmp C S1095 (q := .ne) (o := 213) (by decide +kernel) 249 (by decide) (by decide) (fun (hq : ¬ ((xcs).getD 2 0) = (97 : Int32)) => False.elim (hq g2)) (fun (q1096 : ((xcs).getD 2 0) = (97 : Int32)) => ?_)
  refine own_seg C S1095 [(39, .aload_n 0, 1), (40, .iconst 3, 1)] (by decide +kernel) 41 #[.val (.ref x)] [(.int (3 : Int32)), (.ref x)] rfl ?_
  refine own_callV C S1095 (own_wd hw 242 rfl) (own_wd hw 243 rfl) (own_wd hw 245 rfl) (y' := ⟨"java/lang/String", "charAt", "(I)C"⟩) rfl (own_wd hw 245 rfl) (own_wd hw 244 rfl) (by decide) (Q := (fun v h' L => v = some (.int ((xcs).getD 3 0)) ∧ L = [] ∧ h' = h0)) (StrChars.Road.chN (W := 0) C.2.2.2.2.2.2.2 (fun d hd => hw d (own_hch d hd)) (kI := 4) (own_wd hw 7 rfl) xE xV xC xK xcd (own_up _ xhp) (O2.ext X00.2) P5 (O4.ext X00.2) rG3 xl2 (i := 3) (Nat.lt_of_lt_of_le (by decide) hl) rfl (by decide) (by decide)) (fun _ _ L q => by rw [q.2.1]; exact Fr.nil _) xE [(.int (3 : Int32))] [] rfl own_pd24 rfl rfl rfl (Nat.le_of_ble_eq_true rfl) (by decide) (by decide) (by decide +kernel) ?_
  rintro T1098 h1099 v1100 L1101 S1102 ⟨rfl, -, e1097⟩
  replace S1102 : own_S p l e ({ frames := 4, cells := 0, slots := 0, locals := 53 } : Room) s m #[(.ref x)] below meth c n0 T1098 h1099 0 0 := S1102
  rw [e1097] at S1102; clear e1097
  show own_Go p e below _ T1098 (mkF m 44 #[.val (.ref x)] [(.int ((xcs).getD 3 0))])
  refine own_seg C S1102 [(44, .bipush 114, 2)] (by decide +kernel) 46 #[.val (.ref x)] [(.int (114 : Int32)), (.int ((xcs).getD 3 0))] rfl ?_
  refine own_icmp C S1102 (q := .ne) (o := 203) (by decide +kernel) 249 (by decide) (by decide) (fun (hq : ¬ ((xcs).getD 3 0) = (114 : Int32)) => False.elim (hq g3)) (fun (q1103 : ((xcs).getD 3 0) = (114 : Int32)) => ?_)
  refine own_seg C S1102 [(49, .aload_n 0, 1), (50, .iconst 4, 1)] (by decide +kernel) 51 #[.val (.ref x)] [(.int (4 : Int32)), (.ref x)] rfl ?_
  refine own_callV C S1102 (own_wd hw 242 rfl) (own_wd hw 243 rfl) (own_wd hw 245 rfl) (y' := ⟨"java/lang/String", "charAt", "(I)C"⟩) rfl (own_wd hw 245 rfl) (own_wd hw 244 rfl) (by decide) (Q := (fun v h' L => v = some (.int ((xcs).getD 4 0)) ∧ L = [] ∧ h' = h0)) (StrChars.Road.chN (W := 0) C.2.2.2.2.2.2.2 (fun d hd => hw d (own_hch d hd)) (kI := 4) (own_wd hw 7 rfl) xE xV xC xK xcd (own_up _ xhp) (O2.ext X00.2) P5 (O4.ext X00.2) rG3 xl2 (i := 4) (Nat.lt_of_lt_of_le (by decide) hl) rfl (by decide) (by decide)) (fun _ _ L q => by rw [q.2.1]; exact Fr.nil _) xE [(.int (4 : Int32))] [] rfl own_pd24 rfl rfl rfl (Nat.le_of_ble_eq_true rfl) (by decide) (by decide) (by decide +kernel) ?_
  rintro T1105 h1106 v1107 L1108 S1109 ⟨rfl, -, e1104⟩
  replace S1109 : own_S p l e ({ frames := 4, cells := 0, slots := 0, locals := 53 } : Room) s m #[(.ref x)] below meth c n0 T1105 h1106 0 0 := S1109
  rw [e1104] at S1109; clear e1104
  show own_Go p e below _ T1105 (mkF m 54 #[.val (.ref x)] [(.int ((xcs).getD 4 0))])
  refine own_seg C S1109 [(54, .bipush 102, 2)] (by decide +kernel) 56 #[.val (.ref x)] [(.int (102 : Int32)), (.int ((xcs).getD 4 0))] rfl ?_
  refine own_icmp C S1109 (q := .ne) (o := 193) (by decide +kernel) 249 (by decide) (by decide) (fun (hq : ¬ ((xcs).getD 4 0) = (102 : Int32)) => False.elim (hq g4)) (fun (q1110 : ((xcs).getD 4 0) = (102 : Int32)) => ?_)
  refine own_seg C S1109 [(59, .aload_n 0, 1), (60, .iconst 5, 1)] (by decide +kernel) 61 #[.val (.ref x)] [(.int (5 : Int32)), (.ref x)] rfl ?_
  refine own_callV C S1109 (own_wd hw 242 rfl) (own_wd hw 243 rfl) (own_wd hw 245 rfl) (y' := ⟨"java/lang/String", "charAt", "(I)C"⟩) rfl (own_wd hw 245 rfl) (own_wd hw 244 rfl) (by decide) (Q := (fun v h' L => v = some (.int ((xcs).getD 5 0)) ∧ L = [] ∧ h' = h0)) (StrChars.Road.chN (W := 0) C.2.2.2.2.2.2.2 (fun d hd => hw d (own_hch d hd)) (kI := 4) (own_wd hw 7 rfl) xE xV xC xK xcd (own_up _ xhp) (O2.ext X00.2) P5 (O4.ext X00.2) rG3 xl2 (i := 5) (Nat.lt_of_lt_of_le (by decide) hl) rfl (by decide) (by decide)) (fun _ _ L q => by rw [q.2.1]; exact Fr.nil _) xE [(.int (5 : Int32))] [] rfl own_pd24 rfl rfl rfl (Nat.le_of_ble_eq_true rfl) (by decide) (by decide) (by decide +kernel) ?_
  rintro T1112 h1113 v1114 L1115 S1116 ⟨rfl, -, e1111⟩
  replace S1116 : own_S p l e ({ frames := 4, cells := 0, slots := 0, locals := 53 } : Room) s m #[(.ref x)] below meth c n0 T1112 h1113 0 0 := S1116
  rw [e1111] at S1116; clear e1111
  show own_Go p e below _ T1112 (mkF m 64 #[.val (.ref x)] [(.int ((xcs).getD 5 0))])
  refine own_seg C S1116 [(64, .bipush 97, 2)] (by decide +kernel) 66 #[.val (.ref x)] [(.int (97 : Int32)), (.int ((xcs).getD 5 0))] rfl ?_
  refine own_icmp C S1116 (q := .ne) (o := 183) (by decide +kernel) 249 (by decide) (by decide) (fun (hq : ¬ ((xcs).getD 5 0) = (97 : Int32)) => False.elim (hq g5)) (fun (q1117 : ((xcs).getD 5 0) = (97 : Int32)) => ?_)
  refine own_seg C S1116 [(69, .aload_n 0, 1), (70, .bipush 6, 2)] (by decide +kernel) 72 #[.val (.ref x)] [(.int (6 : Int32)), (.ref x)] rfl ?_
  refine own_callV C S1116 (own_wd hw 242 rfl) (own_wd hw 243 rfl) (own_wd hw 245 rfl) (y' := ⟨"java/lang/String", "charAt", "(I)C"⟩) rfl (own_wd hw 245 rfl) (own_wd hw 244 rfl) (by decide) (Q := (fun v h' L => v = some (.int ((xcs).getD 6 0)) ∧ L = [] ∧ h' = h0)) (StrChars.Road.chN (W := 0) C.2.2.2.2.2.2.2 (fun d hd => hw d (own_hch d hd)) (kI := 4) (own_wd hw 7 rfl) xE xV xC xK xcd (own_up _ xhp) (O2.ext X00.2) P5 (O4.ext X00.2) rG3 xl2 (i := 6) (Nat.lt_of_lt_of_le (by decide) hl) rfl (by decide) (by decide)) (fun _ _ L q => by rw [q.2.1]; exact Fr.nil _) xE [(.int (6 : Int32))] [] rfl own_pd24 rfl rfl rfl (Nat.le_of_ble_eq_true rfl) (by decide) (by decide) (by decide +kernel) ?_
  rintro T1119 h1120 v1121 L1122 S1123 ⟨rfl, -, e1118⟩
  replace S1123 : own_S p l e ({ frames := 4, cells := 0, slots := 0, locals := 53 } : Room) s m #[(.ref x)] below meth c n0 T1119 h1120 0 0 := S1123
  rw [e1118] at S1123; clear e1118
  show own_Go p e below _ T1119 (mkF m 75 #[.val (.ref x)] [(.int ((xcs).getD 6 0))])
  refine own_seg C S1123 [(75, .bipush 114, 2)] (by decide +kernel) 77 #[.val (.ref x)] [(.int (114 : Int32)), (.int ((xcs).getD 6 0))] rfl ?_
  refine own_icmp C S1123 (q := .ne) (o := 172) (by decide +kernel) 249 (by decide) (by decide) (fun (hq : ¬ ((xcs).getD 6 0) = (114 : Int32)) => False.elim (hq g6)) (fun (q1124 : ((xcs).getD 6 0) = (114 : Int32)) => ?_)
  refine own_seg C S1123 [(80, .aload_n 0, 1), (81, .bipush 7, 2)] (by decide +kernel) 83 #[.val (.ref x)] [(.int (7 : Int32)), (.ref x)] rfl ?_
  refine own_callV C S1123 (own_wd hw 242 rfl) (own_wd hw 243 rfl) (own_wd hw 245 rfl) (y' := ⟨"java/lang/String", "charAt", "(I)C"⟩) rfl (own_wd hw 245 rfl) (own_wd hw 244 rfl) (by decide) (Q := (fun v h' L => v = some (.int ((xcs).getD 7 0)) ∧ L = [] ∧ h' = h0)) (StrChars.Road.chN (W := 0) C.2.2.2.2.2.2.2 (fun d hd => hw d (own_hch d hd)) (kI := 4) (own_wd hw 7 rfl) xE xV xC xK xcd (own_up _ xhp) (O2.ext X00.2) P5 (O4.ext X00.2) rG3 xl2 (i := 7) (Nat.lt_of_lt_of_le (by decide) hl) rfl (by decide) (by decide)) (fun _ _ L q => by rw [q.2.1]; exact Fr.nil _) xE [(.int (7 : Int32))] [] rfl own_pd24 rfl rfl rfl (Nat.le_of_ble_eq_true rfl) (by decide) (by decide) (by decide +kernel) ?_
  rintro T1126 h1127 v1128 L1129 S1130 ⟨rfl, -, e1125⟩
  replace S1130 : own_S p l e ({ frames := 4, cells := 0, slots := 0, locals := 53 } : Room) s m #[(.ref x)] below meth c n0 T1126 h1127 0 0 := S1130
  rw [e1125] at S1130; clear e1125
  show own_Go p e below _ T1126 (mkF m 86 #[.val (.ref x)] [(.int ((xcs).getD 7 0))])
  refine own_seg C S1130 [(86, .bipush 58, 2)] (by decide +kernel) 88 #[.val (.ref x)] [(.int (58 : Int32)), (.int ((xcs).getD 7 0))] rfl ?_
  refine own_icmp C S1130 (q := .ne) (o := 161) (by decide +kernel) 249 (by decide) (by decide) (fun (hq : ¬ ((xcs).getD 7 0) = (58 : Int32)) => False.elim (hq g7)) (fun (q1131 : ((xcs).getD 7 0) = (58 : Int32)) => ?_)
  refine own_seg C S1130 [(91, .aload_n 0, 1), (92, .bipush 8, 2)] (by decide +kernel) 94 #[.val (.ref x)] [(.int (8 : Int32)), (.ref x)] rfl ?_
  refine own_callV C S1130 (own_wd hw 242 rfl) (own_wd hw 243 rfl) (own_wd hw 245 rfl) (y' := ⟨"java/lang/String", "charAt", "(I)C"⟩) rfl (own_wd hw 245 rfl) (own_wd hw 244 rfl) (by decide) (Q := (fun v h' L => v = some (.int ((xcs).getD 8 0)) ∧ L = [] ∧ h' = h0)) (StrChars.Road.chN (W := 0) C.2.2.2.2.2.2.2 (fun d hd => hw d (own_hch d hd)) (kI := 4) (own_wd hw 7 rfl) xE xV xC xK xcd (own_up _ xhp) (O2.ext X00.2) P5 (O4.ext X00.2) rG3 xl2 (i := 8) (Nat.lt_of_lt_of_le (by decide) hl) rfl (by decide) (by decide)) (fun _ _ L q => by rw [q.2.1]; exact Fr.nil _) xE [(.int (8 : Int32))] [] rfl own_pd24 rfl rfl rfl (Nat.le_of_ble_eq_true rfl) (by decide) (by decide) (by decide +kernel) ?_
  rintro T1133 h1134 v1135 L1136 S1137 ⟨rfl, -, e1132⟩
  replace S1137 : own_S p l e ({ frames := 4, cells := 0, slots := 0, locals := 53 } : Room) s m #[(.ref x)] below meth c n0 T1133 h1134 0 0 := S1137
  rw [e1132] at S1137; clear e1132
  show own_Go p e below _ T1133 (mkF m 97 #[.val (.ref x)] [(.int ((xcs).getD 8 0))])
  refine own_seg C S1137 [(97, .bipush 105, 2)] (by decide +kernel) 99 #[.val (.ref x)] [(.int (105 : Int32)), (.int ((xcs).getD 8 0))] rfl ?_
  refine own_icmp C S1137 (q := .ne) (o := 150) (by decide +kernel) 249 (by decide) (by decide) (fun (hq : ¬ ((xcs).getD 8 0) = (105 : Int32)) => False.elim (hq g8)) (fun (q1138 : ((xcs).getD 8 0) = (105 : Int32)) => ?_)
  refine own_seg C S1137 [(102, .aload_n 0, 1), (103, .bipush 9, 2)] (by decide +kernel) 105 #[.val (.ref x)] [(.int (9 : Int32)), (.ref x)] rfl ?_
  refine own_callV C S1137 (own_wd hw 242 rfl) (own_wd hw 243 rfl) (own_wd hw 245 rfl) (y' := ⟨"java/lang/String", "charAt", "(I)C"⟩) rfl (own_wd hw 245 rfl) (own_wd hw 244 rfl) (by decide) (Q := (fun v h' L => v = some (.int ((xcs).getD 9 0)) ∧ L = [] ∧ h' = h0)) (StrChars.Road.chN (W := 0) C.2.2.2.2.2.2.2 (fun d hd => hw d (own_hch d hd)) (kI := 4) (own_wd hw 7 rfl) xE xV xC xK xcd (own_up _ xhp) (O2.ext X00.2) P5 (O4.ext X00.2) rG3 xl2 (i := 9) (Nat.lt_of_lt_of_le (by decide) hl) rfl (by decide) (by decide)) (fun _ _ L q => by rw [q.2.1]; exact Fr.nil _) xE [(.int (9 : Int32))] [] rfl own_pd24 rfl rfl rfl (Nat.le_of_ble_eq_true rfl) (by decide) (by decide) (by decide +kernel) ?_
  rintro T1140 h1141 v1142 L1143 S1144 ⟨rfl, -, e1139⟩
  replace S1144 : own_S p l e ({ frames := 4, cells := 0, slots := 0, locals := 53 } : Room) s m #[(.ref x)] below meth c n0 T1140 h1141 0 0 := S1144
  rw [e1139] at S1144; clear e1139
  show own_Go p e below _ T1140 (mkF m 108 #[.val (.ref x)] [(.int ((xcs).getD 9 0))])
  refine own_seg C S1144 [(108, .bipush 110, 2)] (by decide +kernel) 110 #[.val (.ref x)] [(.int (110 : Int32)), (.int ((xcs).getD 9 0))] rfl ?_
  refine own_icmp C S1144 (q := .ne) (o := 139) (by decide +kernel) 249 (by decide) (by decide) (fun (hq : ¬ ((xcs).getD 9 0) = (110 : Int32)) => False.elim (hq g9)) (fun (q1145 : ((xcs).getD 9 0) = (110 : Int32)) => ?_)
  refine own_seg C S1144 [(113, .aload_n 0, 1), (114, .bipush 10, 2)] (by decide +kernel) 116 #[.val (.ref x)] [(.int (10 : Int32)), (.ref x)] rfl ?_
  refine own_callV C S1144 (own_wd hw 242 rfl) (own_wd hw 243 rfl) (own_wd hw 245 rfl) (y' := ⟨"java/lang/String", "charAt", "(I)C"⟩) rfl (own_wd hw 245 rfl) (own_wd hw 244 rfl) (by decide) (Q := (fun v h' L => v = some (.int ((xcs).getD 10 0)) ∧ L = [] ∧ h' = h0)) (StrChars.Road.chN (W := 0) C.2.2.2.2.2.2.2 (fun d hd => hw d (own_hch d hd)) (kI := 4) (own_wd hw 7 rfl) xE xV xC xK xcd (own_up _ xhp) (O2.ext X00.2) P5 (O4.ext X00.2) rG3 xl2 (i := 10) (Nat.lt_of_lt_of_le (by decide) hl) rfl (by decide) (by decide)) (fun _ _ L q => by rw [q.2.1]; exact Fr.nil _) xE [(.int (10 : Int32))] [] rfl own_pd24 rfl rfl rfl (Nat.le_of_ble_eq_true rfl) (by decide) (by decide) (by decide +kernel) ?_
  rintro T1147 h1148 v1149 L1150 S1151 ⟨rfl, -, e1146⟩
  replace S1151 : own_S p l e ({ frames := 4, cells := 0, slots := 0, locals := 53 } : Room) s m #[(.ref x)] below meth c n0 T1147 h1148 0 0 := S1151
  rw [e1146] at S1151; clear e1146
  show own_Go p e below _ T1147 (mkF m 119 #[.val (.ref x)] [(.int ((xcs).getD 10 0))])
  refine own_seg C S1151 [(119, .bipush 118, 2)] (by decide +kernel) 121 #[.val (.ref x)] [(.int (118 : Int32)), (.int ((xcs).getD 10 0))] rfl ?_
  refine own_icmp C S1151 (q := .ne) (o := 128) (by decide +kernel) 249 (by decide) (by decide) (fun (hq : ¬ ((xcs).getD 10 0) = (118 : Int32)) => False.elim (hq g10)) (fun (q1152 : ((xcs).getD 10 0) = (118 : Int32)) => ?_)
  refine own_seg C S1151 [(124, .aload_n 0, 1), (125, .bipush 11, 2)] (by decide +kernel) 127 #[.val (.ref x)] [(.int (11 : Int32)), (.ref x)] rfl ?_
  refine own_callV C S1151 (own_wd hw 242 rfl) (own_wd hw 243 rfl) (own_wd hw 245 rfl) (y' := ⟨"java/lang/String", "charAt", "(I)C"⟩) rfl (own_wd hw 245 rfl) (own_wd hw 244 rfl) (by decide) (Q := (fun v h' L => v = some (.int ((xcs).getD 11 0)) ∧ L = [] ∧ h' = h0)) (StrChars.Road.chN (W := 0) C.2.2.2.2.2.2.2 (fun d hd => hw d (own_hch d hd)) (kI := 4) (own_wd hw 7 rfl) xE xV xC xK xcd (own_up _ xhp) (O2.ext X00.2) P5 (O4.ext X00.2) rG3 xl2 (i := 11) (Nat.lt_of_lt_of_le (by decide) hl) rfl (by decide) (by decide)) (fun _ _ L q => by rw [q.2.1]; exact Fr.nil _) xE [(.int (11 : Int32))] [] rfl own_pd24 rfl rfl rfl (Nat.le_of_ble_eq_true rfl) (by decide) (by decide) (by decide +kernel) ?_
  rintro T1154 h1155 v1156 L1157 S1158 ⟨rfl, -, e1153⟩
  replace S1158 : own_S p l e ({ frames := 4, cells := 0, slots := 0, locals := 53 } : Room) s m #[(.ref x)] below meth c n0 T1154 h1155 0 0 := S1158
  rw [e1153] at S1158; clear e1153
  show own_Go p e below _ T1154 (mkF m 130 #[.val (.ref x)] [(.int ((xcs).getD 11 0))])
  refine own_seg C S1158 [(130, .bipush 97, 2)] (by decide +kernel) 132 #[.val (.ref x)] [(.int (97 : Int32)), (.int ((xcs).getD 11 0))] rfl ?_
  refine own_icmp C S1158 (q := .ne) (o := 117) (by decide +kernel) 249 (by decide) (by decide) (fun (hq : ¬ ((xcs).getD 11 0) = (97 : Int32)) => False.elim (hq g11)) (fun (q1159 : ((xcs).getD 11 0) = (97 : Int32)) => ?_)
  refine own_seg C S1158 [(135, .aload_n 0, 1), (136, .bipush 12, 2)] (by decide +kernel) 138 #[.val (.ref x)] [(.int (12 : Int32)), (.ref x)] rfl ?_
  refine own_callV C S1158 (own_wd hw 242 rfl) (own_wd hw 243 rfl) (own_wd hw 245 rfl) (y' := ⟨"java/lang/String", "charAt", "(I)C"⟩) rfl (own_wd hw 245 rfl) (own_wd hw 244 rfl) (by decide) (Q := (fun v h' L => v = some (.int ((xcs).getD 12 0)) ∧ L = [] ∧ h' = h0)) (StrChars.Road.chN (W := 0) C.2.2.2.2.2.2.2 (fun d hd => hw d (own_hch d hd)) (kI := 4) (own_wd hw 7 rfl) xE xV xC xK xcd (own_up _ xhp) (O2.ext X00.2) P5 (O4.ext X00.2) rG3 xl2 (i := 12) (Nat.lt_of_lt_of_le (by decide) hl) rfl (by decide) (by decide)) (fun _ _ L q => by rw [q.2.1]; exact Fr.nil _) xE [(.int (12 : Int32))] [] rfl own_pd24 rfl rfl rfl (Nat.le_of_ble_eq_true rfl) (by decide) (by decide) (by decide +kernel) ?_
  rintro T1161 h1162 v1163 L1164 S1165 ⟨rfl, -, e1160⟩
  replace S1165 : own_S p l e ({ frames := 4, cells := 0, slots := 0, locals := 53 } : Room) s m #[(.ref x)] below meth c n0 T1161 h1162 0 0 := S1165
  rw [e1160] at S1165; clear e1160
  show own_Go p e below _ T1161 (mkF m 141 #[.val (.ref x)] [(.int ((xcs).getD 12 0))])
  refine own_seg C S1165 [(141, .bipush 108, 2)] (by decide +kernel) 143 #[.val (.ref x)] [(.int (108 : Int32)), (.int ((xcs).getD 12 0))] rfl ?_
  refine own_icmp C S1165 (q := .ne) (o := 106) (by decide +kernel) 249 (by decide) (by decide) (fun (hq : ¬ ((xcs).getD 12 0) = (108 : Int32)) => False.elim (hq g12)) (fun (q1166 : ((xcs).getD 12 0) = (108 : Int32)) => ?_)
  refine own_seg C S1165 [(146, .aload_n 0, 1), (147, .bipush 13, 2)] (by decide +kernel) 149 #[.val (.ref x)] [(.int (13 : Int32)), (.ref x)] rfl ?_
  refine own_callV C S1165 (own_wd hw 242 rfl) (own_wd hw 243 rfl) (own_wd hw 245 rfl) (y' := ⟨"java/lang/String", "charAt", "(I)C"⟩) rfl (own_wd hw 245 rfl) (own_wd hw 244 rfl) (by decide) (Q := (fun v h' L => v = some (.int ((xcs).getD 13 0)) ∧ L = [] ∧ h' = h0)) (StrChars.Road.chN (W := 0) C.2.2.2.2.2.2.2 (fun d hd => hw d (own_hch d hd)) (kI := 4) (own_wd hw 7 rfl) xE xV xC xK xcd (own_up _ xhp) (O2.ext X00.2) P5 (O4.ext X00.2) rG3 xl2 (i := 13) (Nat.lt_of_lt_of_le (by decide) hl) rfl (by decide) (by decide)) (fun _ _ L q => by rw [q.2.1]; exact Fr.nil _) xE [(.int (13 : Int32))] [] rfl own_pd24 rfl rfl rfl (Nat.le_of_ble_eq_true rfl) (by decide) (by decide) (by decide +kernel) ?_
  rintro T1168 h1169 v1170 L1171 S1172 ⟨rfl, -, e1167⟩
  replace S1172 : own_S p l e ({ frames := 4, cells := 0, slots := 0, locals := 53 } : Room) s m #[(.ref x)] below meth c n0 T1168 h1169 0 0 := S1172
  rw [e1167] at S1172; clear e1167
  show own_Go p e below _ T1168 (mkF m 152 #[.val (.ref x)] [(.int ((xcs).getD 13 0))])
  refine own_seg C S1172 [(152, .bipush 105, 2)] (by decide +kernel) 154 #[.val (.ref x)] [(.int (105 : Int32)), (.int ((xcs).getD 13 0))] rfl ?_
  refine own_icmp C S1172 (q := .ne) (o := 95) (by decide +kernel) 249 (by decide) (by decide) (fun (hq : ¬ ((xcs).getD 13 0) = (105 : Int32)) => False.elim (hq g13)) (fun (q1173 : ((xcs).getD 13 0) = (105 : Int32)) => ?_)
  refine own_seg C S1172 [(157, .aload_n 0, 1), (158, .bipush 14, 2)] (by decide +kernel) 160 #[.val (.ref x)] [(.int (14 : Int32)), (.ref x)] rfl ?_
  refine own_callV C S1172 (own_wd hw 242 rfl) (own_wd hw 243 rfl) (own_wd hw 245 rfl) (y' := ⟨"java/lang/String", "charAt", "(I)C"⟩) rfl (own_wd hw 245 rfl) (own_wd hw 244 rfl) (by decide) (Q := (fun v h' L => v = some (.int ((xcs).getD 14 0)) ∧ L = [] ∧ h' = h0)) (StrChars.Road.chN (W := 0) C.2.2.2.2.2.2.2 (fun d hd => hw d (own_hch d hd)) (kI := 4) (own_wd hw 7 rfl) xE xV xC xK xcd (own_up _ xhp) (O2.ext X00.2) P5 (O4.ext X00.2) rG3 xl2 (i := 14) (Nat.lt_of_lt_of_le (by decide) hl) rfl (by decide) (by decide)) (fun _ _ L q => by rw [q.2.1]; exact Fr.nil _) xE [(.int (14 : Int32))] [] rfl own_pd24 rfl rfl rfl (Nat.le_of_ble_eq_true rfl) (by decide) (by decide) (by decide +kernel) ?_
  rintro T1175 h1176 v1177 L1178 S1179 ⟨rfl, -, e1174⟩
  replace S1179 : own_S p l e ({ frames := 4, cells := 0, slots := 0, locals := 53 } : Room) s m #[(.ref x)] below meth c n0 T1175 h1176 0 0 := S1179
  rw [e1174] at S1179; clear e1174
  show own_Go p e below _ T1175 (mkF m 163 #[.val (.ref x)] [(.int ((xcs).getD 14 0))])
  refine own_seg C S1179 [(163, .bipush 100, 2)] (by decide +kernel) 165 #[.val (.ref x)] [(.int (100 : Int32)), (.int ((xcs).getD 14 0))] rfl ?_
  refine own_icmp C S1179 (q := .ne) (o := 84) (by decide +kernel) 249 (by decide) (by decide) (fun (hq : ¬ ((xcs).getD 14 0) = (100 : Int32)) => False.elim (hq g14)) (fun (q1180 : ((xcs).getD 14 0) = (100 : Int32)) => ?_)
  refine own_seg C S1179 [(168, .aload_n 0, 1), (169, .bipush 15, 2)] (by decide +kernel) 171 #[.val (.ref x)] [(.int (15 : Int32)), (.ref x)] rfl ?_
  refine own_callV C S1179 (own_wd hw 242 rfl) (own_wd hw 243 rfl) (own_wd hw 245 rfl) (y' := ⟨"java/lang/String", "charAt", "(I)C"⟩) rfl (own_wd hw 245 rfl) (own_wd hw 244 rfl) (by decide) (Q := (fun v h' L => v = some (.int ((xcs).getD 15 0)) ∧ L = [] ∧ h' = h0)) (StrChars.Road.chN (W := 0) C.2.2.2.2.2.2.2 (fun d hd => hw d (own_hch d hd)) (kI := 4) (own_wd hw 7 rfl) xE xV xC xK xcd (own_up _ xhp) (O2.ext X00.2) P5 (O4.ext X00.2) rG3 xl2 (i := 15) (Nat.lt_of_lt_of_le (by decide) hl) rfl (by decide) (by decide)) (fun _ _ L q => by rw [q.2.1]; exact Fr.nil _) xE [(.int (15 : Int32))] [] rfl own_pd24 rfl rfl rfl (Nat.le_of_ble_eq_true rfl) (by decide) (by decide) (by decide +kernel) ?_
  rintro T1182 h1183 v1184 L1185 S1186 ⟨rfl, -, e1181⟩
  replace S1186 : own_S p l e ({ frames := 4, cells := 0, slots := 0, locals := 53 } : Room) s m #[(.ref x)] below meth c n0 T1182 h1183 0 0 := S1186
  rw [e1181] at S1186; clear e1181
  show own_Go p e below _ T1182 (mkF m 174 #[.val (.ref x)] [(.int ((xcs).getD 15 0))])
  refine own_seg C S1186 [(174, .bipush 97, 2)] (by decide +kernel) 176 #[.val (.ref x)] [(.int (97 : Int32)), (.int ((xcs).getD 15 0))] rfl ?_
  refine own_icmp C S1186 (q := .ne) (o := 73) (by decide +kernel) 249 (by decide) (by decide) (fun (hq : ¬ ((xcs).getD 15 0) = (97 : Int32)) => False.elim (hq g15)) (fun (q1187 : ((xcs).getD 15 0) = (97 : Int32)) => ?_)
  refine own_seg C S1186 [(179, .aload_n 0, 1), (180, .bipush 16, 2)] (by decide +kernel) 182 #[.val (.ref x)] [(.int (16 : Int32)), (.ref x)] rfl ?_
  refine own_callV C S1186 (own_wd hw 242 rfl) (own_wd hw 243 rfl) (own_wd hw 245 rfl) (y' := ⟨"java/lang/String", "charAt", "(I)C"⟩) rfl (own_wd hw 245 rfl) (own_wd hw 244 rfl) (by decide) (Q := (fun v h' L => v = some (.int ((xcs).getD 16 0)) ∧ L = [] ∧ h' = h0)) (StrChars.Road.chN (W := 0) C.2.2.2.2.2.2.2 (fun d hd => hw d (own_hch d hd)) (kI := 4) (own_wd hw 7 rfl) xE xV xC xK xcd (own_up _ xhp) (O2.ext X00.2) P5 (O4.ext X00.2) rG3 xl2 (i := 16) (Nat.lt_of_lt_of_le (by decide) hl) rfl (by decide) (by decide)) (fun _ _ L q => by rw [q.2.1]; exact Fr.nil _) xE [(.int (16 : Int32))] [] rfl own_pd24 rfl rfl rfl (Nat.le_of_ble_eq_true rfl) (by decide) (by decide) (by decide +kernel) ?_
  rintro T1189 h1190 v1191 L1192 S1193 ⟨rfl, -, e1188⟩
  replace S1193 : own_S p l e ({ frames := 4, cells := 0, slots := 0, locals := 53 } : Room) s m #[(.ref x)] below meth c n0 T1189 h1190 0 0 := S1193
  rw [e1188] at S1193; clear e1188
  show own_Go p e below _ T1189 (mkF m 185 #[.val (.ref x)] [(.int ((xcs).getD 16 0))])
  refine own_seg C S1193 [(185, .bipush 116, 2)] (by decide +kernel) 187 #[.val (.ref x)] [(.int (116 : Int32)), (.int ((xcs).getD 16 0))] rfl ?_
  refine own_icmp C S1193 (q := .ne) (o := 62) (by decide +kernel) 249 (by decide) (by decide) (fun (hq : ¬ ((xcs).getD 16 0) = (116 : Int32)) => False.elim (hq g16)) (fun (q1194 : ((xcs).getD 16 0) = (116 : Int32)) => ?_)
  refine own_seg C S1193 [(190, .aload_n 0, 1), (191, .bipush 17, 2)] (by decide +kernel) 193 #[.val (.ref x)] [(.int (17 : Int32)), (.ref x)] rfl ?_
  refine own_callV C S1193 (own_wd hw 242 rfl) (own_wd hw 243 rfl) (own_wd hw 245 rfl) (y' := ⟨"java/lang/String", "charAt", "(I)C"⟩) rfl (own_wd hw 245 rfl) (own_wd hw 244 rfl) (by decide) (Q := (fun v h' L => v = some (.int ((xcs).getD 17 0)) ∧ L = [] ∧ h' = h0)) (StrChars.Road.chN (W := 0) C.2.2.2.2.2.2.2 (fun d hd => hw d (own_hch d hd)) (kI := 4) (own_wd hw 7 rfl) xE xV xC xK xcd (own_up _ xhp) (O2.ext X00.2) P5 (O4.ext X00.2) rG3 xl2 (i := 17) (Nat.lt_of_lt_of_le (by decide) hl) rfl (by decide) (by decide)) (fun _ _ L q => by rw [q.2.1]; exact Fr.nil _) xE [(.int (17 : Int32))] [] rfl own_pd24 rfl rfl rfl (Nat.le_of_ble_eq_true rfl) (by decide) (by decide) (by decide +kernel) ?_
  rintro T1196 h1197 v1198 L1199 S1200 ⟨rfl, -, e1195⟩
  replace S1200 : own_S p l e ({ frames := 4, cells := 0, slots := 0, locals := 53 } : Room) s m #[(.ref x)] below meth c n0 T1196 h1197 0 0 := S1200
  rw [e1195] at S1200; clear e1195
  show own_Go p e below _ T1196 (mkF m 196 #[.val (.ref x)] [(.int ((xcs).getD 17 0))])
  refine own_seg C S1200 [(196, .bipush 105, 2)] (by decide +kernel) 198 #[.val (.ref x)] [(.int (105 : Int32)), (.int ((xcs).getD 17 0))] rfl ?_
  refine own_icmp C S1200 (q := .ne) (o := 51) (by decide +kernel) 249 (by decide) (by decide) (fun (hq : ¬ ((xcs).getD 17 0) = (105 : Int32)) => False.elim (hq g17)) (fun (q1201 : ((xcs).getD 17 0) = (105 : Int32)) => ?_)
  refine own_seg C S1200 [(201, .aload_n 0, 1), (202, .bipush 18, 2)] (by decide +kernel) 204 #[.val (.ref x)] [(.int (18 : Int32)), (.ref x)] rfl ?_
  refine own_callV C S1200 (own_wd hw 242 rfl) (own_wd hw 243 rfl) (own_wd hw 245 rfl) (y' := ⟨"java/lang/String", "charAt", "(I)C"⟩) rfl (own_wd hw 245 rfl) (own_wd hw 244 rfl) (by decide) (Q := (fun v h' L => v = some (.int ((xcs).getD 18 0)) ∧ L = [] ∧ h' = h0)) (StrChars.Road.chN (W := 0) C.2.2.2.2.2.2.2 (fun d hd => hw d (own_hch d hd)) (kI := 4) (own_wd hw 7 rfl) xE xV xC xK xcd (own_up _ xhp) (O2.ext X00.2) P5 (O4.ext X00.2) rG3 xl2 (i := 18) (Nat.lt_of_lt_of_le (by decide) hl) rfl (by decide) (by decide)) (fun _ _ L q => by rw [q.2.1]; exact Fr.nil _) xE [(.int (18 : Int32))] [] rfl own_pd24 rfl rfl rfl (Nat.le_of_ble_eq_true rfl) (by decide) (by decide) (by decide +kernel) ?_
  rintro T1203 h1204 v1205 L1206 S1207 ⟨rfl, -, e1202⟩
  replace S1207 : own_S p l e ({ frames := 4, cells := 0, slots := 0, locals := 53 } : Room) s m #[(.ref x)] below meth c n0 T1203 h1204 0 0 := S1207
  rw [e1202] at S1207; clear e1202
  show own_Go p e below _ T1203 (mkF m 207 #[.val (.ref x)] [(.int ((xcs).getD 18 0))])
  refine own_seg C S1207 [(207, .bipush 111, 2)] (by decide +kernel) 209 #[.val (.ref x)] [(.int (111 : Int32)), (.int ((xcs).getD 18 0))] rfl ?_
  refine own_icmp C S1207 (q := .ne) (o := 40) (by decide +kernel) 249 (by decide) (by decide) (fun (hq : ¬ ((xcs).getD 18 0) = (111 : Int32)) => False.elim (hq g18)) (fun (q1208 : ((xcs).getD 18 0) = (111 : Int32)) => ?_)
  refine own_seg C S1207 [(212, .aload_n 0, 1), (213, .bipush 19, 2)] (by decide +kernel) 215 #[.val (.ref x)] [(.int (19 : Int32)), (.ref x)] rfl ?_
  refine own_callV C S1207 (own_wd hw 242 rfl) (own_wd hw 243 rfl) (own_wd hw 245 rfl) (y' := ⟨"java/lang/String", "charAt", "(I)C"⟩) rfl (own_wd hw 245 rfl) (own_wd hw 244 rfl) (by decide) (Q := (fun v h' L => v = some (.int ((xcs).getD 19 0)) ∧ L = [] ∧ h' = h0)) (StrChars.Road.chN (W := 0) C.2.2.2.2.2.2.2 (fun d hd => hw d (own_hch d hd)) (kI := 4) (own_wd hw 7 rfl) xE xV xC xK xcd (own_up _ xhp) (O2.ext X00.2) P5 (O4.ext X00.2) rG3 xl2 (i := 19) (Nat.lt_of_lt_of_le (by decide) hl) rfl (by decide) (by decide)) (fun _ _ L q => by rw [q.2.1]; exact Fr.nil _) xE [(.int (19 : Int32))] [] rfl own_pd24 rfl rfl rfl (Nat.le_of_ble_eq_true rfl) (by decide) (by decide) (by decide +kernel) ?_
  rintro T1210 h1211 v1212 L1213 S1214 ⟨rfl, -, e1209⟩
  replace S1214 : own_S p l e ({ frames := 4, cells := 0, slots := 0, locals := 53 } : Room) s m #[(.ref x)] below meth c n0 T1210 h1211 0 0 := S1214
  rw [e1209] at S1214; clear e1209
  show own_Go p e below _ T1210 (mkF m 218 #[.val (.ref x)] [(.int ((xcs).getD 19 0))])
  refine own_seg C S1214 [(218, .bipush 110, 2)] (by decide +kernel) 220 #[.val (.ref x)] [(.int (110 : Int32)), (.int ((xcs).getD 19 0))] rfl ?_
  refine own_icmp C S1214 (q := .ne) (o := 29) (by decide +kernel) 249 (by decide) (by decide) (fun (hq : ¬ ((xcs).getD 19 0) = (110 : Int32)) => False.elim (hq g19)) (fun (q1215 : ((xcs).getD 19 0) = (110 : Int32)) => ?_)
  refine own_seg C S1214 [(223, .aload_n 0, 1), (224, .bipush 20, 2)] (by decide +kernel) 226 #[.val (.ref x)] [(.int (20 : Int32)), (.ref x)] rfl ?_
  refine own_callV C S1214 (own_wd hw 242 rfl) (own_wd hw 243 rfl) (own_wd hw 245 rfl) (y' := ⟨"java/lang/String", "charAt", "(I)C"⟩) rfl (own_wd hw 245 rfl) (own_wd hw 244 rfl) (by decide) (Q := (fun v h' L => v = some (.int ((xcs).getD 20 0)) ∧ L = [] ∧ h' = h0)) (StrChars.Road.chN (W := 0) C.2.2.2.2.2.2.2 (fun d hd => hw d (own_hch d hd)) (kI := 4) (own_wd hw 7 rfl) xE xV xC xK xcd (own_up _ xhp) (O2.ext X00.2) P5 (O4.ext X00.2) rG3 xl2 (i := 20) (Nat.lt_of_lt_of_le (by decide) hl) rfl (by decide) (by decide)) (fun _ _ L q => by rw [q.2.1]; exact Fr.nil _) xE [(.int (20 : Int32))] [] rfl own_pd24 rfl rfl rfl (Nat.le_of_ble_eq_true rfl) (by decide) (by decide) (by decide +kernel) ?_
  rintro T1217 h1218 v1219 L1220 S1221 ⟨rfl, -, e1216⟩
  replace S1221 : own_S p l e ({ frames := 4, cells := 0, slots := 0, locals := 53 } : Room) s m #[(.ref x)] below meth c n0 T1217 h1218 0 0 := S1221
  rw [e1216] at S1221; clear e1216
  show own_Go p e below _ T1217 (mkF m 229 #[.val (.ref x)] [(.int ((xcs).getD 20 0))])
  refine own_seg C S1221 [(229, .bipush 115, 2)] (by decide +kernel) 231 #[.val (.ref x)] [(.int (115 : Int32)), (.int ((xcs).getD 20 0))] rfl ?_
  refine own_icmp C S1221 (q := .ne) (o := 18) (by decide +kernel) 249 (by decide) (by decide) (fun (hq : ¬ ((xcs).getD 20 0) = (115 : Int32)) => False.elim (hq g20)) (fun (q1222 : ((xcs).getD 20 0) = (115 : Int32)) => ?_)
  refine own_seg C S1221 [(234, .aload_n 0, 1), (235, .bipush 21, 2)] (by decide +kernel) 237 #[.val (.ref x)] [(.int (21 : Int32)), (.ref x)] rfl ?_
  refine own_callV C S1221 (own_wd hw 242 rfl) (own_wd hw 243 rfl) (own_wd hw 245 rfl) (y' := ⟨"java/lang/String", "charAt", "(I)C"⟩) rfl (own_wd hw 245 rfl) (own_wd hw 244 rfl) (by decide) (Q := (fun v h' L => v = some (.int ((xcs).getD 21 0)) ∧ L = [] ∧ h' = h0)) (StrChars.Road.chN (W := 0) C.2.2.2.2.2.2.2 (fun d hd => hw d (own_hch d hd)) (kI := 4) (own_wd hw 7 rfl) xE xV xC xK xcd (own_up _ xhp) (O2.ext X00.2) P5 (O4.ext X00.2) rG3 xl2 (i := 21) (Nat.lt_of_lt_of_le (by decide) hl) rfl (by decide) (by decide)) (fun _ _ L q => by rw [q.2.1]; exact Fr.nil _) xE [(.int (21 : Int32))] [] rfl own_pd24 rfl rfl rfl (Nat.le_of_ble_eq_true rfl) (by decide) (by decide) (by decide +kernel) ?_
  rintro T1224 h1225 v1226 L1227 S1228 ⟨rfl, -, e1223⟩
  replace S1228 : own_S p l e ({ frames := 4, cells := 0, slots := 0, locals := 53 } : Room) s m #[(.ref x)] below meth c n0 T1224 h1225 0 0 := S1228
  rw [e1223] at S1228; clear e1223
  show own_Go p e below _ T1224 (mkF m 240 #[.val (.ref x)] [(.int ((xcs).getD 21 0))])
  refine own_seg C S1228 [(240, .bipush 58, 2)] (by decide +kernel) 242 #[.val (.ref x)] [(.int (58 : Int32)), (.int ((xcs).getD 21 0))] rfl ?_
  refine own_icmp C S1228 (q := .ne) (o := 7) (by decide +kernel) 249 (by decide) (by decide) (fun (hq : ¬ ((xcs).getD 21 0) = (58 : Int32)) => False.elim (hq g21)) (fun (q1229 : ((xcs).getD 21 0) = (58 : Int32)) => ?_)
  refine own_seg C S1228 [(245, .iconst 1, 1), (246, .goto 4, 3)] (by decide +kernel) 250 #[.val (.ref x)] [(.int (1 : Int32))] rfl ?_
  refine own_retZ C S1228 (by decide +kernel) (by decide) (by decide) (by decide) ?_
  exact ⟨rfl, rfl⟩
theorem own_hws : ∀ d ∈ StrChars.Road.words, d ∈ tables_1 := by decide +kernel
theorem own_pd25 : parseMethodDescriptor "([C)V" = some ⟨[(.array .char)], none⟩ := by decide +kernel
theorem own_pd26 : parseMethodDescriptor "(Lcom/example/nearfar_cache/nearfarcache/Namespace;)Ljava/lang/String;" = some ⟨[(.object "com/example/nearfar_cache/nearfarcache/Namespace")], (some (.object "java/lang/String"))⟩ := by decide +kernel
theorem own_pd27 : parseMethodDescriptor "(Ljava/lang/String;)Z" = some ⟨[(.object "java/lang/String")], (some .boolean)⟩ := by decide +kernel
set_option maxRecDepth 65536 in
set_option maxHeartbeats 40000000 in
theorem own_law (l : Launch) (Z : State) (a0 : Array Value) (hw : ∀ d ∈ tables_1, d.before a0 Z = true) (hEL : EW Z a0 own_EL) (wS : ∀ a ∈ Bundle.stringAtoms, a.before a0 Z = true) (G1 : Int32) (G3 : Value) (i0 : Int32) (i1 : Int32) (i2 : Int32) (i3 : Int32) (h0 : Heap) (n0 : Nat) (z0 : n0 ≤ h0.size) (X00 : Old Z n0 h0) (O2 : Sta Z Z.heap "java/lang/String" "COMPACT_STRINGS" "Z" (.int G1)) (O4 : Sta Z Z.heap "jdk/internal/util/Preconditions" "SIOOBE_FORMATTER" "Ljava/util/function/BiFunction;" G3) (P5 : ¬ G1 = (0 : Int32)) (rG3 : G3.isRef = true) :
    own_MetW l Z own_EL x code maxLocals ret room_1 n0 #[(.int i0), (.int i1), (.int i2), (.int i3)] h0 [] (fun v h => v = some (.int 1)) := by
  refine own_metW hEL wS (by decide +kernel) #[.val (.int i0), .val (.int i1), .val (.int i2), .val (.int i3), .unset, .unset, .unset, .unset, .unset, .unset, .unset, .unset] (fun m => by first | (simp [entryFrame, mkF, argsToLocals, Value.category, maxLocals]; done) | rfl) ?_
  intro p e s m below meth c T0 CW SW0
  refine own_lift CW SW0 ?_
  intro vm1230 C S1231 rb1232
  refine own_seg C S1231 [(0, .iconst 1, 1), (1, .iload_n 0, 1)] (by decide +kernel) 2 #[.val (.int i0), .val (.int i1), .val (.int i2), .val (.int i3), .unset, .unset, .unset, .unset, .unset, .unset, .unset, .unset] [(.int i0), (.int (1 : Int32))] rfl ?_
  refine own_ldc C S1231 (own_wd hw 0 rfl) (by decide +kernel) ?_
  refine own_seg C S1231 [(4, .iand, 1), (5, .iconst 3, 1)] (by decide +kernel) 6 #[.val (.int i0), .val (.int i1), .val (.int i2), .val (.int i3), .unset, .unset, .unset, .unset, .unset, .unset, .unset, .unset] [(.int (3 : Int32)), (.int (i0 &&& 2147483647)), (.int (1 : Int32))] rfl ?_
  refine own_irem C S1231 (by decide +kernel) (by decide) ?_
  refine own_seg C S1231 [(7, .iadd, 1), (8, .istore 4, 2)] (by decide +kernel) 10 #[.val (.int i0), .val (.int i1), .val (.int i2), .val (.int i3), .val (.int ((1 : Int32) + ((i0 &&& 2147483647) % (3 : Int32)))), .unset, .unset, .unset, .unset, .unset, .unset, .unset] [] rfl ?_
  rcases own_n3 i0 with qn | qn | qn
  · rw [show ((1 : Int32) + ((i0 &&& 2147483647) % (3 : Int32))) = (1 : Int32) from qn]
    refine own_seg C S1231 [(10, .iload_n 1, 1)] (by decide +kernel) 11 #[.val (.int i0), .val (.int i1), .val (.int i2), .val (.int i3), .val (.int (1 : Int32)), .unset, .unset, .unset, .unset, .unset, .unset, .unset] [(.int i1)] rfl ?_
    refine own_callS C S1231 (own_wd hw 1 rfl) (own_wd hw 2 rfl) (own_wd hw 3 rfl) (own_wd hw 4 rfl) (by decide) (own_Met.pay (own_ch l Z a0 hw i1 h0 n0 z0) C 0 (own_wd hw 4 rfl) (own_wd hw 3 rfl) (by decide) (by decide)) (fun _ _ _ q => q.2) [(.int i1)] [] rfl own_pd24 rfl rfl rfl (Nat.le_of_ble_eq_true rfl) (by decide) (by decide) (by decide +kernel) ?_
    rintro T1237 h1238 v1239 L1240 S1241 ⟨⟨y1233, rfl, e1234, p1235, p1236⟩, -⟩
    replace S1241 : own_S p l e room_1 (s.setVm vm1230) m #[(.int i0), (.int i1), (.int i2), (.int i3)] below meth c n0 T1237 h1238 0 0 := S1241
    rw [e1234] at S1241; clear e1234
    show own_Go p e below _ T1237 (mkF m 14 #[.val (.int i0), .val (.int i1), .val (.int i2), .val (.int i3), .val (.int (1 : Int32)), .unset, .unset, .unset, .unset, .unset, .unset, .unset] [(.int y1233)])
    refine own_seg C S1241 [(14, .istore 5, 2), (16, .iload_n 2, 1)] (by decide +kernel) 17 #[.val (.int i0), .val (.int i1), .val (.int i2), .val (.int i3), .val (.int (1 : Int32)), .val (.int y1233), .unset, .unset, .unset, .unset, .unset, .unset] [(.int i2)] rfl ?_
    refine own_callS C S1241 (own_wd hw 1 rfl) (own_wd hw 2 rfl) (own_wd hw 3 rfl) (own_wd hw 4 rfl) (by decide) (own_Met.pay (own_ch l Z a0 hw i2 h0 n0 z0) C 0 (own_wd hw 4 rfl) (own_wd hw 3 rfl) (by decide) (by decide)) (fun _ _ _ q => q.2) [(.int i2)] [] rfl own_pd24 rfl rfl rfl (Nat.le_of_ble_eq_true rfl) (by decide) (by decide) (by decide +kernel) ?_
    rintro T1246 h1247 v1248 L1249 S1250 ⟨⟨y1242, rfl, e1243, p1244, p1245⟩, -⟩
    replace S1250 : own_S p l e room_1 (s.setVm vm1230) m #[(.int i0), (.int i1), (.int i2), (.int i3)] below meth c n0 T1246 h1247 0 0 := S1250
    rw [e1243] at S1250; clear e1243
    show own_Go p e below _ T1246 (mkF m 20 #[.val (.int i0), .val (.int i1), .val (.int i2), .val (.int i3), .val (.int (1 : Int32)), .val (.int y1233), .unset, .unset, .unset, .unset, .unset, .unset] [(.int y1242)])
    refine own_seg C S1250 [(20, .istore 6, 2), (22, .iload_n 3, 1)] (by decide +kernel) 23 #[.val (.int i0), .val (.int i1), .val (.int i2), .val (.int i3), .val (.int (1 : Int32)), .val (.int y1233), .val (.int y1242), .unset, .unset, .unset, .unset, .unset] [(.int i3)] rfl ?_
    refine own_callS C S1250 (own_wd hw 1 rfl) (own_wd hw 2 rfl) (own_wd hw 3 rfl) (own_wd hw 4 rfl) (by decide) (own_Met.pay (own_ch l Z a0 hw i3 h0 n0 z0) C 0 (own_wd hw 4 rfl) (own_wd hw 3 rfl) (by decide) (by decide)) (fun _ _ _ q => q.2) [(.int i3)] [] rfl own_pd24 rfl rfl rfl (Nat.le_of_ble_eq_true rfl) (by decide) (by decide) (by decide +kernel) ?_
    rintro T1255 h1256 v1257 L1258 S1259 ⟨⟨y1251, rfl, e1252, p1253, p1254⟩, -⟩
    replace S1259 : own_S p l e room_1 (s.setVm vm1230) m #[(.int i0), (.int i1), (.int i2), (.int i3)] below meth c n0 T1255 h1256 0 0 := S1259
    rw [e1252] at S1259; clear e1252
    show own_Go p e below _ T1255 (mkF m 26 #[.val (.int i0), .val (.int i1), .val (.int i2), .val (.int i3), .val (.int (1 : Int32)), .val (.int y1233), .val (.int y1242), .unset, .unset, .unset, .unset, .unset] [(.int y1251)])
    refine own_seg C S1259 [(26, .istore 7, 2), (28, .iload 4, 2), (30, .iconst 1, 1)] (by decide +kernel) 31 #[.val (.int i0), .val (.int i1), .val (.int i2), .val (.int i3), .val (.int (1 : Int32)), .val (.int y1233), .val (.int y1242), .val (.int y1251), .unset, .unset, .unset, .unset] [(.int (1 : Int32)), (.int (1 : Int32))] rfl ?_
    refine own_icmp C S1259 (q := .ne) (o := 16) (by decide +kernel) 47 (by decide) (by decide) (fun (hq : ¬ (1 : Int32) = (1 : Int32)) => False.elim (by revert hq; decide)) (fun (q1260 : (1 : Int32) = (1 : Int32)) => ?_)
    refine own_seg C S1259 [(34, .iconst 1, 1)] (by decide +kernel) 35 #[.val (.int i0), .val (.int i1), .val (.int i2), .val (.int i3), .val (.int (1 : Int32)), .val (.int y1233), .val (.int y1242), .val (.int y1251), .unset, .unset, .unset, .unset] [(.int (1 : Int32))] rfl ?_
    refine own_newP C S1259 (aty := .char) (own_wd hw 5 rfl) (by decide +kernel) (by decide) 1 (by decide) (by decide) (by decide) (by decide) ?_
    intro T1261 h1263 a1264 k1265 S1262 g1266 E1267 f1268
    have f1269 : Arv Z h1263 a1264 k1265 .char (1 : Int32) ([(.int (0 : Int32))]) (.int (0 : Int32)) := Arv.pad f1268 (pad_rep [] (.int (0 : Int32)) 1)
    refine own_seg C S1262 [(37, .dup, 1), (38, .iconst 0, 1), (39, .iload 5, 2)] (by decide +kernel) 41 #[.val (.int i0), .val (.int i1), .val (.int i2), .val (.int i3), .val (.int (1 : Int32)), .val (.int y1233), .val (.int y1242), .val (.int y1251), .unset, .unset, .unset, .unset] [(.int y1233), (.int (0 : Int32)), (.ref a1264), (.ref a1264)] rfl ?_
    have g1270 : n0 ≤ a1264 := by rw [g1266]; exact z0
    refine own_castore C S1262 f1269 ⟨(by decide), (by decide)⟩ 0 rfl (Nat.le_of_ble_eq_true rfl) y1233 p1235.2.1 g1270 (by decide +kernel) ?_
    intro T1271 h1273 S1272 W1274 f1275
    have f1276 : Arv Z h1273 a1264 k1265 .char (1 : Int32) ([(.int y1233)]) (.int (0 : Int32)) := f1275
    have hne1277 : ∀ c ∈ ([y1233] : List Int32), ¬ c = (58 : Int32) := by
      intro c hc; simp only [List.mem_cons, List.not_mem_nil, or_false] at hc
      rcases hc with rfl
      · exact p1236
    refine own_seg C S1272 [(42, .astore 8, 2), (44, .goto 47, 3)] (by decide +kernel) 91 #[.val (.int i0), .val (.int i1), .val (.int i2), .val (.int i3), .val (.int (1 : Int32)), .val (.int y1233), .val (.int y1242), .val (.int y1251), .val (.ref a1264), .unset, .unset, .unset] [] rfl ?_
    refine own_new C S1272 (own_wd hw 6 rfl) (own_wd hw 7 rfl) (own_wd hw 8 rfl) (by decide +kernel) (by decide) (by decide) ?_
    intro T1278 h1280 a1281 S1279 g1282 E1283 x1284 D1285
    have f1286 : Fld Z h1280 a1281 "java/lang/String" "coder" "B" (.int (0 : Int32)) := D1285 (ty := .byte) (Or.inr (own_wd hw 32 rfl)) own_fd1
    have f1287 : Fld Z h1280 a1281 "java/lang/String" "value" "[B" .null := D1285 (ty := (.array .byte)) (Or.inr (own_wd hw 34 rfl)) own_fd0
    refine own_seg C S1279 [(94, .dup, 1), (95, .aload 8, 2)] (by decide +kernel) 97 #[.val (.int i0), .val (.int i1), .val (.int i2), .val (.int i3), .val (.int (1 : Int32)), .val (.int y1233), .val (.int y1242), .val (.int y1251), .val (.ref a1264), .unset, .unset, .unset] [(.ref a1264), (.ref a1281), (.ref a1281)] rfl ?_
    have hp1288 : ∀ c ∈ ([y1233] : List Int32), ¬ c < 0 ∧ ¬ (255 : Int32) < c := by
      intro c hc; simp only [List.mem_cons, List.not_mem_nil, or_false] at hc
      rcases hc with rfl
      · exact p1235.1
    have f1289 : n0 ≤ h1280.size := (Nat.le_trans (by rw [W1274.size]; exact (Nat.le_trans z0 E1267.1)) E1283.1)
    have f1290 : n0 ≤ h1273.size := (by rw [W1274.size]; exact (Nat.le_trans z0 E1267.1))
    have g1291 : n0 ≤ a1281 := by rw [g1282]; exact f1290
    have f1292 : Arv Z h1280 a1264 k1265 .char (1 : Int32) ([(.int y1233)]) (.int (0 : Int32)) := (f1276.ext E1283)
    have f1293 : Old Z n0 h1280 := (((X00.ext E1267).wr W1274 g1270).ext E1283)
    refine own_callI C S1279 rfl (own_wd hw 9 rfl) (own_wd hw 10 rfl) (own_wd hw 11 rfl) (by decide) (StrChars.Road.backV (W := 1) C.2.2.2.2.2.2.2 (fun d hd => hw d (own_hws d hd)) (kI := 4) (own_wd hw 7 rfl) (cs := ([y1233] : List Int32)) (bs := (([y1233] : List Int32)).map (fun c => c.toInt8.toInt32)) (n := 1) g1291 f1289 x1284 f1287 f1286 f1292 (O2.ext f1293.2) P5 rfl rfl (by decide) (by decide) hp1288 rfl (by decide) (by decide)) (fun _ _ _ q => q.2.1) [(.ref a1264)] [(.ref a1281)] rfl own_pd25 rfl rfl rfl (Nat.le_of_ble_eq_true rfl) (by decide) (by decide) (by decide +kernel) ?_
    rintro T1304 h1305 v1306 L1307 S1308 ⟨rfl, -, K1294, x1295, f1296, t1297, k1298, g1299, g1300, g1301, f1302, f1303⟩
    replace S1308 : own_S p l e room_1 (s.setVm vm1230) m #[(.int i0), (.int i1), (.int i2), (.int i3)] below meth c n0 T1304 h1305 3 6 := S1308
    have f1309 : Arv Z h1305 t1297 k1298 .byte (1 : Int32) ([(.int y1233.toInt8.toInt32)]) (.int 0) := f1303
    have hcd1310 : StrChars.Road.CodA ([y1233] : List Int32) 0 (1 : Int32) [(.int y1233.toInt8.toInt32)] := StrChars.Road.codOf (cs := ([y1233] : List Int32)) (n := 1) rfl (fun c hc => (hp1288 c hc).2)
    show own_Go p e below _ T1304 (mkF m 100 #[.val (.int i0), .val (.int i1), .val (.int i2), .val (.int i3), .val (.int (1 : Int32)), .val (.int y1233), .val (.int y1242), .val (.int y1251), .val (.ref a1264), .unset, .unset, .unset] [(.ref a1281)])
    refine own_seg C S1308 [(100, .astore 9, 2)] (by decide +kernel) 102 #[.val (.int i0), .val (.int i1), .val (.int i2), .val (.int i3), .val (.int (1 : Int32)), .val (.int y1233), .val (.int y1242), .val (.int y1251), .val (.ref a1264), .val (.ref a1281), .unset, .unset] [] rfl ?_
    refine own_new C S1308 (own_wd hw 35 rfl) (own_wd hw 36 rfl) (own_wd hw 37 rfl) (by decide +kernel) (by decide) (by decide) ?_
    intro T1311 h1313 a1314 S1312 g1315 E1316 x1317 D1318
    have f1319 : Fld Z h1313 a1314 "com/example/nearfar_cache/nearfarcache/Namespace" "name" "Ljava/lang/String;" .null := D1318 (ty := (.object "java/lang/String")) (Or.inr (own_wd hw 112 rfl)) own_fd3
    refine own_seg C S1312 [(105, .dup, 1), (106, .aload 9, 2)] (by decide +kernel) 108 #[.val (.int i0), .val (.int i1), .val (.int i2), .val (.int i3), .val (.int (1 : Int32)), .val (.int y1233), .val (.int y1242), .val (.int y1251), .val (.ref a1264), .val (.ref a1281), .unset, .unset] [(.ref a1281), (.ref a1314), (.ref a1314)] rfl ?_
    have f1320 : Old Z n0 h1313 := ((f1293.keep K1294 (allS g1291 all0)).ext E1316)
    have f1321 : Exa Z h1313 a1281 "java/lang/String" := (Exa.ext E1316 x1295)
    have f1322 : Fld Z h1313 a1281 "java/lang/String" "value" "[B" (.ref t1297) := (Fld.ext E1316 f1302)
    have f1323 : Fld Z h1313 a1281 "java/lang/String" "coder" "B" (.int 0) := (Fld.ext E1316 f1296)
    have f1324 : Arv Z h1313 t1297 k1298 .byte (1 : Int32) ([(.int y1233.toInt8.toInt32)]) (.int 0) := (f1309.ext E1316)
    have f1325 : n0 ≤ h1313.size := (Nat.le_trans (Nat.le_trans f1289 K1294.1) E1316.1)
    have f1326 : n0 ≤ h1305.size := (Nat.le_trans f1289 K1294.1)
    have g1327 : n0 ≤ a1314 := by rw [g1315]; exact f1326
    have f1336 : t1297 < h1313.size := (Nat.lt_of_lt_of_le f1309.lt E1316.1)
    have f1337 : a1281 < h1313.size := (Nat.lt_of_lt_of_le (Nat.lt_of_lt_of_le f1287.lt K1294.1) E1316.1)
    have f1338 : a1264 < h1313.size := (Nat.lt_of_lt_of_le (Nat.lt_of_lt_of_le (Nat.lt_of_lt_of_le (by rw [W1274.size]; exact f1269.lt) E1283.1) K1294.1) E1316.1)
    have SW1339 : own_SW p l e room_1 s m #[(.int i0), (.int i1), (.int i2), (.int i3)] below meth c n0 Z own_EL "com/example/nearfar_cache/nearfarcache/redis/RedisKeysInvalidationChannelPinLaw" T1311 h1313 [a1264, a1281, t1297, a1314] 4 7 := rb1232 _ _ _ _ [] [a1264, a1281, t1297, a1314] S1312 ((((((Keep.refl _ _).ext E1267).wr W1274 (Or.inr (by rw [g1266]; exact (Nat.le_refl _)))).ext E1283).trans K1294 (allS (Or.inr (by rw [g1282]; exact (by rw [W1274.size]; exact (Nat.le_trans (Nat.le_refl _) E1267.1)))) all0)).ext E1316) all0 (allS ⟨(by rw [g1266]; exact (Nat.le_refl _)), f1338⟩ (allS ⟨(by rw [g1282]; exact (by rw [W1274.size]; exact (Nat.le_trans (Nat.le_refl _) E1267.1))), f1337⟩ (allS ⟨(Nat.le_trans (Nat.le_trans (by rw [W1274.size]; exact (Nat.le_trans (Nat.le_refl _) E1267.1)) E1283.1) g1300), f1336⟩ (allS ⟨(by rw [g1315]; exact (Nat.le_trans (Nat.le_trans (by rw [W1274.size]; exact (Nat.le_trans (Nat.le_refl _) E1267.1)) E1283.1) K1294.1)), x1317.lt⟩ all0))))
    refine own_callIW CW SW1339 rfl (own_wd hw 38 rfl) (own_wd hw 39 rfl) (own_wd hw 37 rfl) (own_wd hw 40 rfl) (by decide) (own_ns l Z a0 hw hEL wS G1 G3 a1314 a1281 t1297 k1298 (1 : Int32) ([(.int y1233.toInt8.toInt32)]) ([y1233] : List Int32) h1313 n0 f1325 g1327 f1320 f1321 f1322 f1323 f1324 x1317 f1319 O2 O4 P5 rG3 hcd1310 hp1288 (Nat.le_of_ble_eq_true rfl) (by simp) hne1277 (by simp)) all0 1 (by decide) (by decide) [(.ref a1281)] [(.ref a1314)] rfl own_pd7 rfl rfl rfl (Nat.le_of_ble_eq_true rfl) (by decide) (by decide) (by decide +kernel) ?_
    rintro T1340 h1341 v1342 SW1343 hg1344 ⟨rfl, K1328, f1329, f1330⟩
    replace SW1343 : own_SW p l e room_1 s m #[(.int i0), (.int i1), (.int i2), (.int i3)] below meth c n0 Z own_EL "com/example/nearfar_cache/nearfarcache/redis/RedisKeysInvalidationChannelPinLaw" T1340 h1341 [a1264, a1281, t1297, a1314] 8 59 := SW1343
    show own_Go p e below _ T1340 (mkF m 111 #[.val (.int i0), .val (.int i1), .val (.int i2), .val (.int i3), .val (.int (1 : Int32)), .val (.int y1233), .val (.int y1242), .val (.int y1251), .val (.ref a1264), .val (.ref a1281), .unset, .unset] [(.ref a1314)])
    refine own_lift CW SW1343 ?_
    intro vm1345 C S1346 rb1347
    refine own_seg C S1346 [(111, .astore 10, 2), (113, .aload 10, 2)] (by decide +kernel) 115 #[.val (.int i0), .val (.int i1), .val (.int i2), .val (.int i3), .val (.int (1 : Int32)), .val (.int y1233), .val (.int y1242), .val (.int y1251), .val (.ref a1264), .val (.ref a1281), .val (.ref a1314), .unset] [(.ref a1314)] rfl ?_
    have f1348 : Old Z n0 h1341 := (f1320.keep K1328 (allS g1327 all0))
    have f1349 : Exa Z h1341 a1281 "java/lang/String" := (f1321.keep K1328)
    have f1350 : a1281 < h1305.size := (Nat.lt_of_lt_of_le f1287.lt K1294.1)
    have n1351 : a1281 ≠ a1314 := by rw [g1315]; exact Nat.ne_of_lt f1350
    have f1352 : Fld Z h1341 a1281 "java/lang/String" "value" "[B" (.ref t1297) := (f1322.keep K1328 (ninS n1351 nin0))
    have f1353 : Fld Z h1341 a1281 "java/lang/String" "coder" "B" (.int 0) := (f1323.keep K1328 (ninS n1351 nin0))
    have n1354 : t1297 ≠ a1314 := by rw [g1315]; exact Nat.ne_of_lt f1309.lt
    have f1355 : Arv Z h1341 t1297 k1298 .byte (1 : Int32) ([(.int y1233.toInt8.toInt32)]) (.int 0) := (f1324.keep K1328 (ninS n1354 nin0))
    have f1356 : n0 ≤ h1341.size := (Nat.le_trans f1325 K1328.1)
    have SW1372 : own_SW p l e room_1 s m #[(.int i0), (.int i1), (.int i2), (.int i3)] below meth c n0 Z own_EL "com/example/nearfar_cache/nearfarcache/redis/RedisKeysInvalidationChannelPinLaw" T1340 h1341 [a1264, a1281, t1297, a1314] 8 59 := rb1347 _ _ _ _ [] [] S1346 (Keep.refl _ _) all0 all0
    refine own_callSW CW SW1372 (own_wd hw 113 rfl) (own_wd hw 114 rfl) (own_wd hw 115 rfl) (own_wd hw 116 rfl) (by decide) (own_ic1 l Z a0 hw hEL wS G1 G3 a1314 a1281 t1297 k1298 y1233 h1341 n0 f1356 f1348 f1329 f1330 f1349 f1352 f1353 f1355 O2 O4 P5 rG3 p1235.1) all0 0 (by decide) (by decide) [(.ref a1314)] [] rfl own_pd26 rfl rfl rfl (Nat.le_of_ble_eq_true rfl) (by decide) (by decide) (by decide +kernel) ?_
    rintro T1373 h1374 v1375 SW1376 hg1377 ⟨a1357, a1358, k1359, rfl, g1360, g1361, K1362, f1363, f1364, f1365, f1366⟩
    replace SW1376 : own_SW p l e room_1 s m #[(.int i0), (.int i1), (.int i2), (.int i3)] below meth c n0 Z own_EL "com/example/nearfar_cache/nearfarcache/redis/RedisKeysInvalidationChannelPinLaw" T1373 h1374 [a1264, a1281, t1297, a1314] 17 313 := SW1376
    show own_Go p e below _ T1373 (mkF m 118 #[.val (.int i0), .val (.int i1), .val (.int i2), .val (.int i3), .val (.int (1 : Int32)), .val (.int y1233), .val (.int y1242), .val (.int y1251), .val (.ref a1264), .val (.ref a1281), .val (.ref a1314), .unset] [(.ref a1357)])
    have hp1378 : ∀ c ∈ ([(110 : Int32), (101 : Int32), (97 : Int32), (114 : Int32), (102 : Int32), (97 : Int32), (114 : Int32), (58 : Int32), (105 : Int32), (110 : Int32), (118 : Int32), (97 : Int32), (108 : Int32), (105 : Int32), (100 : Int32), (97 : Int32), (116 : Int32), (105 : Int32), (111 : Int32), (110 : Int32), (115 : Int32), (58 : Int32), y1233] : List Int32), ¬ c < 0 ∧ ¬ (255 : Int32) < c := by
      intro c hc; simp only [List.mem_cons, List.not_mem_nil, or_false] at hc
      rcases hc with rfl | rfl | rfl | rfl | rfl | rfl | rfl | rfl | rfl | rfl | rfl | rfl | rfl | rfl | rfl | rfl | rfl | rfl | rfl | rfl | rfl | rfl | rfl
      · exact (by decide)
      · exact (by decide)
      · exact (by decide)
      · exact (by decide)
      · exact (by decide)
      · exact (by decide)
      · exact (by decide)
      · exact (by decide)
      · exact (by decide)
      · exact (by decide)
      · exact (by decide)
      · exact (by decide)
      · exact (by decide)
      · exact (by decide)
      · exact (by decide)
      · exact (by decide)
      · exact (by decide)
      · exact (by decide)
      · exact (by decide)
      · exact (by decide)
      · exact (by decide)
      · exact (by decide)
      · exact p1235.1
    have hcd1379 : StrChars.Road.CodA ([(110 : Int32), (101 : Int32), (97 : Int32), (114 : Int32), (102 : Int32), (97 : Int32), (114 : Int32), (58 : Int32), (105 : Int32), (110 : Int32), (118 : Int32), (97 : Int32), (108 : Int32), (105 : Int32), (100 : Int32), (97 : Int32), (116 : Int32), (105 : Int32), (111 : Int32), (110 : Int32), (115 : Int32), (58 : Int32), y1233] : List Int32) 0 (23 : Int32) [(.int (110 : Int32)), (.int (101 : Int32)), (.int (97 : Int32)), (.int (114 : Int32)), (.int (102 : Int32)), (.int (97 : Int32)), (.int (114 : Int32)), (.int (58 : Int32)), (.int (105 : Int32)), (.int (110 : Int32)), (.int (118 : Int32)), (.int (97 : Int32)), (.int (108 : Int32)), (.int (105 : Int32)), (.int (100 : Int32)), (.int (97 : Int32)), (.int (116 : Int32)), (.int (105 : Int32)), (.int (111 : Int32)), (.int (110 : Int32)), (.int (115 : Int32)), (.int (58 : Int32)), (.int y1233.toInt8.toInt32)] := StrChars.Road.codOf (cs := ([(110 : Int32), (101 : Int32), (97 : Int32), (114 : Int32), (102 : Int32), (97 : Int32), (114 : Int32), (58 : Int32), (105 : Int32), (110 : Int32), (118 : Int32), (97 : Int32), (108 : Int32), (105 : Int32), (100 : Int32), (97 : Int32), (116 : Int32), (105 : Int32), (111 : Int32), (110 : Int32), (115 : Int32), (58 : Int32), y1233] : List Int32)) (n := 23) rfl (fun c hc => (hp1378 c hc).2)
    refine own_lift CW SW1376 ?_
    intro vm1380 C S1381 rb1382
    refine own_seg C S1381 [(118, .astore 11, 2), (120, .aload 11, 2)] (by decide +kernel) 122 #[.val (.int i0), .val (.int i1), .val (.int i2), .val (.int i3), .val (.int (1 : Int32)), .val (.int y1233), .val (.int y1242), .val (.int y1251), .val (.ref a1264), .val (.ref a1281), .val (.ref a1314), .val (.ref a1357)] [(.ref a1357)] rfl ?_
    have f1383 : Old Z n0 h1374 := (f1348.keep K1362 all0)
    refine own_callV C S1381 (own_wd hw 238 rfl) (own_wd hw 75 rfl) (own_wd hw 77 rfl) (y' := ⟨"java/lang/String", "length", "()I"⟩) rfl (own_wd hw 77 rfl) (own_wd hw 76 rfl) (by decide) (Q := (fun v h' L => v = some (.int (Int32.ofNat (([(110 : Int32), (101 : Int32), (97 : Int32), (114 : Int32), (102 : Int32), (97 : Int32), (114 : Int32), (58 : Int32), (105 : Int32), (110 : Int32), (118 : Int32), (97 : Int32), (108 : Int32), (105 : Int32), (100 : Int32), (97 : Int32), (116 : Int32), (105 : Int32), (111 : Int32), (110 : Int32), (115 : Int32), (58 : Int32), y1233] : List Int32)).length)) ∧ L = [] ∧ h' = h1374)) (StrChars.Road.lenW (W := 0) C.2.2.2.2.2.2.2 (fun d hd => hw d (own_hln d hd)) (kI := 4) (own_wd hw 7 rfl) f1363 f1365 f1364 f1366 hcd1379 (own_up _ hp1378) (O2.ext f1383.2) P5 (Nat.le_of_ble_eq_true rfl) (by decide) (by decide)) (fun _ _ L q => by rw [q.2.1]; exact Fr.nil _) f1363 [] [] rfl own_pd4 rfl rfl rfl (Nat.le_of_ble_eq_true rfl) (by decide) (by decide) (by decide +kernel) ?_
    rintro T1385 h1386 v1387 L1388 S1389 ⟨rfl, -, e1384⟩
    replace S1389 : own_S p l e room_1 (s.setVm vm1380) m #[(.int i0), (.int i1), (.int i2), (.int i3)] below meth c n0 T1385 h1386 17 313 := S1389
    rw [e1384] at S1389; clear e1384
    show own_Go p e below _ T1385 (mkF m 125 #[.val (.int i0), .val (.int i1), .val (.int i2), .val (.int i3), .val (.int (1 : Int32)), .val (.int y1233), .val (.int y1242), .val (.int y1251), .val (.ref a1264), .val (.ref a1281), .val (.ref a1314), .val (.ref a1357)] [(.int (23 : Int32))])
    refine own_seg C S1389 [(125, .bipush 22, 2), (127, .iload 4, 2), (129, .iadd, 1)] (by decide +kernel) 130 #[.val (.int i0), .val (.int i1), .val (.int i2), .val (.int i3), .val (.int (1 : Int32)), .val (.int y1233), .val (.int y1242), .val (.int y1251), .val (.ref a1264), .val (.ref a1281), .val (.ref a1314), .val (.ref a1357)] [(.int ((22 : Int32) + (1 : Int32))), (.int (23 : Int32))] rfl ?_
    refine own_icmp C S1389 (q := .eq) (o := 5) (by decide +kernel) 135 (by decide) (by decide) (fun (q1390 : (23 : Int32) = ((22 : Int32) + (1 : Int32))) => ?_) (fun (hq : ¬ (23 : Int32) = ((22 : Int32) + (1 : Int32))) => False.elim (by revert hq; decide))
    refine own_seg C S1389 [(135, .aload 11, 2)] (by decide +kernel) 137 #[.val (.int i0), .val (.int i1), .val (.int i2), .val (.int i3), .val (.int (1 : Int32)), .val (.int y1233), .val (.int y1242), .val (.int y1251), .val (.ref a1264), .val (.ref a1281), .val (.ref a1314), .val (.ref a1357)] [(.ref a1357)] rfl ?_
    have f1391 : n0 ≤ h1374.size := (Nat.le_trans f1356 K1362.1)
    refine own_callS C S1389 (own_wd hw 239 rfl) (own_wd hw 240 rfl) (own_wd hw 3 rfl) (own_wd hw 241 rfl) (by decide) (own_Met.pay (own_hpx l Z a0 hw G1 G3 a1357 a1358 k1359 (23 : Int32) ([(.int (110 : Int32)), (.int (101 : Int32)), (.int (97 : Int32)), (.int (114 : Int32)), (.int (102 : Int32)), (.int (97 : Int32)), (.int (114 : Int32)), (.int (58 : Int32)), (.int (105 : Int32)), (.int (110 : Int32)), (.int (118 : Int32)), (.int (97 : Int32)), (.int (108 : Int32)), (.int (105 : Int32)), (.int (100 : Int32)), (.int (97 : Int32)), (.int (116 : Int32)), (.int (105 : Int32)), (.int (111 : Int32)), (.int (110 : Int32)), (.int (115 : Int32)), (.int (58 : Int32)), (.int y1233.toInt8.toInt32)]) ([(110 : Int32), (101 : Int32), (97 : Int32), (114 : Int32), (102 : Int32), (97 : Int32), (114 : Int32), (58 : Int32), (105 : Int32), (110 : Int32), (118 : Int32), (97 : Int32), (108 : Int32), (105 : Int32), (100 : Int32), (97 : Int32), (116 : Int32), (105 : Int32), (111 : Int32), (110 : Int32), (115 : Int32), (58 : Int32), y1233] : List Int32) h1374 n0 f1391 f1383 f1363 f1365 f1364 f1366 O2 O4 P5 rG3 hcd1379 hp1378 (Nat.le_of_ble_eq_true rfl) (Nat.le_of_ble_eq_true rfl) (by decide) rfl rfl rfl rfl rfl rfl rfl rfl rfl rfl rfl rfl rfl rfl rfl rfl rfl rfl rfl rfl rfl rfl) C 0 (own_wd hw 241 rfl) (own_wd hw 3 rfl) (by decide) (by decide)) (fun _ _ _ q => q.2) [(.ref a1357)] [] rfl own_pd27 rfl rfl rfl (Nat.le_of_ble_eq_true rfl) (by decide) (by decide) (by decide +kernel) ?_
    rintro T1393 h1394 v1395 L1396 S1397 ⟨⟨rfl, e1392⟩, -⟩
    replace S1397 : own_S p l e room_1 (s.setVm vm1380) m #[(.int i0), (.int i1), (.int i2), (.int i3)] below meth c n0 T1393 h1394 17 313 := S1397
    rw [e1392] at S1397; clear e1392
    show own_Go p e below _ T1393 (mkF m 140 #[.val (.int i0), .val (.int i1), .val (.int i2), .val (.int i3), .val (.int (1 : Int32)), .val (.int y1233), .val (.int y1242), .val (.int y1251), .val (.ref a1264), .val (.ref a1281), .val (.ref a1314), .val (.ref a1357)] [(.int (1 : Int32))])
    refine own_if C S1397 (q := .ne) (o := 5) (by decide +kernel) 145 (by decide) (by decide) (fun (q1398 : ¬ (1 : Int32) = (0 : Int32)) => ?_) (fun (hq : (1 : Int32) = (0 : Int32)) => False.elim (by revert hq; decide))
    refine own_seg C S1397 [(145, .aload 11, 2), (147, .bipush 22, 2)] (by decide +kernel) 149 #[.val (.int i0), .val (.int i1), .val (.int i2), .val (.int i3), .val (.int (1 : Int32)), .val (.int y1233), .val (.int y1242), .val (.int y1251), .val (.ref a1264), .val (.ref a1281), .val (.ref a1314), .val (.ref a1357)] [(.int (22 : Int32)), (.ref a1357)] rfl ?_
    refine own_callV C S1397 (own_wd hw 242 rfl) (own_wd hw 243 rfl) (own_wd hw 245 rfl) (y' := ⟨"java/lang/String", "charAt", "(I)C"⟩) rfl (own_wd hw 245 rfl) (own_wd hw 244 rfl) (by decide) (Q := (fun v h' L => v = some (.int ((([(110 : Int32), (101 : Int32), (97 : Int32), (114 : Int32), (102 : Int32), (97 : Int32), (114 : Int32), (58 : Int32), (105 : Int32), (110 : Int32), (118 : Int32), (97 : Int32), (108 : Int32), (105 : Int32), (100 : Int32), (97 : Int32), (116 : Int32), (105 : Int32), (111 : Int32), (110 : Int32), (115 : Int32), (58 : Int32), y1233] : List Int32)).getD 22 0)) ∧ L = [] ∧ h' = h1374)) (StrChars.Road.chN (W := 0) C.2.2.2.2.2.2.2 (fun d hd => hw d (own_hch d hd)) (kI := 4) (own_wd hw 7 rfl) f1363 f1365 f1364 f1366 hcd1379 (own_up _ hp1378) (O2.ext f1383.2) P5 (O4.ext f1383.2) rG3 (Nat.le_of_ble_eq_true rfl) (i := 22) (Nat.le_of_ble_eq_true rfl) rfl (by decide) (by decide)) (fun _ _ L q => by rw [q.2.1]; exact Fr.nil _) f1363 [(.int (22 : Int32))] [] rfl own_pd24 rfl rfl rfl (Nat.le_of_ble_eq_true rfl) (by decide) (by decide) (by decide +kernel) ?_
    rintro T1400 h1401 v1402 L1403 S1404 ⟨rfl, -, e1399⟩
    replace S1404 : own_S p l e room_1 (s.setVm vm1380) m #[(.int i0), (.int i1), (.int i2), (.int i3)] below meth c n0 T1400 h1401 17 313 := S1404
    rw [e1399] at S1404; clear e1399
    show own_Go p e below _ T1400 (mkF m 152 #[.val (.int i0), .val (.int i1), .val (.int i2), .val (.int i3), .val (.int (1 : Int32)), .val (.int y1233), .val (.int y1242), .val (.int y1251), .val (.ref a1264), .val (.ref a1281), .val (.ref a1314), .val (.ref a1357)] [(.int y1233)])
    refine own_seg C S1404 [(152, .iload 5, 2)] (by decide +kernel) 154 #[.val (.int i0), .val (.int i1), .val (.int i2), .val (.int i3), .val (.int (1 : Int32)), .val (.int y1233), .val (.int y1242), .val (.int y1251), .val (.ref a1264), .val (.ref a1281), .val (.ref a1314), .val (.ref a1357)] [(.int y1233), (.int y1233)] rfl ?_
    refine own_icmp C S1404 (q := .eq) (o := 5) (by decide +kernel) 159 (by decide) (by decide) (fun (q1405 : y1233 = y1233) => ?_) (fun (hq : ¬ y1233 = y1233) => False.elim (hq rfl))
    refine own_seg C S1404 [(159, .iload 4, 2), (161, .iconst 2, 1)] (by decide +kernel) 162 #[.val (.int i0), .val (.int i1), .val (.int i2), .val (.int i3), .val (.int (1 : Int32)), .val (.int y1233), .val (.int y1242), .val (.int y1251), .val (.ref a1264), .val (.ref a1281), .val (.ref a1314), .val (.ref a1357)] [(.int (2 : Int32)), (.int (1 : Int32))] rfl ?_
    refine own_icmp C S1404 (q := .lt) (o := 17) (by decide +kernel) 179 (by decide) (by decide) (fun (q1406 : (1 : Int32) < (2 : Int32)) => ?_) (fun (hq : ¬ (1 : Int32) < (2 : Int32)) => False.elim (by revert hq; decide))
    refine own_seg C S1404 [(179, .iload 4, 2), (181, .iconst 3, 1)] (by decide +kernel) 182 #[.val (.int i0), .val (.int i1), .val (.int i2), .val (.int i3), .val (.int (1 : Int32)), .val (.int y1233), .val (.int y1242), .val (.int y1251), .val (.ref a1264), .val (.ref a1281), .val (.ref a1314), .val (.ref a1357)] [(.int (3 : Int32)), (.int (1 : Int32))] rfl ?_
    refine own_icmp C S1404 (q := .lt) (o := 17) (by decide +kernel) 199 (by decide) (by decide) (fun (q1407 : (1 : Int32) < (3 : Int32)) => ?_) (fun (hq : ¬ (1 : Int32) < (3 : Int32)) => False.elim (by revert hq; decide))
    refine own_seg C S1404 [(199, .iconst 1, 1)] (by decide +kernel) 200 #[.val (.int i0), .val (.int i1), .val (.int i2), .val (.int i3), .val (.int (1 : Int32)), .val (.int y1233), .val (.int y1242), .val (.int y1251), .val (.ref a1264), .val (.ref a1281), .val (.ref a1314), .val (.ref a1357)] [(.int (1 : Int32))] rfl ?_
    have SW1408 : own_SW p l e room_1 s m #[(.int i0), (.int i1), (.int i2), (.int i3)] below meth c n0 Z own_EL "com/example/nearfar_cache/nearfarcache/redis/RedisKeysInvalidationChannelPinLaw" T1400 h1374 [a1264, a1281, t1297, a1314] 17 313 := rb1382 _ _ _ _ [] [] S1404 (Keep.refl _ _) all0 all0
    refine own_retZW CW SW1408 (by decide +kernel) (by decide) (by decide) (by decide) ?_
    rfl
  · rw [show ((1 : Int32) + ((i0 &&& 2147483647) % (3 : Int32))) = (2 : Int32) from qn]
    refine own_seg C S1231 [(10, .iload_n 1, 1)] (by decide +kernel) 11 #[.val (.int i0), .val (.int i1), .val (.int i2), .val (.int i3), .val (.int (2 : Int32)), .unset, .unset, .unset, .unset, .unset, .unset, .unset] [(.int i1)] rfl ?_
    refine own_callS C S1231 (own_wd hw 1 rfl) (own_wd hw 2 rfl) (own_wd hw 3 rfl) (own_wd hw 4 rfl) (by decide) (own_Met.pay (own_ch l Z a0 hw i1 h0 n0 z0) C 0 (own_wd hw 4 rfl) (own_wd hw 3 rfl) (by decide) (by decide)) (fun _ _ _ q => q.2) [(.int i1)] [] rfl own_pd24 rfl rfl rfl (Nat.le_of_ble_eq_true rfl) (by decide) (by decide) (by decide +kernel) ?_
    rintro T1413 h1414 v1415 L1416 S1417 ⟨⟨y1409, rfl, e1410, p1411, p1412⟩, -⟩
    replace S1417 : own_S p l e room_1 (s.setVm vm1230) m #[(.int i0), (.int i1), (.int i2), (.int i3)] below meth c n0 T1413 h1414 0 0 := S1417
    rw [e1410] at S1417; clear e1410
    show own_Go p e below _ T1413 (mkF m 14 #[.val (.int i0), .val (.int i1), .val (.int i2), .val (.int i3), .val (.int (2 : Int32)), .unset, .unset, .unset, .unset, .unset, .unset, .unset] [(.int y1409)])
    refine own_seg C S1417 [(14, .istore 5, 2), (16, .iload_n 2, 1)] (by decide +kernel) 17 #[.val (.int i0), .val (.int i1), .val (.int i2), .val (.int i3), .val (.int (2 : Int32)), .val (.int y1409), .unset, .unset, .unset, .unset, .unset, .unset] [(.int i2)] rfl ?_
    refine own_callS C S1417 (own_wd hw 1 rfl) (own_wd hw 2 rfl) (own_wd hw 3 rfl) (own_wd hw 4 rfl) (by decide) (own_Met.pay (own_ch l Z a0 hw i2 h0 n0 z0) C 0 (own_wd hw 4 rfl) (own_wd hw 3 rfl) (by decide) (by decide)) (fun _ _ _ q => q.2) [(.int i2)] [] rfl own_pd24 rfl rfl rfl (Nat.le_of_ble_eq_true rfl) (by decide) (by decide) (by decide +kernel) ?_
    rintro T1422 h1423 v1424 L1425 S1426 ⟨⟨y1418, rfl, e1419, p1420, p1421⟩, -⟩
    replace S1426 : own_S p l e room_1 (s.setVm vm1230) m #[(.int i0), (.int i1), (.int i2), (.int i3)] below meth c n0 T1422 h1423 0 0 := S1426
    rw [e1419] at S1426; clear e1419
    show own_Go p e below _ T1422 (mkF m 20 #[.val (.int i0), .val (.int i1), .val (.int i2), .val (.int i3), .val (.int (2 : Int32)), .val (.int y1409), .unset, .unset, .unset, .unset, .unset, .unset] [(.int y1418)])
    refine own_seg C S1426 [(20, .istore 6, 2), (22, .iload_n 3, 1)] (by decide +kernel) 23 #[.val (.int i0), .val (.int i1), .val (.int i2), .val (.int i3), .val (.int (2 : Int32)), .val (.int y1409), .val (.int y1418), .unset, .unset, .unset, .unset, .unset] [(.int i3)] rfl ?_
    refine own_callS C S1426 (own_wd hw 1 rfl) (own_wd hw 2 rfl) (own_wd hw 3 rfl) (own_wd hw 4 rfl) (by decide) (own_Met.pay (own_ch l Z a0 hw i3 h0 n0 z0) C 0 (own_wd hw 4 rfl) (own_wd hw 3 rfl) (by decide) (by decide)) (fun _ _ _ q => q.2) [(.int i3)] [] rfl own_pd24 rfl rfl rfl (Nat.le_of_ble_eq_true rfl) (by decide) (by decide) (by decide +kernel) ?_
    rintro T1431 h1432 v1433 L1434 S1435 ⟨⟨y1427, rfl, e1428, p1429, p1430⟩, -⟩
    replace S1435 : own_S p l e room_1 (s.setVm vm1230) m #[(.int i0), (.int i1), (.int i2), (.int i3)] below meth c n0 T1431 h1432 0 0 := S1435
    rw [e1428] at S1435; clear e1428
    show own_Go p e below _ T1431 (mkF m 26 #[.val (.int i0), .val (.int i1), .val (.int i2), .val (.int i3), .val (.int (2 : Int32)), .val (.int y1409), .val (.int y1418), .unset, .unset, .unset, .unset, .unset] [(.int y1427)])
    refine own_seg C S1435 [(26, .istore 7, 2), (28, .iload 4, 2), (30, .iconst 1, 1)] (by decide +kernel) 31 #[.val (.int i0), .val (.int i1), .val (.int i2), .val (.int i3), .val (.int (2 : Int32)), .val (.int y1409), .val (.int y1418), .val (.int y1427), .unset, .unset, .unset, .unset] [(.int (1 : Int32)), (.int (2 : Int32))] rfl ?_
    refine own_icmp C S1435 (q := .ne) (o := 16) (by decide +kernel) 47 (by decide) (by decide) (fun (q1436 : ¬ (2 : Int32) = (1 : Int32)) => ?_) (fun (hq : (2 : Int32) = (1 : Int32)) => False.elim (by revert hq; decide))
    refine own_seg C S1435 [(47, .iload 4, 2), (49, .iconst 2, 1)] (by decide +kernel) 50 #[.val (.int i0), .val (.int i1), .val (.int i2), .val (.int i3), .val (.int (2 : Int32)), .val (.int y1409), .val (.int y1418), .val (.int y1427), .unset, .unset, .unset, .unset] [(.int (2 : Int32)), (.int (2 : Int32))] rfl ?_
    refine own_icmp C S1435 (q := .ne) (o := 21) (by decide +kernel) 71 (by decide) (by decide) (fun (hq : ¬ (2 : Int32) = (2 : Int32)) => False.elim (by revert hq; decide)) (fun (q1437 : (2 : Int32) = (2 : Int32)) => ?_)
    refine own_seg C S1435 [(53, .iconst 2, 1)] (by decide +kernel) 54 #[.val (.int i0), .val (.int i1), .val (.int i2), .val (.int i3), .val (.int (2 : Int32)), .val (.int y1409), .val (.int y1418), .val (.int y1427), .unset, .unset, .unset, .unset] [(.int (2 : Int32))] rfl ?_
    refine own_newP C S1435 (aty := .char) (own_wd hw 5 rfl) (by decide +kernel) (by decide) 2 (by decide) (by decide) (by decide) (by decide) ?_
    intro T1438 h1440 a1441 k1442 S1439 g1443 E1444 f1445
    have f1446 : Arv Z h1440 a1441 k1442 .char (2 : Int32) ([(.int (0 : Int32)), (.int (0 : Int32))]) (.int (0 : Int32)) := Arv.pad f1445 (pad_rep [] (.int (0 : Int32)) 2)
    refine own_seg C S1439 [(56, .dup, 1), (57, .iconst 0, 1), (58, .iload 5, 2)] (by decide +kernel) 60 #[.val (.int i0), .val (.int i1), .val (.int i2), .val (.int i3), .val (.int (2 : Int32)), .val (.int y1409), .val (.int y1418), .val (.int y1427), .unset, .unset, .unset, .unset] [(.int y1409), (.int (0 : Int32)), (.ref a1441), (.ref a1441)] rfl ?_
    have g1447 : n0 ≤ a1441 := by rw [g1443]; exact z0
    refine own_castore C S1439 f1446 ⟨(by decide), (by decide)⟩ 0 rfl (Nat.le_of_ble_eq_true rfl) y1409 p1411.2.1 g1447 (by decide +kernel) ?_
    intro T1448 h1450 S1449 W1451 f1452
    have f1453 : Arv Z h1450 a1441 k1442 .char (2 : Int32) ([(.int y1409), (.int (0 : Int32))]) (.int (0 : Int32)) := f1452
    refine own_seg C S1449 [(61, .dup, 1), (62, .iconst 1, 1), (63, .iload 6, 2)] (by decide +kernel) 65 #[.val (.int i0), .val (.int i1), .val (.int i2), .val (.int i3), .val (.int (2 : Int32)), .val (.int y1409), .val (.int y1418), .val (.int y1427), .unset, .unset, .unset, .unset] [(.int y1418), (.int (1 : Int32)), (.ref a1441), (.ref a1441)] rfl ?_
    refine own_castore C S1449 f1453 ⟨(by decide), (by decide)⟩ 1 rfl (Nat.le_of_ble_eq_true rfl) y1418 p1420.2.1 g1447 (by decide +kernel) ?_
    intro T1454 h1456 S1455 W1457 f1458
    have f1459 : Arv Z h1456 a1441 k1442 .char (2 : Int32) ([(.int y1409), (.int y1418)]) (.int (0 : Int32)) := f1458
    have hne1460 : ∀ c ∈ ([y1409, y1418] : List Int32), ¬ c = (58 : Int32) := by
      intro c hc; simp only [List.mem_cons, List.not_mem_nil, or_false] at hc
      rcases hc with rfl | rfl
      · exact p1412
      · exact p1421
    refine own_seg C S1455 [(66, .astore 8, 2), (68, .goto 23, 3)] (by decide +kernel) 91 #[.val (.int i0), .val (.int i1), .val (.int i2), .val (.int i3), .val (.int (2 : Int32)), .val (.int y1409), .val (.int y1418), .val (.int y1427), .val (.ref a1441), .unset, .unset, .unset] [] rfl ?_
    refine own_new C S1455 (own_wd hw 6 rfl) (own_wd hw 7 rfl) (own_wd hw 8 rfl) (by decide +kernel) (by decide) (by decide) ?_
    intro T1461 h1463 a1464 S1462 g1465 E1466 x1467 D1468
    have f1469 : Fld Z h1463 a1464 "java/lang/String" "coder" "B" (.int (0 : Int32)) := D1468 (ty := .byte) (Or.inr (own_wd hw 32 rfl)) own_fd1
    have f1470 : Fld Z h1463 a1464 "java/lang/String" "value" "[B" .null := D1468 (ty := (.array .byte)) (Or.inr (own_wd hw 34 rfl)) own_fd0
    refine own_seg C S1462 [(94, .dup, 1), (95, .aload 8, 2)] (by decide +kernel) 97 #[.val (.int i0), .val (.int i1), .val (.int i2), .val (.int i3), .val (.int (2 : Int32)), .val (.int y1409), .val (.int y1418), .val (.int y1427), .val (.ref a1441), .unset, .unset, .unset] [(.ref a1441), (.ref a1464), (.ref a1464)] rfl ?_
    have hp1471 : ∀ c ∈ ([y1409, y1418] : List Int32), ¬ c < 0 ∧ ¬ (255 : Int32) < c := by
      intro c hc; simp only [List.mem_cons, List.not_mem_nil, or_false] at hc
      rcases hc with rfl | rfl
      · exact p1411.1
      · exact p1420.1
    have f1472 : n0 ≤ h1463.size := (Nat.le_trans (by rw [W1457.size]; exact (by rw [W1451.size]; exact (Nat.le_trans z0 E1444.1))) E1466.1)
    have f1473 : n0 ≤ h1456.size := (by rw [W1457.size]; exact (by rw [W1451.size]; exact (Nat.le_trans z0 E1444.1)))
    have g1474 : n0 ≤ a1464 := by rw [g1465]; exact f1473
    have f1475 : Arv Z h1463 a1441 k1442 .char (2 : Int32) ([(.int y1409), (.int y1418)]) (.int (0 : Int32)) := (f1459.ext E1466)
    have f1476 : Old Z n0 h1463 := ((((X00.ext E1444).wr W1451 g1447).wr W1457 g1447).ext E1466)
    refine own_callI C S1462 rfl (own_wd hw 9 rfl) (own_wd hw 10 rfl) (own_wd hw 11 rfl) (by decide) (StrChars.Road.backV (W := 1) C.2.2.2.2.2.2.2 (fun d hd => hw d (own_hws d hd)) (kI := 4) (own_wd hw 7 rfl) (cs := ([y1409, y1418] : List Int32)) (bs := (([y1409, y1418] : List Int32)).map (fun c => c.toInt8.toInt32)) (n := 2) g1474 f1472 x1467 f1470 f1469 f1475 (O2.ext f1476.2) P5 rfl rfl (by decide) (by decide) hp1471 rfl (by decide) (by decide)) (fun _ _ _ q => q.2.1) [(.ref a1441)] [(.ref a1464)] rfl own_pd25 rfl rfl rfl (Nat.le_of_ble_eq_true rfl) (by decide) (by decide) (by decide +kernel) ?_
    rintro T1487 h1488 v1489 L1490 S1491 ⟨rfl, -, K1477, x1478, f1479, t1480, k1481, g1482, g1483, g1484, f1485, f1486⟩
    replace S1491 : own_S p l e room_1 (s.setVm vm1230) m #[(.int i0), (.int i1), (.int i2), (.int i3)] below meth c n0 T1487 h1488 3 8 := S1491
    have f1492 : Arv Z h1488 t1480 k1481 .byte (2 : Int32) ([(.int y1409.toInt8.toInt32), (.int y1418.toInt8.toInt32)]) (.int 0) := f1486
    have hcd1493 : StrChars.Road.CodA ([y1409, y1418] : List Int32) 0 (2 : Int32) [(.int y1409.toInt8.toInt32), (.int y1418.toInt8.toInt32)] := StrChars.Road.codOf (cs := ([y1409, y1418] : List Int32)) (n := 2) rfl (fun c hc => (hp1471 c hc).2)
    show own_Go p e below _ T1487 (mkF m 100 #[.val (.int i0), .val (.int i1), .val (.int i2), .val (.int i3), .val (.int (2 : Int32)), .val (.int y1409), .val (.int y1418), .val (.int y1427), .val (.ref a1441), .unset, .unset, .unset] [(.ref a1464)])
    refine own_seg C S1491 [(100, .astore 9, 2)] (by decide +kernel) 102 #[.val (.int i0), .val (.int i1), .val (.int i2), .val (.int i3), .val (.int (2 : Int32)), .val (.int y1409), .val (.int y1418), .val (.int y1427), .val (.ref a1441), .val (.ref a1464), .unset, .unset] [] rfl ?_
    refine own_new C S1491 (own_wd hw 35 rfl) (own_wd hw 36 rfl) (own_wd hw 37 rfl) (by decide +kernel) (by decide) (by decide) ?_
    intro T1494 h1496 a1497 S1495 g1498 E1499 x1500 D1501
    have f1502 : Fld Z h1496 a1497 "com/example/nearfar_cache/nearfarcache/Namespace" "name" "Ljava/lang/String;" .null := D1501 (ty := (.object "java/lang/String")) (Or.inr (own_wd hw 112 rfl)) own_fd3
    refine own_seg C S1495 [(105, .dup, 1), (106, .aload 9, 2)] (by decide +kernel) 108 #[.val (.int i0), .val (.int i1), .val (.int i2), .val (.int i3), .val (.int (2 : Int32)), .val (.int y1409), .val (.int y1418), .val (.int y1427), .val (.ref a1441), .val (.ref a1464), .unset, .unset] [(.ref a1464), (.ref a1497), (.ref a1497)] rfl ?_
    have f1503 : Old Z n0 h1496 := ((f1476.keep K1477 (allS g1474 all0)).ext E1499)
    have f1504 : Exa Z h1496 a1464 "java/lang/String" := (Exa.ext E1499 x1478)
    have f1505 : Fld Z h1496 a1464 "java/lang/String" "value" "[B" (.ref t1480) := (Fld.ext E1499 f1485)
    have f1506 : Fld Z h1496 a1464 "java/lang/String" "coder" "B" (.int 0) := (Fld.ext E1499 f1479)
    have f1507 : Arv Z h1496 t1480 k1481 .byte (2 : Int32) ([(.int y1409.toInt8.toInt32), (.int y1418.toInt8.toInt32)]) (.int 0) := (f1492.ext E1499)
    have f1508 : n0 ≤ h1496.size := (Nat.le_trans (Nat.le_trans f1472 K1477.1) E1499.1)
    have f1509 : n0 ≤ h1488.size := (Nat.le_trans f1472 K1477.1)
    have g1510 : n0 ≤ a1497 := by rw [g1498]; exact f1509
    have f1519 : t1480 < h1496.size := (Nat.lt_of_lt_of_le f1492.lt E1499.1)
    have f1520 : a1464 < h1496.size := (Nat.lt_of_lt_of_le (Nat.lt_of_lt_of_le f1470.lt K1477.1) E1499.1)
    have f1521 : a1441 < h1496.size := (Nat.lt_of_lt_of_le (Nat.lt_of_lt_of_le (Nat.lt_of_lt_of_le (by rw [W1457.size]; exact (by rw [W1451.size]; exact f1446.lt)) E1466.1) K1477.1) E1499.1)
    have SW1522 : own_SW p l e room_1 s m #[(.int i0), (.int i1), (.int i2), (.int i3)] below meth c n0 Z own_EL "com/example/nearfar_cache/nearfarcache/redis/RedisKeysInvalidationChannelPinLaw" T1494 h1496 [a1441, a1464, t1480, a1497] 4 9 := rb1232 _ _ _ _ [] [a1441, a1464, t1480, a1497] S1495 (((((((Keep.refl _ _).ext E1444).wr W1451 (Or.inr (by rw [g1443]; exact (Nat.le_refl _)))).wr W1457 (Or.inr (by rw [g1443]; exact (Nat.le_refl _)))).ext E1466).trans K1477 (allS (Or.inr (by rw [g1465]; exact (by rw [W1457.size]; exact (by rw [W1451.size]; exact (Nat.le_trans (Nat.le_refl _) E1444.1))))) all0)).ext E1499) all0 (allS ⟨(by rw [g1443]; exact (Nat.le_refl _)), f1521⟩ (allS ⟨(by rw [g1465]; exact (by rw [W1457.size]; exact (by rw [W1451.size]; exact (Nat.le_trans (Nat.le_refl _) E1444.1)))), f1520⟩ (allS ⟨(Nat.le_trans (Nat.le_trans (by rw [W1457.size]; exact (by rw [W1451.size]; exact (Nat.le_trans (Nat.le_refl _) E1444.1))) E1466.1) g1483), f1519⟩ (allS ⟨(by rw [g1498]; exact (Nat.le_trans (Nat.le_trans (by rw [W1457.size]; exact (by rw [W1451.size]; exact (Nat.le_trans (Nat.le_refl _) E1444.1))) E1466.1) K1477.1)), x1500.lt⟩ all0))))
    refine own_callIW CW SW1522 rfl (own_wd hw 38 rfl) (own_wd hw 39 rfl) (own_wd hw 37 rfl) (own_wd hw 40 rfl) (by decide) (own_ns l Z a0 hw hEL wS G1 G3 a1497 a1464 t1480 k1481 (2 : Int32) ([(.int y1409.toInt8.toInt32), (.int y1418.toInt8.toInt32)]) ([y1409, y1418] : List Int32) h1496 n0 f1508 g1510 f1503 f1504 f1505 f1506 f1507 x1500 f1502 O2 O4 P5 rG3 hcd1493 hp1471 (Nat.le_of_ble_eq_true rfl) (by simp) hne1460 (by simp)) all0 1 (by decide) (by decide) [(.ref a1464)] [(.ref a1497)] rfl own_pd7 rfl rfl rfl (Nat.le_of_ble_eq_true rfl) (by decide) (by decide) (by decide +kernel) ?_
    rintro T1523 h1524 v1525 SW1526 hg1527 ⟨rfl, K1511, f1512, f1513⟩
    replace SW1526 : own_SW p l e room_1 s m #[(.int i0), (.int i1), (.int i2), (.int i3)] below meth c n0 Z own_EL "com/example/nearfar_cache/nearfarcache/redis/RedisKeysInvalidationChannelPinLaw" T1523 h1524 [a1441, a1464, t1480, a1497] 8 61 := SW1526
    show own_Go p e below _ T1523 (mkF m 111 #[.val (.int i0), .val (.int i1), .val (.int i2), .val (.int i3), .val (.int (2 : Int32)), .val (.int y1409), .val (.int y1418), .val (.int y1427), .val (.ref a1441), .val (.ref a1464), .unset, .unset] [(.ref a1497)])
    refine own_lift CW SW1526 ?_
    intro vm1528 C S1529 rb1530
    refine own_seg C S1529 [(111, .astore 10, 2), (113, .aload 10, 2)] (by decide +kernel) 115 #[.val (.int i0), .val (.int i1), .val (.int i2), .val (.int i3), .val (.int (2 : Int32)), .val (.int y1409), .val (.int y1418), .val (.int y1427), .val (.ref a1441), .val (.ref a1464), .val (.ref a1497), .unset] [(.ref a1497)] rfl ?_
    have f1531 : Old Z n0 h1524 := (f1503.keep K1511 (allS g1510 all0))
    have f1532 : Exa Z h1524 a1464 "java/lang/String" := (f1504.keep K1511)
    have f1533 : a1464 < h1488.size := (Nat.lt_of_lt_of_le f1470.lt K1477.1)
    have n1534 : a1464 ≠ a1497 := by rw [g1498]; exact Nat.ne_of_lt f1533
    have f1535 : Fld Z h1524 a1464 "java/lang/String" "value" "[B" (.ref t1480) := (f1505.keep K1511 (ninS n1534 nin0))
    have f1536 : Fld Z h1524 a1464 "java/lang/String" "coder" "B" (.int 0) := (f1506.keep K1511 (ninS n1534 nin0))
    have n1537 : t1480 ≠ a1497 := by rw [g1498]; exact Nat.ne_of_lt f1492.lt
    have f1538 : Arv Z h1524 t1480 k1481 .byte (2 : Int32) ([(.int y1409.toInt8.toInt32), (.int y1418.toInt8.toInt32)]) (.int 0) := (f1507.keep K1511 (ninS n1537 nin0))
    have f1539 : n0 ≤ h1524.size := (Nat.le_trans f1508 K1511.1)
    have SW1555 : own_SW p l e room_1 s m #[(.int i0), (.int i1), (.int i2), (.int i3)] below meth c n0 Z own_EL "com/example/nearfar_cache/nearfarcache/redis/RedisKeysInvalidationChannelPinLaw" T1523 h1524 [a1441, a1464, t1480, a1497] 8 61 := rb1530 _ _ _ _ [] [] S1529 (Keep.refl _ _) all0 all0
    refine own_callSW CW SW1555 (own_wd hw 113 rfl) (own_wd hw 114 rfl) (own_wd hw 115 rfl) (own_wd hw 116 rfl) (by decide) (own_ic2 l Z a0 hw hEL wS G1 G3 a1497 a1464 t1480 k1481 y1409 y1418 h1524 n0 f1539 f1531 f1512 f1513 f1532 f1535 f1536 f1538 O2 O4 P5 rG3 p1411.1 p1420.1) all0 0 (by decide) (by decide) [(.ref a1497)] [] rfl own_pd26 rfl rfl rfl (Nat.le_of_ble_eq_true rfl) (by decide) (by decide) (by decide +kernel) ?_
    rintro T1556 h1557 v1558 SW1559 hg1560 ⟨a1540, a1541, k1542, rfl, g1543, g1544, K1545, f1546, f1547, f1548, f1549⟩
    replace SW1559 : own_SW p l e room_1 s m #[(.int i0), (.int i1), (.int i2), (.int i3)] below meth c n0 Z own_EL "com/example/nearfar_cache/nearfarcache/redis/RedisKeysInvalidationChannelPinLaw" T1556 h1557 [a1441, a1464, t1480, a1497] 17 315 := SW1559
    show own_Go p e below _ T1556 (mkF m 118 #[.val (.int i0), .val (.int i1), .val (.int i2), .val (.int i3), .val (.int (2 : Int32)), .val (.int y1409), .val (.int y1418), .val (.int y1427), .val (.ref a1441), .val (.ref a1464), .val (.ref a1497), .unset] [(.ref a1540)])
    have hp1561 : ∀ c ∈ ([(110 : Int32), (101 : Int32), (97 : Int32), (114 : Int32), (102 : Int32), (97 : Int32), (114 : Int32), (58 : Int32), (105 : Int32), (110 : Int32), (118 : Int32), (97 : Int32), (108 : Int32), (105 : Int32), (100 : Int32), (97 : Int32), (116 : Int32), (105 : Int32), (111 : Int32), (110 : Int32), (115 : Int32), (58 : Int32), y1409, y1418] : List Int32), ¬ c < 0 ∧ ¬ (255 : Int32) < c := by
      intro c hc; simp only [List.mem_cons, List.not_mem_nil, or_false] at hc
      rcases hc with rfl | rfl | rfl | rfl | rfl | rfl | rfl | rfl | rfl | rfl | rfl | rfl | rfl | rfl | rfl | rfl | rfl | rfl | rfl | rfl | rfl | rfl | rfl | rfl
      · exact (by decide)
      · exact (by decide)
      · exact (by decide)
      · exact (by decide)
      · exact (by decide)
      · exact (by decide)
      · exact (by decide)
      · exact (by decide)
      · exact (by decide)
      · exact (by decide)
      · exact (by decide)
      · exact (by decide)
      · exact (by decide)
      · exact (by decide)
      · exact (by decide)
      · exact (by decide)
      · exact (by decide)
      · exact (by decide)
      · exact (by decide)
      · exact (by decide)
      · exact (by decide)
      · exact (by decide)
      · exact p1411.1
      · exact p1420.1
    have hcd1562 : StrChars.Road.CodA ([(110 : Int32), (101 : Int32), (97 : Int32), (114 : Int32), (102 : Int32), (97 : Int32), (114 : Int32), (58 : Int32), (105 : Int32), (110 : Int32), (118 : Int32), (97 : Int32), (108 : Int32), (105 : Int32), (100 : Int32), (97 : Int32), (116 : Int32), (105 : Int32), (111 : Int32), (110 : Int32), (115 : Int32), (58 : Int32), y1409, y1418] : List Int32) 0 (24 : Int32) [(.int (110 : Int32)), (.int (101 : Int32)), (.int (97 : Int32)), (.int (114 : Int32)), (.int (102 : Int32)), (.int (97 : Int32)), (.int (114 : Int32)), (.int (58 : Int32)), (.int (105 : Int32)), (.int (110 : Int32)), (.int (118 : Int32)), (.int (97 : Int32)), (.int (108 : Int32)), (.int (105 : Int32)), (.int (100 : Int32)), (.int (97 : Int32)), (.int (116 : Int32)), (.int (105 : Int32)), (.int (111 : Int32)), (.int (110 : Int32)), (.int (115 : Int32)), (.int (58 : Int32)), (.int y1409.toInt8.toInt32), (.int y1418.toInt8.toInt32)] := StrChars.Road.codOf (cs := ([(110 : Int32), (101 : Int32), (97 : Int32), (114 : Int32), (102 : Int32), (97 : Int32), (114 : Int32), (58 : Int32), (105 : Int32), (110 : Int32), (118 : Int32), (97 : Int32), (108 : Int32), (105 : Int32), (100 : Int32), (97 : Int32), (116 : Int32), (105 : Int32), (111 : Int32), (110 : Int32), (115 : Int32), (58 : Int32), y1409, y1418] : List Int32)) (n := 24) rfl (fun c hc => (hp1561 c hc).2)
    refine own_lift CW SW1559 ?_
    intro vm1563 C S1564 rb1565
    refine own_seg C S1564 [(118, .astore 11, 2), (120, .aload 11, 2)] (by decide +kernel) 122 #[.val (.int i0), .val (.int i1), .val (.int i2), .val (.int i3), .val (.int (2 : Int32)), .val (.int y1409), .val (.int y1418), .val (.int y1427), .val (.ref a1441), .val (.ref a1464), .val (.ref a1497), .val (.ref a1540)] [(.ref a1540)] rfl ?_
    have f1566 : Old Z n0 h1557 := (f1531.keep K1545 all0)
    refine own_callV C S1564 (own_wd hw 238 rfl) (own_wd hw 75 rfl) (own_wd hw 77 rfl) (y' := ⟨"java/lang/String", "length", "()I"⟩) rfl (own_wd hw 77 rfl) (own_wd hw 76 rfl) (by decide) (Q := (fun v h' L => v = some (.int (Int32.ofNat (([(110 : Int32), (101 : Int32), (97 : Int32), (114 : Int32), (102 : Int32), (97 : Int32), (114 : Int32), (58 : Int32), (105 : Int32), (110 : Int32), (118 : Int32), (97 : Int32), (108 : Int32), (105 : Int32), (100 : Int32), (97 : Int32), (116 : Int32), (105 : Int32), (111 : Int32), (110 : Int32), (115 : Int32), (58 : Int32), y1409, y1418] : List Int32)).length)) ∧ L = [] ∧ h' = h1557)) (StrChars.Road.lenW (W := 0) C.2.2.2.2.2.2.2 (fun d hd => hw d (own_hln d hd)) (kI := 4) (own_wd hw 7 rfl) f1546 f1548 f1547 f1549 hcd1562 (own_up _ hp1561) (O2.ext f1566.2) P5 (Nat.le_of_ble_eq_true rfl) (by decide) (by decide)) (fun _ _ L q => by rw [q.2.1]; exact Fr.nil _) f1546 [] [] rfl own_pd4 rfl rfl rfl (Nat.le_of_ble_eq_true rfl) (by decide) (by decide) (by decide +kernel) ?_
    rintro T1568 h1569 v1570 L1571 S1572 ⟨rfl, -, e1567⟩
    replace S1572 : own_S p l e room_1 (s.setVm vm1563) m #[(.int i0), (.int i1), (.int i2), (.int i3)] below meth c n0 T1568 h1569 17 315 := S1572
    rw [e1567] at S1572; clear e1567
    show own_Go p e below _ T1568 (mkF m 125 #[.val (.int i0), .val (.int i1), .val (.int i2), .val (.int i3), .val (.int (2 : Int32)), .val (.int y1409), .val (.int y1418), .val (.int y1427), .val (.ref a1441), .val (.ref a1464), .val (.ref a1497), .val (.ref a1540)] [(.int (24 : Int32))])
    refine own_seg C S1572 [(125, .bipush 22, 2), (127, .iload 4, 2), (129, .iadd, 1)] (by decide +kernel) 130 #[.val (.int i0), .val (.int i1), .val (.int i2), .val (.int i3), .val (.int (2 : Int32)), .val (.int y1409), .val (.int y1418), .val (.int y1427), .val (.ref a1441), .val (.ref a1464), .val (.ref a1497), .val (.ref a1540)] [(.int ((22 : Int32) + (2 : Int32))), (.int (24 : Int32))] rfl ?_
    refine own_icmp C S1572 (q := .eq) (o := 5) (by decide +kernel) 135 (by decide) (by decide) (fun (q1573 : (24 : Int32) = ((22 : Int32) + (2 : Int32))) => ?_) (fun (hq : ¬ (24 : Int32) = ((22 : Int32) + (2 : Int32))) => False.elim (by revert hq; decide))
    refine own_seg C S1572 [(135, .aload 11, 2)] (by decide +kernel) 137 #[.val (.int i0), .val (.int i1), .val (.int i2), .val (.int i3), .val (.int (2 : Int32)), .val (.int y1409), .val (.int y1418), .val (.int y1427), .val (.ref a1441), .val (.ref a1464), .val (.ref a1497), .val (.ref a1540)] [(.ref a1540)] rfl ?_
    have f1574 : n0 ≤ h1557.size := (Nat.le_trans f1539 K1545.1)
    refine own_callS C S1572 (own_wd hw 239 rfl) (own_wd hw 240 rfl) (own_wd hw 3 rfl) (own_wd hw 241 rfl) (by decide) (own_Met.pay (own_hpx l Z a0 hw G1 G3 a1540 a1541 k1542 (24 : Int32) ([(.int (110 : Int32)), (.int (101 : Int32)), (.int (97 : Int32)), (.int (114 : Int32)), (.int (102 : Int32)), (.int (97 : Int32)), (.int (114 : Int32)), (.int (58 : Int32)), (.int (105 : Int32)), (.int (110 : Int32)), (.int (118 : Int32)), (.int (97 : Int32)), (.int (108 : Int32)), (.int (105 : Int32)), (.int (100 : Int32)), (.int (97 : Int32)), (.int (116 : Int32)), (.int (105 : Int32)), (.int (111 : Int32)), (.int (110 : Int32)), (.int (115 : Int32)), (.int (58 : Int32)), (.int y1409.toInt8.toInt32), (.int y1418.toInt8.toInt32)]) ([(110 : Int32), (101 : Int32), (97 : Int32), (114 : Int32), (102 : Int32), (97 : Int32), (114 : Int32), (58 : Int32), (105 : Int32), (110 : Int32), (118 : Int32), (97 : Int32), (108 : Int32), (105 : Int32), (100 : Int32), (97 : Int32), (116 : Int32), (105 : Int32), (111 : Int32), (110 : Int32), (115 : Int32), (58 : Int32), y1409, y1418] : List Int32) h1557 n0 f1574 f1566 f1546 f1548 f1547 f1549 O2 O4 P5 rG3 hcd1562 hp1561 (Nat.le_of_ble_eq_true rfl) (Nat.le_of_ble_eq_true rfl) (by decide) rfl rfl rfl rfl rfl rfl rfl rfl rfl rfl rfl rfl rfl rfl rfl rfl rfl rfl rfl rfl rfl rfl) C 0 (own_wd hw 241 rfl) (own_wd hw 3 rfl) (by decide) (by decide)) (fun _ _ _ q => q.2) [(.ref a1540)] [] rfl own_pd27 rfl rfl rfl (Nat.le_of_ble_eq_true rfl) (by decide) (by decide) (by decide +kernel) ?_
    rintro T1576 h1577 v1578 L1579 S1580 ⟨⟨rfl, e1575⟩, -⟩
    replace S1580 : own_S p l e room_1 (s.setVm vm1563) m #[(.int i0), (.int i1), (.int i2), (.int i3)] below meth c n0 T1576 h1577 17 315 := S1580
    rw [e1575] at S1580; clear e1575
    show own_Go p e below _ T1576 (mkF m 140 #[.val (.int i0), .val (.int i1), .val (.int i2), .val (.int i3), .val (.int (2 : Int32)), .val (.int y1409), .val (.int y1418), .val (.int y1427), .val (.ref a1441), .val (.ref a1464), .val (.ref a1497), .val (.ref a1540)] [(.int (1 : Int32))])
    refine own_if C S1580 (q := .ne) (o := 5) (by decide +kernel) 145 (by decide) (by decide) (fun (q1581 : ¬ (1 : Int32) = (0 : Int32)) => ?_) (fun (hq : (1 : Int32) = (0 : Int32)) => False.elim (by revert hq; decide))
    refine own_seg C S1580 [(145, .aload 11, 2), (147, .bipush 22, 2)] (by decide +kernel) 149 #[.val (.int i0), .val (.int i1), .val (.int i2), .val (.int i3), .val (.int (2 : Int32)), .val (.int y1409), .val (.int y1418), .val (.int y1427), .val (.ref a1441), .val (.ref a1464), .val (.ref a1497), .val (.ref a1540)] [(.int (22 : Int32)), (.ref a1540)] rfl ?_
    refine own_callV C S1580 (own_wd hw 242 rfl) (own_wd hw 243 rfl) (own_wd hw 245 rfl) (y' := ⟨"java/lang/String", "charAt", "(I)C"⟩) rfl (own_wd hw 245 rfl) (own_wd hw 244 rfl) (by decide) (Q := (fun v h' L => v = some (.int ((([(110 : Int32), (101 : Int32), (97 : Int32), (114 : Int32), (102 : Int32), (97 : Int32), (114 : Int32), (58 : Int32), (105 : Int32), (110 : Int32), (118 : Int32), (97 : Int32), (108 : Int32), (105 : Int32), (100 : Int32), (97 : Int32), (116 : Int32), (105 : Int32), (111 : Int32), (110 : Int32), (115 : Int32), (58 : Int32), y1409, y1418] : List Int32)).getD 22 0)) ∧ L = [] ∧ h' = h1557)) (StrChars.Road.chN (W := 0) C.2.2.2.2.2.2.2 (fun d hd => hw d (own_hch d hd)) (kI := 4) (own_wd hw 7 rfl) f1546 f1548 f1547 f1549 hcd1562 (own_up _ hp1561) (O2.ext f1566.2) P5 (O4.ext f1566.2) rG3 (Nat.le_of_ble_eq_true rfl) (i := 22) (Nat.le_of_ble_eq_true rfl) rfl (by decide) (by decide)) (fun _ _ L q => by rw [q.2.1]; exact Fr.nil _) f1546 [(.int (22 : Int32))] [] rfl own_pd24 rfl rfl rfl (Nat.le_of_ble_eq_true rfl) (by decide) (by decide) (by decide +kernel) ?_
    rintro T1583 h1584 v1585 L1586 S1587 ⟨rfl, -, e1582⟩
    replace S1587 : own_S p l e room_1 (s.setVm vm1563) m #[(.int i0), (.int i1), (.int i2), (.int i3)] below meth c n0 T1583 h1584 17 315 := S1587
    rw [e1582] at S1587; clear e1582
    show own_Go p e below _ T1583 (mkF m 152 #[.val (.int i0), .val (.int i1), .val (.int i2), .val (.int i3), .val (.int (2 : Int32)), .val (.int y1409), .val (.int y1418), .val (.int y1427), .val (.ref a1441), .val (.ref a1464), .val (.ref a1497), .val (.ref a1540)] [(.int y1409)])
    refine own_seg C S1587 [(152, .iload 5, 2)] (by decide +kernel) 154 #[.val (.int i0), .val (.int i1), .val (.int i2), .val (.int i3), .val (.int (2 : Int32)), .val (.int y1409), .val (.int y1418), .val (.int y1427), .val (.ref a1441), .val (.ref a1464), .val (.ref a1497), .val (.ref a1540)] [(.int y1409), (.int y1409)] rfl ?_
    refine own_icmp C S1587 (q := .eq) (o := 5) (by decide +kernel) 159 (by decide) (by decide) (fun (q1588 : y1409 = y1409) => ?_) (fun (hq : ¬ y1409 = y1409) => False.elim (hq rfl))
    refine own_seg C S1587 [(159, .iload 4, 2), (161, .iconst 2, 1)] (by decide +kernel) 162 #[.val (.int i0), .val (.int i1), .val (.int i2), .val (.int i3), .val (.int (2 : Int32)), .val (.int y1409), .val (.int y1418), .val (.int y1427), .val (.ref a1441), .val (.ref a1464), .val (.ref a1497), .val (.ref a1540)] [(.int (2 : Int32)), (.int (2 : Int32))] rfl ?_
    refine own_icmp C S1587 (q := .lt) (o := 17) (by decide +kernel) 179 (by decide) (by decide) (fun (hq : (2 : Int32) < (2 : Int32)) => False.elim (by revert hq; decide)) (fun (q1589 : ¬ (2 : Int32) < (2 : Int32)) => ?_)
    refine own_seg C S1587 [(165, .aload 11, 2), (167, .bipush 23, 2)] (by decide +kernel) 169 #[.val (.int i0), .val (.int i1), .val (.int i2), .val (.int i3), .val (.int (2 : Int32)), .val (.int y1409), .val (.int y1418), .val (.int y1427), .val (.ref a1441), .val (.ref a1464), .val (.ref a1497), .val (.ref a1540)] [(.int (23 : Int32)), (.ref a1540)] rfl ?_
    refine own_callV C S1587 (own_wd hw 242 rfl) (own_wd hw 243 rfl) (own_wd hw 245 rfl) (y' := ⟨"java/lang/String", "charAt", "(I)C"⟩) rfl (own_wd hw 245 rfl) (own_wd hw 244 rfl) (by decide) (Q := (fun v h' L => v = some (.int ((([(110 : Int32), (101 : Int32), (97 : Int32), (114 : Int32), (102 : Int32), (97 : Int32), (114 : Int32), (58 : Int32), (105 : Int32), (110 : Int32), (118 : Int32), (97 : Int32), (108 : Int32), (105 : Int32), (100 : Int32), (97 : Int32), (116 : Int32), (105 : Int32), (111 : Int32), (110 : Int32), (115 : Int32), (58 : Int32), y1409, y1418] : List Int32)).getD 23 0)) ∧ L = [] ∧ h' = h1557)) (StrChars.Road.chN (W := 0) C.2.2.2.2.2.2.2 (fun d hd => hw d (own_hch d hd)) (kI := 4) (own_wd hw 7 rfl) f1546 f1548 f1547 f1549 hcd1562 (own_up _ hp1561) (O2.ext f1566.2) P5 (O4.ext f1566.2) rG3 (Nat.le_of_ble_eq_true rfl) (i := 23) (Nat.le_of_ble_eq_true rfl) rfl (by decide) (by decide)) (fun _ _ L q => by rw [q.2.1]; exact Fr.nil _) f1546 [(.int (23 : Int32))] [] rfl own_pd24 rfl rfl rfl (Nat.le_of_ble_eq_true rfl) (by decide) (by decide) (by decide +kernel) ?_
    rintro T1591 h1592 v1593 L1594 S1595 ⟨rfl, -, e1590⟩
    replace S1595 : own_S p l e room_1 (s.setVm vm1563) m #[(.int i0), (.int i1), (.int i2), (.int i3)] below meth c n0 T1591 h1592 17 315 := S1595
    rw [e1590] at S1595; clear e1590
    show own_Go p e below _ T1591 (mkF m 172 #[.val (.int i0), .val (.int i1), .val (.int i2), .val (.int i3), .val (.int (2 : Int32)), .val (.int y1409), .val (.int y1418), .val (.int y1427), .val (.ref a1441), .val (.ref a1464), .val (.ref a1497), .val (.ref a1540)] [(.int y1418)])
    refine own_seg C S1595 [(172, .iload 6, 2)] (by decide +kernel) 174 #[.val (.int i0), .val (.int i1), .val (.int i2), .val (.int i3), .val (.int (2 : Int32)), .val (.int y1409), .val (.int y1418), .val (.int y1427), .val (.ref a1441), .val (.ref a1464), .val (.ref a1497), .val (.ref a1540)] [(.int y1418), (.int y1418)] rfl ?_
    refine own_icmp C S1595 (q := .eq) (o := 5) (by decide +kernel) 179 (by decide) (by decide) (fun (q1596 : y1418 = y1418) => ?_) (fun (hq : ¬ y1418 = y1418) => False.elim (hq rfl))
    refine own_seg C S1595 [(179, .iload 4, 2), (181, .iconst 3, 1)] (by decide +kernel) 182 #[.val (.int i0), .val (.int i1), .val (.int i2), .val (.int i3), .val (.int (2 : Int32)), .val (.int y1409), .val (.int y1418), .val (.int y1427), .val (.ref a1441), .val (.ref a1464), .val (.ref a1497), .val (.ref a1540)] [(.int (3 : Int32)), (.int (2 : Int32))] rfl ?_
    refine own_icmp C S1595 (q := .lt) (o := 17) (by decide +kernel) 199 (by decide) (by decide) (fun (q1597 : (2 : Int32) < (3 : Int32)) => ?_) (fun (hq : ¬ (2 : Int32) < (3 : Int32)) => False.elim (by revert hq; decide))
    refine own_seg C S1595 [(199, .iconst 1, 1)] (by decide +kernel) 200 #[.val (.int i0), .val (.int i1), .val (.int i2), .val (.int i3), .val (.int (2 : Int32)), .val (.int y1409), .val (.int y1418), .val (.int y1427), .val (.ref a1441), .val (.ref a1464), .val (.ref a1497), .val (.ref a1540)] [(.int (1 : Int32))] rfl ?_
    have SW1598 : own_SW p l e room_1 s m #[(.int i0), (.int i1), (.int i2), (.int i3)] below meth c n0 Z own_EL "com/example/nearfar_cache/nearfarcache/redis/RedisKeysInvalidationChannelPinLaw" T1591 h1557 [a1441, a1464, t1480, a1497] 17 315 := rb1565 _ _ _ _ [] [] S1595 (Keep.refl _ _) all0 all0
    refine own_retZW CW SW1598 (by decide +kernel) (by decide) (by decide) (by decide) ?_
    rfl
  · rw [show ((1 : Int32) + ((i0 &&& 2147483647) % (3 : Int32))) = (3 : Int32) from qn]
    refine own_seg C S1231 [(10, .iload_n 1, 1)] (by decide +kernel) 11 #[.val (.int i0), .val (.int i1), .val (.int i2), .val (.int i3), .val (.int (3 : Int32)), .unset, .unset, .unset, .unset, .unset, .unset, .unset] [(.int i1)] rfl ?_
    refine own_callS C S1231 (own_wd hw 1 rfl) (own_wd hw 2 rfl) (own_wd hw 3 rfl) (own_wd hw 4 rfl) (by decide) (own_Met.pay (own_ch l Z a0 hw i1 h0 n0 z0) C 0 (own_wd hw 4 rfl) (own_wd hw 3 rfl) (by decide) (by decide)) (fun _ _ _ q => q.2) [(.int i1)] [] rfl own_pd24 rfl rfl rfl (Nat.le_of_ble_eq_true rfl) (by decide) (by decide) (by decide +kernel) ?_
    rintro T1603 h1604 v1605 L1606 S1607 ⟨⟨y1599, rfl, e1600, p1601, p1602⟩, -⟩
    replace S1607 : own_S p l e room_1 (s.setVm vm1230) m #[(.int i0), (.int i1), (.int i2), (.int i3)] below meth c n0 T1603 h1604 0 0 := S1607
    rw [e1600] at S1607; clear e1600
    show own_Go p e below _ T1603 (mkF m 14 #[.val (.int i0), .val (.int i1), .val (.int i2), .val (.int i3), .val (.int (3 : Int32)), .unset, .unset, .unset, .unset, .unset, .unset, .unset] [(.int y1599)])
    refine own_seg C S1607 [(14, .istore 5, 2), (16, .iload_n 2, 1)] (by decide +kernel) 17 #[.val (.int i0), .val (.int i1), .val (.int i2), .val (.int i3), .val (.int (3 : Int32)), .val (.int y1599), .unset, .unset, .unset, .unset, .unset, .unset] [(.int i2)] rfl ?_
    refine own_callS C S1607 (own_wd hw 1 rfl) (own_wd hw 2 rfl) (own_wd hw 3 rfl) (own_wd hw 4 rfl) (by decide) (own_Met.pay (own_ch l Z a0 hw i2 h0 n0 z0) C 0 (own_wd hw 4 rfl) (own_wd hw 3 rfl) (by decide) (by decide)) (fun _ _ _ q => q.2) [(.int i2)] [] rfl own_pd24 rfl rfl rfl (Nat.le_of_ble_eq_true rfl) (by decide) (by decide) (by decide +kernel) ?_
    rintro T1612 h1613 v1614 L1615 S1616 ⟨⟨y1608, rfl, e1609, p1610, p1611⟩, -⟩
    replace S1616 : own_S p l e room_1 (s.setVm vm1230) m #[(.int i0), (.int i1), (.int i2), (.int i3)] below meth c n0 T1612 h1613 0 0 := S1616
    rw [e1609] at S1616; clear e1609
    show own_Go p e below _ T1612 (mkF m 20 #[.val (.int i0), .val (.int i1), .val (.int i2), .val (.int i3), .val (.int (3 : Int32)), .val (.int y1599), .unset, .unset, .unset, .unset, .unset, .unset] [(.int y1608)])
    refine own_seg C S1616 [(20, .istore 6, 2), (22, .iload_n 3, 1)] (by decide +kernel) 23 #[.val (.int i0), .val (.int i1), .val (.int i2), .val (.int i3), .val (.int (3 : Int32)), .val (.int y1599), .val (.int y1608), .unset, .unset, .unset, .unset, .unset] [(.int i3)] rfl ?_
    refine own_callS C S1616 (own_wd hw 1 rfl) (own_wd hw 2 rfl) (own_wd hw 3 rfl) (own_wd hw 4 rfl) (by decide) (own_Met.pay (own_ch l Z a0 hw i3 h0 n0 z0) C 0 (own_wd hw 4 rfl) (own_wd hw 3 rfl) (by decide) (by decide)) (fun _ _ _ q => q.2) [(.int i3)] [] rfl own_pd24 rfl rfl rfl (Nat.le_of_ble_eq_true rfl) (by decide) (by decide) (by decide +kernel) ?_
    rintro T1621 h1622 v1623 L1624 S1625 ⟨⟨y1617, rfl, e1618, p1619, p1620⟩, -⟩
    replace S1625 : own_S p l e room_1 (s.setVm vm1230) m #[(.int i0), (.int i1), (.int i2), (.int i3)] below meth c n0 T1621 h1622 0 0 := S1625
    rw [e1618] at S1625; clear e1618
    show own_Go p e below _ T1621 (mkF m 26 #[.val (.int i0), .val (.int i1), .val (.int i2), .val (.int i3), .val (.int (3 : Int32)), .val (.int y1599), .val (.int y1608), .unset, .unset, .unset, .unset, .unset] [(.int y1617)])
    refine own_seg C S1625 [(26, .istore 7, 2), (28, .iload 4, 2), (30, .iconst 1, 1)] (by decide +kernel) 31 #[.val (.int i0), .val (.int i1), .val (.int i2), .val (.int i3), .val (.int (3 : Int32)), .val (.int y1599), .val (.int y1608), .val (.int y1617), .unset, .unset, .unset, .unset] [(.int (1 : Int32)), (.int (3 : Int32))] rfl ?_
    refine own_icmp C S1625 (q := .ne) (o := 16) (by decide +kernel) 47 (by decide) (by decide) (fun (q1626 : ¬ (3 : Int32) = (1 : Int32)) => ?_) (fun (hq : (3 : Int32) = (1 : Int32)) => False.elim (by revert hq; decide))
    refine own_seg C S1625 [(47, .iload 4, 2), (49, .iconst 2, 1)] (by decide +kernel) 50 #[.val (.int i0), .val (.int i1), .val (.int i2), .val (.int i3), .val (.int (3 : Int32)), .val (.int y1599), .val (.int y1608), .val (.int y1617), .unset, .unset, .unset, .unset] [(.int (2 : Int32)), (.int (3 : Int32))] rfl ?_
    refine own_icmp C S1625 (q := .ne) (o := 21) (by decide +kernel) 71 (by decide) (by decide) (fun (q1627 : ¬ (3 : Int32) = (2 : Int32)) => ?_) (fun (hq : (3 : Int32) = (2 : Int32)) => False.elim (by revert hq; decide))
    refine own_seg C S1625 [(71, .iconst 3, 1)] (by decide +kernel) 72 #[.val (.int i0), .val (.int i1), .val (.int i2), .val (.int i3), .val (.int (3 : Int32)), .val (.int y1599), .val (.int y1608), .val (.int y1617), .unset, .unset, .unset, .unset] [(.int (3 : Int32))] rfl ?_
    refine own_newP C S1625 (aty := .char) (own_wd hw 5 rfl) (by decide +kernel) (by decide) 3 (by decide) (by decide) (by decide) (by decide) ?_
    intro T1628 h1630 a1631 k1632 S1629 g1633 E1634 f1635
    have f1636 : Arv Z h1630 a1631 k1632 .char (3 : Int32) ([(.int (0 : Int32)), (.int (0 : Int32)), (.int (0 : Int32))]) (.int (0 : Int32)) := Arv.pad f1635 (pad_rep [] (.int (0 : Int32)) 3)
    refine own_seg C S1629 [(74, .dup, 1), (75, .iconst 0, 1), (76, .iload 5, 2)] (by decide +kernel) 78 #[.val (.int i0), .val (.int i1), .val (.int i2), .val (.int i3), .val (.int (3 : Int32)), .val (.int y1599), .val (.int y1608), .val (.int y1617), .unset, .unset, .unset, .unset] [(.int y1599), (.int (0 : Int32)), (.ref a1631), (.ref a1631)] rfl ?_
    have g1637 : n0 ≤ a1631 := by rw [g1633]; exact z0
    refine own_castore C S1629 f1636 ⟨(by decide), (by decide)⟩ 0 rfl (Nat.le_of_ble_eq_true rfl) y1599 p1601.2.1 g1637 (by decide +kernel) ?_
    intro T1638 h1640 S1639 W1641 f1642
    have f1643 : Arv Z h1640 a1631 k1632 .char (3 : Int32) ([(.int y1599), (.int (0 : Int32)), (.int (0 : Int32))]) (.int (0 : Int32)) := f1642
    refine own_seg C S1639 [(79, .dup, 1), (80, .iconst 1, 1), (81, .iload 6, 2)] (by decide +kernel) 83 #[.val (.int i0), .val (.int i1), .val (.int i2), .val (.int i3), .val (.int (3 : Int32)), .val (.int y1599), .val (.int y1608), .val (.int y1617), .unset, .unset, .unset, .unset] [(.int y1608), (.int (1 : Int32)), (.ref a1631), (.ref a1631)] rfl ?_
    refine own_castore C S1639 f1643 ⟨(by decide), (by decide)⟩ 1 rfl (Nat.le_of_ble_eq_true rfl) y1608 p1610.2.1 g1637 (by decide +kernel) ?_
    intro T1644 h1646 S1645 W1647 f1648
    have f1649 : Arv Z h1646 a1631 k1632 .char (3 : Int32) ([(.int y1599), (.int y1608), (.int (0 : Int32))]) (.int (0 : Int32)) := f1648
    refine own_seg C S1645 [(84, .dup, 1), (85, .iconst 2, 1), (86, .iload 7, 2)] (by decide +kernel) 88 #[.val (.int i0), .val (.int i1), .val (.int i2), .val (.int i3), .val (.int (3 : Int32)), .val (.int y1599), .val (.int y1608), .val (.int y1617), .unset, .unset, .unset, .unset] [(.int y1617), (.int (2 : Int32)), (.ref a1631), (.ref a1631)] rfl ?_
    refine own_castore C S1645 f1649 ⟨(by decide), (by decide)⟩ 2 rfl (Nat.le_of_ble_eq_true rfl) y1617 p1619.2.1 g1637 (by decide +kernel) ?_
    intro T1650 h1652 S1651 W1653 f1654
    have f1655 : Arv Z h1652 a1631 k1632 .char (3 : Int32) ([(.int y1599), (.int y1608), (.int y1617)]) (.int (0 : Int32)) := f1654
    have hne1656 : ∀ c ∈ ([y1599, y1608, y1617] : List Int32), ¬ c = (58 : Int32) := by
      intro c hc; simp only [List.mem_cons, List.not_mem_nil, or_false] at hc
      rcases hc with rfl | rfl | rfl
      · exact p1602
      · exact p1611
      · exact p1620
    refine own_seg C S1651 [(89, .astore 8, 2)] (by decide +kernel) 91 #[.val (.int i0), .val (.int i1), .val (.int i2), .val (.int i3), .val (.int (3 : Int32)), .val (.int y1599), .val (.int y1608), .val (.int y1617), .val (.ref a1631), .unset, .unset, .unset] [] rfl ?_
    refine own_new C S1651 (own_wd hw 6 rfl) (own_wd hw 7 rfl) (own_wd hw 8 rfl) (by decide +kernel) (by decide) (by decide) ?_
    intro T1657 h1659 a1660 S1658 g1661 E1662 x1663 D1664
    have f1665 : Fld Z h1659 a1660 "java/lang/String" "coder" "B" (.int (0 : Int32)) := D1664 (ty := .byte) (Or.inr (own_wd hw 32 rfl)) own_fd1
    have f1666 : Fld Z h1659 a1660 "java/lang/String" "value" "[B" .null := D1664 (ty := (.array .byte)) (Or.inr (own_wd hw 34 rfl)) own_fd0
    refine own_seg C S1658 [(94, .dup, 1), (95, .aload 8, 2)] (by decide +kernel) 97 #[.val (.int i0), .val (.int i1), .val (.int i2), .val (.int i3), .val (.int (3 : Int32)), .val (.int y1599), .val (.int y1608), .val (.int y1617), .val (.ref a1631), .unset, .unset, .unset] [(.ref a1631), (.ref a1660), (.ref a1660)] rfl ?_
    have hp1667 : ∀ c ∈ ([y1599, y1608, y1617] : List Int32), ¬ c < 0 ∧ ¬ (255 : Int32) < c := by
      intro c hc; simp only [List.mem_cons, List.not_mem_nil, or_false] at hc
      rcases hc with rfl | rfl | rfl
      · exact p1601.1
      · exact p1610.1
      · exact p1619.1
    have f1668 : n0 ≤ h1659.size := (Nat.le_trans (by rw [W1653.size]; exact (by rw [W1647.size]; exact (by rw [W1641.size]; exact (Nat.le_trans z0 E1634.1)))) E1662.1)
    have f1669 : n0 ≤ h1652.size := (by rw [W1653.size]; exact (by rw [W1647.size]; exact (by rw [W1641.size]; exact (Nat.le_trans z0 E1634.1))))
    have g1670 : n0 ≤ a1660 := by rw [g1661]; exact f1669
    have f1671 : Arv Z h1659 a1631 k1632 .char (3 : Int32) ([(.int y1599), (.int y1608), (.int y1617)]) (.int (0 : Int32)) := (f1655.ext E1662)
    have f1672 : Old Z n0 h1659 := (((((X00.ext E1634).wr W1641 g1637).wr W1647 g1637).wr W1653 g1637).ext E1662)
    refine own_callI C S1658 rfl (own_wd hw 9 rfl) (own_wd hw 10 rfl) (own_wd hw 11 rfl) (by decide) (StrChars.Road.backV (W := 1) C.2.2.2.2.2.2.2 (fun d hd => hw d (own_hws d hd)) (kI := 4) (own_wd hw 7 rfl) (cs := ([y1599, y1608, y1617] : List Int32)) (bs := (([y1599, y1608, y1617] : List Int32)).map (fun c => c.toInt8.toInt32)) (n := 3) g1670 f1668 x1663 f1666 f1665 f1671 (O2.ext f1672.2) P5 rfl rfl (by decide) (by decide) hp1667 rfl (by decide) (by decide)) (fun _ _ _ q => q.2.1) [(.ref a1631)] [(.ref a1660)] rfl own_pd25 rfl rfl rfl (Nat.le_of_ble_eq_true rfl) (by decide) (by decide) (by decide +kernel) ?_
    rintro T1683 h1684 v1685 L1686 S1687 ⟨rfl, -, K1673, x1674, f1675, t1676, k1677, g1678, g1679, g1680, f1681, f1682⟩
    replace S1687 : own_S p l e room_1 (s.setVm vm1230) m #[(.int i0), (.int i1), (.int i2), (.int i3)] below meth c n0 T1683 h1684 3 10 := S1687
    have f1688 : Arv Z h1684 t1676 k1677 .byte (3 : Int32) ([(.int y1599.toInt8.toInt32), (.int y1608.toInt8.toInt32), (.int y1617.toInt8.toInt32)]) (.int 0) := f1682
    have hcd1689 : StrChars.Road.CodA ([y1599, y1608, y1617] : List Int32) 0 (3 : Int32) [(.int y1599.toInt8.toInt32), (.int y1608.toInt8.toInt32), (.int y1617.toInt8.toInt32)] := StrChars.Road.codOf (cs := ([y1599, y1608, y1617] : List Int32)) (n := 3) rfl (fun c hc => (hp1667 c hc).2)
    show own_Go p e below _ T1683 (mkF m 100 #[.val (.int i0), .val (.int i1), .val (.int i2), .val (.int i3), .val (.int (3 : Int32)), .val (.int y1599), .val (.int y1608), .val (.int y1617), .val (.ref a1631), .unset, .unset, .unset] [(.ref a1660)])
    refine own_seg C S1687 [(100, .astore 9, 2)] (by decide +kernel) 102 #[.val (.int i0), .val (.int i1), .val (.int i2), .val (.int i3), .val (.int (3 : Int32)), .val (.int y1599), .val (.int y1608), .val (.int y1617), .val (.ref a1631), .val (.ref a1660), .unset, .unset] [] rfl ?_
    refine own_new C S1687 (own_wd hw 35 rfl) (own_wd hw 36 rfl) (own_wd hw 37 rfl) (by decide +kernel) (by decide) (by decide) ?_
    intro T1690 h1692 a1693 S1691 g1694 E1695 x1696 D1697
    have f1698 : Fld Z h1692 a1693 "com/example/nearfar_cache/nearfarcache/Namespace" "name" "Ljava/lang/String;" .null := D1697 (ty := (.object "java/lang/String")) (Or.inr (own_wd hw 112 rfl)) own_fd3
    refine own_seg C S1691 [(105, .dup, 1), (106, .aload 9, 2)] (by decide +kernel) 108 #[.val (.int i0), .val (.int i1), .val (.int i2), .val (.int i3), .val (.int (3 : Int32)), .val (.int y1599), .val (.int y1608), .val (.int y1617), .val (.ref a1631), .val (.ref a1660), .unset, .unset] [(.ref a1660), (.ref a1693), (.ref a1693)] rfl ?_
    have f1699 : Old Z n0 h1692 := ((f1672.keep K1673 (allS g1670 all0)).ext E1695)
    have f1700 : Exa Z h1692 a1660 "java/lang/String" := (Exa.ext E1695 x1674)
    have f1701 : Fld Z h1692 a1660 "java/lang/String" "value" "[B" (.ref t1676) := (Fld.ext E1695 f1681)
    have f1702 : Fld Z h1692 a1660 "java/lang/String" "coder" "B" (.int 0) := (Fld.ext E1695 f1675)
    have f1703 : Arv Z h1692 t1676 k1677 .byte (3 : Int32) ([(.int y1599.toInt8.toInt32), (.int y1608.toInt8.toInt32), (.int y1617.toInt8.toInt32)]) (.int 0) := (f1688.ext E1695)
    have f1704 : n0 ≤ h1692.size := (Nat.le_trans (Nat.le_trans f1668 K1673.1) E1695.1)
    have f1705 : n0 ≤ h1684.size := (Nat.le_trans f1668 K1673.1)
    have g1706 : n0 ≤ a1693 := by rw [g1694]; exact f1705
    have f1715 : t1676 < h1692.size := (Nat.lt_of_lt_of_le f1688.lt E1695.1)
    have f1716 : a1660 < h1692.size := (Nat.lt_of_lt_of_le (Nat.lt_of_lt_of_le f1666.lt K1673.1) E1695.1)
    have f1717 : a1631 < h1692.size := (Nat.lt_of_lt_of_le (Nat.lt_of_lt_of_le (Nat.lt_of_lt_of_le (by rw [W1653.size]; exact (by rw [W1647.size]; exact (by rw [W1641.size]; exact f1636.lt))) E1662.1) K1673.1) E1695.1)
    have SW1718 : own_SW p l e room_1 s m #[(.int i0), (.int i1), (.int i2), (.int i3)] below meth c n0 Z own_EL "com/example/nearfar_cache/nearfarcache/redis/RedisKeysInvalidationChannelPinLaw" T1690 h1692 [a1631, a1660, t1676, a1693] 4 11 := rb1232 _ _ _ _ [] [a1631, a1660, t1676, a1693] S1691 ((((((((Keep.refl _ _).ext E1634).wr W1641 (Or.inr (by rw [g1633]; exact (Nat.le_refl _)))).wr W1647 (Or.inr (by rw [g1633]; exact (Nat.le_refl _)))).wr W1653 (Or.inr (by rw [g1633]; exact (Nat.le_refl _)))).ext E1662).trans K1673 (allS (Or.inr (by rw [g1661]; exact (by rw [W1653.size]; exact (by rw [W1647.size]; exact (by rw [W1641.size]; exact (Nat.le_trans (Nat.le_refl _) E1634.1)))))) all0)).ext E1695) all0 (allS ⟨(by rw [g1633]; exact (Nat.le_refl _)), f1717⟩ (allS ⟨(by rw [g1661]; exact (by rw [W1653.size]; exact (by rw [W1647.size]; exact (by rw [W1641.size]; exact (Nat.le_trans (Nat.le_refl _) E1634.1))))), f1716⟩ (allS ⟨(Nat.le_trans (Nat.le_trans (by rw [W1653.size]; exact (by rw [W1647.size]; exact (by rw [W1641.size]; exact (Nat.le_trans (Nat.le_refl _) E1634.1)))) E1662.1) g1679), f1715⟩ (allS ⟨(by rw [g1694]; exact (Nat.le_trans (Nat.le_trans (by rw [W1653.size]; exact (by rw [W1647.size]; exact (by rw [W1641.size]; exact (Nat.le_trans (Nat.le_refl _) E1634.1)))) E1662.1) K1673.1)), x1696.lt⟩ all0))))
    refine own_callIW CW SW1718 rfl (own_wd hw 38 rfl) (own_wd hw 39 rfl) (own_wd hw 37 rfl) (own_wd hw 40 rfl) (by decide) (own_ns l Z a0 hw hEL wS G1 G3 a1693 a1660 t1676 k1677 (3 : Int32) ([(.int y1599.toInt8.toInt32), (.int y1608.toInt8.toInt32), (.int y1617.toInt8.toInt32)]) ([y1599, y1608, y1617] : List Int32) h1692 n0 f1704 g1706 f1699 f1700 f1701 f1702 f1703 x1696 f1698 O2 O4 P5 rG3 hcd1689 hp1667 (Nat.le_of_ble_eq_true rfl) (by simp) hne1656 (by simp)) all0 1 (by decide) (by decide) [(.ref a1660)] [(.ref a1693)] rfl own_pd7 rfl rfl rfl (Nat.le_of_ble_eq_true rfl) (by decide) (by decide) (by decide +kernel) ?_
    rintro T1719 h1720 v1721 SW1722 hg1723 ⟨rfl, K1707, f1708, f1709⟩
    replace SW1722 : own_SW p l e room_1 s m #[(.int i0), (.int i1), (.int i2), (.int i3)] below meth c n0 Z own_EL "com/example/nearfar_cache/nearfarcache/redis/RedisKeysInvalidationChannelPinLaw" T1719 h1720 [a1631, a1660, t1676, a1693] 8 63 := SW1722
    show own_Go p e below _ T1719 (mkF m 111 #[.val (.int i0), .val (.int i1), .val (.int i2), .val (.int i3), .val (.int (3 : Int32)), .val (.int y1599), .val (.int y1608), .val (.int y1617), .val (.ref a1631), .val (.ref a1660), .unset, .unset] [(.ref a1693)])
    refine own_lift CW SW1722 ?_
    intro vm1724 C S1725 rb1726
    refine own_seg C S1725 [(111, .astore 10, 2), (113, .aload 10, 2)] (by decide +kernel) 115 #[.val (.int i0), .val (.int i1), .val (.int i2), .val (.int i3), .val (.int (3 : Int32)), .val (.int y1599), .val (.int y1608), .val (.int y1617), .val (.ref a1631), .val (.ref a1660), .val (.ref a1693), .unset] [(.ref a1693)] rfl ?_
    have f1727 : Old Z n0 h1720 := (f1699.keep K1707 (allS g1706 all0))
    have f1728 : Exa Z h1720 a1660 "java/lang/String" := (f1700.keep K1707)
    have f1729 : a1660 < h1684.size := (Nat.lt_of_lt_of_le f1666.lt K1673.1)
    have n1730 : a1660 ≠ a1693 := by rw [g1694]; exact Nat.ne_of_lt f1729
    have f1731 : Fld Z h1720 a1660 "java/lang/String" "value" "[B" (.ref t1676) := (f1701.keep K1707 (ninS n1730 nin0))
    have f1732 : Fld Z h1720 a1660 "java/lang/String" "coder" "B" (.int 0) := (f1702.keep K1707 (ninS n1730 nin0))
    have n1733 : t1676 ≠ a1693 := by rw [g1694]; exact Nat.ne_of_lt f1688.lt
    have f1734 : Arv Z h1720 t1676 k1677 .byte (3 : Int32) ([(.int y1599.toInt8.toInt32), (.int y1608.toInt8.toInt32), (.int y1617.toInt8.toInt32)]) (.int 0) := (f1703.keep K1707 (ninS n1733 nin0))
    have f1735 : n0 ≤ h1720.size := (Nat.le_trans f1704 K1707.1)
    have SW1751 : own_SW p l e room_1 s m #[(.int i0), (.int i1), (.int i2), (.int i3)] below meth c n0 Z own_EL "com/example/nearfar_cache/nearfarcache/redis/RedisKeysInvalidationChannelPinLaw" T1719 h1720 [a1631, a1660, t1676, a1693] 8 63 := rb1726 _ _ _ _ [] [] S1725 (Keep.refl _ _) all0 all0
    refine own_callSW CW SW1751 (own_wd hw 113 rfl) (own_wd hw 114 rfl) (own_wd hw 115 rfl) (own_wd hw 116 rfl) (by decide) (own_ic3 l Z a0 hw hEL wS G1 G3 a1693 a1660 t1676 k1677 y1599 y1608 y1617 h1720 n0 f1735 f1727 f1708 f1709 f1728 f1731 f1732 f1734 O2 O4 P5 rG3 p1601.1 p1610.1 p1619.1) all0 0 (by decide) (by decide) [(.ref a1693)] [] rfl own_pd26 rfl rfl rfl (Nat.le_of_ble_eq_true rfl) (by decide) (by decide) (by decide +kernel) ?_
    rintro T1752 h1753 v1754 SW1755 hg1756 ⟨a1736, a1737, k1738, rfl, g1739, g1740, K1741, f1742, f1743, f1744, f1745⟩
    replace SW1755 : own_SW p l e room_1 s m #[(.int i0), (.int i1), (.int i2), (.int i3)] below meth c n0 Z own_EL "com/example/nearfar_cache/nearfarcache/redis/RedisKeysInvalidationChannelPinLaw" T1752 h1753 [a1631, a1660, t1676, a1693] 17 317 := SW1755
    show own_Go p e below _ T1752 (mkF m 118 #[.val (.int i0), .val (.int i1), .val (.int i2), .val (.int i3), .val (.int (3 : Int32)), .val (.int y1599), .val (.int y1608), .val (.int y1617), .val (.ref a1631), .val (.ref a1660), .val (.ref a1693), .unset] [(.ref a1736)])
    have hp1757 : ∀ c ∈ ([(110 : Int32), (101 : Int32), (97 : Int32), (114 : Int32), (102 : Int32), (97 : Int32), (114 : Int32), (58 : Int32), (105 : Int32), (110 : Int32), (118 : Int32), (97 : Int32), (108 : Int32), (105 : Int32), (100 : Int32), (97 : Int32), (116 : Int32), (105 : Int32), (111 : Int32), (110 : Int32), (115 : Int32), (58 : Int32), y1599, y1608, y1617] : List Int32), ¬ c < 0 ∧ ¬ (255 : Int32) < c := by
      intro c hc; simp only [List.mem_cons, List.not_mem_nil, or_false] at hc
      rcases hc with rfl | rfl | rfl | rfl | rfl | rfl | rfl | rfl | rfl | rfl | rfl | rfl | rfl | rfl | rfl | rfl | rfl | rfl | rfl | rfl | rfl | rfl | rfl | rfl | rfl
      · exact (by decide)
      · exact (by decide)
      · exact (by decide)
      · exact (by decide)
      · exact (by decide)
      · exact (by decide)
      · exact (by decide)
      · exact (by decide)
      · exact (by decide)
      · exact (by decide)
      · exact (by decide)
      · exact (by decide)
      · exact (by decide)
      · exact (by decide)
      · exact (by decide)
      · exact (by decide)
      · exact (by decide)
      · exact (by decide)
      · exact (by decide)
      · exact (by decide)
      · exact (by decide)
      · exact (by decide)
      · exact p1601.1
      · exact p1610.1
      · exact p1619.1
    have hcd1758 : StrChars.Road.CodA ([(110 : Int32), (101 : Int32), (97 : Int32), (114 : Int32), (102 : Int32), (97 : Int32), (114 : Int32), (58 : Int32), (105 : Int32), (110 : Int32), (118 : Int32), (97 : Int32), (108 : Int32), (105 : Int32), (100 : Int32), (97 : Int32), (116 : Int32), (105 : Int32), (111 : Int32), (110 : Int32), (115 : Int32), (58 : Int32), y1599, y1608, y1617] : List Int32) 0 (25 : Int32) [(.int (110 : Int32)), (.int (101 : Int32)), (.int (97 : Int32)), (.int (114 : Int32)), (.int (102 : Int32)), (.int (97 : Int32)), (.int (114 : Int32)), (.int (58 : Int32)), (.int (105 : Int32)), (.int (110 : Int32)), (.int (118 : Int32)), (.int (97 : Int32)), (.int (108 : Int32)), (.int (105 : Int32)), (.int (100 : Int32)), (.int (97 : Int32)), (.int (116 : Int32)), (.int (105 : Int32)), (.int (111 : Int32)), (.int (110 : Int32)), (.int (115 : Int32)), (.int (58 : Int32)), (.int y1599.toInt8.toInt32), (.int y1608.toInt8.toInt32), (.int y1617.toInt8.toInt32)] := StrChars.Road.codOf (cs := ([(110 : Int32), (101 : Int32), (97 : Int32), (114 : Int32), (102 : Int32), (97 : Int32), (114 : Int32), (58 : Int32), (105 : Int32), (110 : Int32), (118 : Int32), (97 : Int32), (108 : Int32), (105 : Int32), (100 : Int32), (97 : Int32), (116 : Int32), (105 : Int32), (111 : Int32), (110 : Int32), (115 : Int32), (58 : Int32), y1599, y1608, y1617] : List Int32)) (n := 25) rfl (fun c hc => (hp1757 c hc).2)
    refine own_lift CW SW1755 ?_
    intro vm1759 C S1760 rb1761
    refine own_seg C S1760 [(118, .astore 11, 2), (120, .aload 11, 2)] (by decide +kernel) 122 #[.val (.int i0), .val (.int i1), .val (.int i2), .val (.int i3), .val (.int (3 : Int32)), .val (.int y1599), .val (.int y1608), .val (.int y1617), .val (.ref a1631), .val (.ref a1660), .val (.ref a1693), .val (.ref a1736)] [(.ref a1736)] rfl ?_
    have f1762 : Old Z n0 h1753 := (f1727.keep K1741 all0)
    refine own_callV C S1760 (own_wd hw 238 rfl) (own_wd hw 75 rfl) (own_wd hw 77 rfl) (y' := ⟨"java/lang/String", "length", "()I"⟩) rfl (own_wd hw 77 rfl) (own_wd hw 76 rfl) (by decide) (Q := (fun v h' L => v = some (.int (Int32.ofNat (([(110 : Int32), (101 : Int32), (97 : Int32), (114 : Int32), (102 : Int32), (97 : Int32), (114 : Int32), (58 : Int32), (105 : Int32), (110 : Int32), (118 : Int32), (97 : Int32), (108 : Int32), (105 : Int32), (100 : Int32), (97 : Int32), (116 : Int32), (105 : Int32), (111 : Int32), (110 : Int32), (115 : Int32), (58 : Int32), y1599, y1608, y1617] : List Int32)).length)) ∧ L = [] ∧ h' = h1753)) (StrChars.Road.lenW (W := 0) C.2.2.2.2.2.2.2 (fun d hd => hw d (own_hln d hd)) (kI := 4) (own_wd hw 7 rfl) f1742 f1744 f1743 f1745 hcd1758 (own_up _ hp1757) (O2.ext f1762.2) P5 (Nat.le_of_ble_eq_true rfl) (by decide) (by decide)) (fun _ _ L q => by rw [q.2.1]; exact Fr.nil _) f1742 [] [] rfl own_pd4 rfl rfl rfl (Nat.le_of_ble_eq_true rfl) (by decide) (by decide) (by decide +kernel) ?_
    rintro T1764 h1765 v1766 L1767 S1768 ⟨rfl, -, e1763⟩
    replace S1768 : own_S p l e room_1 (s.setVm vm1759) m #[(.int i0), (.int i1), (.int i2), (.int i3)] below meth c n0 T1764 h1765 17 317 := S1768
    rw [e1763] at S1768; clear e1763
    show own_Go p e below _ T1764 (mkF m 125 #[.val (.int i0), .val (.int i1), .val (.int i2), .val (.int i3), .val (.int (3 : Int32)), .val (.int y1599), .val (.int y1608), .val (.int y1617), .val (.ref a1631), .val (.ref a1660), .val (.ref a1693), .val (.ref a1736)] [(.int (25 : Int32))])
    refine own_seg C S1768 [(125, .bipush 22, 2), (127, .iload 4, 2), (129, .iadd, 1)] (by decide +kernel) 130 #[.val (.int i0), .val (.int i1), .val (.int i2), .val (.int i3), .val (.int (3 : Int32)), .val (.int y1599), .val (.int y1608), .val (.int y1617), .val (.ref a1631), .val (.ref a1660), .val (.ref a1693), .val (.ref a1736)] [(.int ((22 : Int32) + (3 : Int32))), (.int (25 : Int32))] rfl ?_
    refine own_icmp C S1768 (q := .eq) (o := 5) (by decide +kernel) 135 (by decide) (by decide) (fun (q1769 : (25 : Int32) = ((22 : Int32) + (3 : Int32))) => ?_) (fun (hq : ¬ (25 : Int32) = ((22 : Int32) + (3 : Int32))) => False.elim (by revert hq; decide))
    refine own_seg C S1768 [(135, .aload 11, 2)] (by decide +kernel) 137 #[.val (.int i0), .val (.int i1), .val (.int i2), .val (.int i3), .val (.int (3 : Int32)), .val (.int y1599), .val (.int y1608), .val (.int y1617), .val (.ref a1631), .val (.ref a1660), .val (.ref a1693), .val (.ref a1736)] [(.ref a1736)] rfl ?_
    have f1770 : n0 ≤ h1753.size := (Nat.le_trans f1735 K1741.1)
    refine own_callS C S1768 (own_wd hw 239 rfl) (own_wd hw 240 rfl) (own_wd hw 3 rfl) (own_wd hw 241 rfl) (by decide) (own_Met.pay (own_hpx l Z a0 hw G1 G3 a1736 a1737 k1738 (25 : Int32) ([(.int (110 : Int32)), (.int (101 : Int32)), (.int (97 : Int32)), (.int (114 : Int32)), (.int (102 : Int32)), (.int (97 : Int32)), (.int (114 : Int32)), (.int (58 : Int32)), (.int (105 : Int32)), (.int (110 : Int32)), (.int (118 : Int32)), (.int (97 : Int32)), (.int (108 : Int32)), (.int (105 : Int32)), (.int (100 : Int32)), (.int (97 : Int32)), (.int (116 : Int32)), (.int (105 : Int32)), (.int (111 : Int32)), (.int (110 : Int32)), (.int (115 : Int32)), (.int (58 : Int32)), (.int y1599.toInt8.toInt32), (.int y1608.toInt8.toInt32), (.int y1617.toInt8.toInt32)]) ([(110 : Int32), (101 : Int32), (97 : Int32), (114 : Int32), (102 : Int32), (97 : Int32), (114 : Int32), (58 : Int32), (105 : Int32), (110 : Int32), (118 : Int32), (97 : Int32), (108 : Int32), (105 : Int32), (100 : Int32), (97 : Int32), (116 : Int32), (105 : Int32), (111 : Int32), (110 : Int32), (115 : Int32), (58 : Int32), y1599, y1608, y1617] : List Int32) h1753 n0 f1770 f1762 f1742 f1744 f1743 f1745 O2 O4 P5 rG3 hcd1758 hp1757 (Nat.le_of_ble_eq_true rfl) (Nat.le_of_ble_eq_true rfl) (by decide) rfl rfl rfl rfl rfl rfl rfl rfl rfl rfl rfl rfl rfl rfl rfl rfl rfl rfl rfl rfl rfl rfl) C 0 (own_wd hw 241 rfl) (own_wd hw 3 rfl) (by decide) (by decide)) (fun _ _ _ q => q.2) [(.ref a1736)] [] rfl own_pd27 rfl rfl rfl (Nat.le_of_ble_eq_true rfl) (by decide) (by decide) (by decide +kernel) ?_
    rintro T1772 h1773 v1774 L1775 S1776 ⟨⟨rfl, e1771⟩, -⟩
    replace S1776 : own_S p l e room_1 (s.setVm vm1759) m #[(.int i0), (.int i1), (.int i2), (.int i3)] below meth c n0 T1772 h1773 17 317 := S1776
    rw [e1771] at S1776; clear e1771
    show own_Go p e below _ T1772 (mkF m 140 #[.val (.int i0), .val (.int i1), .val (.int i2), .val (.int i3), .val (.int (3 : Int32)), .val (.int y1599), .val (.int y1608), .val (.int y1617), .val (.ref a1631), .val (.ref a1660), .val (.ref a1693), .val (.ref a1736)] [(.int (1 : Int32))])
    refine own_if C S1776 (q := .ne) (o := 5) (by decide +kernel) 145 (by decide) (by decide) (fun (q1777 : ¬ (1 : Int32) = (0 : Int32)) => ?_) (fun (hq : (1 : Int32) = (0 : Int32)) => False.elim (by revert hq; decide))
    refine own_seg C S1776 [(145, .aload 11, 2), (147, .bipush 22, 2)] (by decide +kernel) 149 #[.val (.int i0), .val (.int i1), .val (.int i2), .val (.int i3), .val (.int (3 : Int32)), .val (.int y1599), .val (.int y1608), .val (.int y1617), .val (.ref a1631), .val (.ref a1660), .val (.ref a1693), .val (.ref a1736)] [(.int (22 : Int32)), (.ref a1736)] rfl ?_
    refine own_callV C S1776 (own_wd hw 242 rfl) (own_wd hw 243 rfl) (own_wd hw 245 rfl) (y' := ⟨"java/lang/String", "charAt", "(I)C"⟩) rfl (own_wd hw 245 rfl) (own_wd hw 244 rfl) (by decide) (Q := (fun v h' L => v = some (.int ((([(110 : Int32), (101 : Int32), (97 : Int32), (114 : Int32), (102 : Int32), (97 : Int32), (114 : Int32), (58 : Int32), (105 : Int32), (110 : Int32), (118 : Int32), (97 : Int32), (108 : Int32), (105 : Int32), (100 : Int32), (97 : Int32), (116 : Int32), (105 : Int32), (111 : Int32), (110 : Int32), (115 : Int32), (58 : Int32), y1599, y1608, y1617] : List Int32)).getD 22 0)) ∧ L = [] ∧ h' = h1753)) (StrChars.Road.chN (W := 0) C.2.2.2.2.2.2.2 (fun d hd => hw d (own_hch d hd)) (kI := 4) (own_wd hw 7 rfl) f1742 f1744 f1743 f1745 hcd1758 (own_up _ hp1757) (O2.ext f1762.2) P5 (O4.ext f1762.2) rG3 (Nat.le_of_ble_eq_true rfl) (i := 22) (Nat.le_of_ble_eq_true rfl) rfl (by decide) (by decide)) (fun _ _ L q => by rw [q.2.1]; exact Fr.nil _) f1742 [(.int (22 : Int32))] [] rfl own_pd24 rfl rfl rfl (Nat.le_of_ble_eq_true rfl) (by decide) (by decide) (by decide +kernel) ?_
    rintro T1779 h1780 v1781 L1782 S1783 ⟨rfl, -, e1778⟩
    replace S1783 : own_S p l e room_1 (s.setVm vm1759) m #[(.int i0), (.int i1), (.int i2), (.int i3)] below meth c n0 T1779 h1780 17 317 := S1783
    rw [e1778] at S1783; clear e1778
    show own_Go p e below _ T1779 (mkF m 152 #[.val (.int i0), .val (.int i1), .val (.int i2), .val (.int i3), .val (.int (3 : Int32)), .val (.int y1599), .val (.int y1608), .val (.int y1617), .val (.ref a1631), .val (.ref a1660), .val (.ref a1693), .val (.ref a1736)] [(.int y1599)])
    refine own_seg C S1783 [(152, .iload 5, 2)] (by decide +kernel) 154 #[.val (.int i0), .val (.int i1), .val (.int i2), .val (.int i3), .val (.int (3 : Int32)), .val (.int y1599), .val (.int y1608), .val (.int y1617), .val (.ref a1631), .val (.ref a1660), .val (.ref a1693), .val (.ref a1736)] [(.int y1599), (.int y1599)] rfl ?_
    refine own_icmp C S1783 (q := .eq) (o := 5) (by decide +kernel) 159 (by decide) (by decide) (fun (q1784 : y1599 = y1599) => ?_) (fun (hq : ¬ y1599 = y1599) => False.elim (hq rfl))
    refine own_seg C S1783 [(159, .iload 4, 2), (161, .iconst 2, 1)] (by decide +kernel) 162 #[.val (.int i0), .val (.int i1), .val (.int i2), .val (.int i3), .val (.int (3 : Int32)), .val (.int y1599), .val (.int y1608), .val (.int y1617), .val (.ref a1631), .val (.ref a1660), .val (.ref a1693), .val (.ref a1736)] [(.int (2 : Int32)), (.int (3 : Int32))] rfl ?_
    refine own_icmp C S1783 (q := .lt) (o := 17) (by decide +kernel) 179 (by decide) (by decide) (fun (hq : (3 : Int32) < (2 : Int32)) => False.elim (by revert hq; decide)) (fun (q1785 : ¬ (3 : Int32) < (2 : Int32)) => ?_)
    refine own_seg C S1783 [(165, .aload 11, 2), (167, .bipush 23, 2)] (by decide +kernel) 169 #[.val (.int i0), .val (.int i1), .val (.int i2), .val (.int i3), .val (.int (3 : Int32)), .val (.int y1599), .val (.int y1608), .val (.int y1617), .val (.ref a1631), .val (.ref a1660), .val (.ref a1693), .val (.ref a1736)] [(.int (23 : Int32)), (.ref a1736)] rfl ?_
    refine own_callV C S1783 (own_wd hw 242 rfl) (own_wd hw 243 rfl) (own_wd hw 245 rfl) (y' := ⟨"java/lang/String", "charAt", "(I)C"⟩) rfl (own_wd hw 245 rfl) (own_wd hw 244 rfl) (by decide) (Q := (fun v h' L => v = some (.int ((([(110 : Int32), (101 : Int32), (97 : Int32), (114 : Int32), (102 : Int32), (97 : Int32), (114 : Int32), (58 : Int32), (105 : Int32), (110 : Int32), (118 : Int32), (97 : Int32), (108 : Int32), (105 : Int32), (100 : Int32), (97 : Int32), (116 : Int32), (105 : Int32), (111 : Int32), (110 : Int32), (115 : Int32), (58 : Int32), y1599, y1608, y1617] : List Int32)).getD 23 0)) ∧ L = [] ∧ h' = h1753)) (StrChars.Road.chN (W := 0) C.2.2.2.2.2.2.2 (fun d hd => hw d (own_hch d hd)) (kI := 4) (own_wd hw 7 rfl) f1742 f1744 f1743 f1745 hcd1758 (own_up _ hp1757) (O2.ext f1762.2) P5 (O4.ext f1762.2) rG3 (Nat.le_of_ble_eq_true rfl) (i := 23) (Nat.le_of_ble_eq_true rfl) rfl (by decide) (by decide)) (fun _ _ L q => by rw [q.2.1]; exact Fr.nil _) f1742 [(.int (23 : Int32))] [] rfl own_pd24 rfl rfl rfl (Nat.le_of_ble_eq_true rfl) (by decide) (by decide) (by decide +kernel) ?_
    rintro T1787 h1788 v1789 L1790 S1791 ⟨rfl, -, e1786⟩
    replace S1791 : own_S p l e room_1 (s.setVm vm1759) m #[(.int i0), (.int i1), (.int i2), (.int i3)] below meth c n0 T1787 h1788 17 317 := S1791
    rw [e1786] at S1791; clear e1786
    show own_Go p e below _ T1787 (mkF m 172 #[.val (.int i0), .val (.int i1), .val (.int i2), .val (.int i3), .val (.int (3 : Int32)), .val (.int y1599), .val (.int y1608), .val (.int y1617), .val (.ref a1631), .val (.ref a1660), .val (.ref a1693), .val (.ref a1736)] [(.int y1608)])
    refine own_seg C S1791 [(172, .iload 6, 2)] (by decide +kernel) 174 #[.val (.int i0), .val (.int i1), .val (.int i2), .val (.int i3), .val (.int (3 : Int32)), .val (.int y1599), .val (.int y1608), .val (.int y1617), .val (.ref a1631), .val (.ref a1660), .val (.ref a1693), .val (.ref a1736)] [(.int y1608), (.int y1608)] rfl ?_
    refine own_icmp C S1791 (q := .eq) (o := 5) (by decide +kernel) 179 (by decide) (by decide) (fun (q1792 : y1608 = y1608) => ?_) (fun (hq : ¬ y1608 = y1608) => False.elim (hq rfl))
    refine own_seg C S1791 [(179, .iload 4, 2), (181, .iconst 3, 1)] (by decide +kernel) 182 #[.val (.int i0), .val (.int i1), .val (.int i2), .val (.int i3), .val (.int (3 : Int32)), .val (.int y1599), .val (.int y1608), .val (.int y1617), .val (.ref a1631), .val (.ref a1660), .val (.ref a1693), .val (.ref a1736)] [(.int (3 : Int32)), (.int (3 : Int32))] rfl ?_
    refine own_icmp C S1791 (q := .lt) (o := 17) (by decide +kernel) 199 (by decide) (by decide) (fun (hq : (3 : Int32) < (3 : Int32)) => False.elim (by revert hq; decide)) (fun (q1793 : ¬ (3 : Int32) < (3 : Int32)) => ?_)
    refine own_seg C S1791 [(185, .aload 11, 2), (187, .bipush 24, 2)] (by decide +kernel) 189 #[.val (.int i0), .val (.int i1), .val (.int i2), .val (.int i3), .val (.int (3 : Int32)), .val (.int y1599), .val (.int y1608), .val (.int y1617), .val (.ref a1631), .val (.ref a1660), .val (.ref a1693), .val (.ref a1736)] [(.int (24 : Int32)), (.ref a1736)] rfl ?_
    refine own_callV C S1791 (own_wd hw 242 rfl) (own_wd hw 243 rfl) (own_wd hw 245 rfl) (y' := ⟨"java/lang/String", "charAt", "(I)C"⟩) rfl (own_wd hw 245 rfl) (own_wd hw 244 rfl) (by decide) (Q := (fun v h' L => v = some (.int ((([(110 : Int32), (101 : Int32), (97 : Int32), (114 : Int32), (102 : Int32), (97 : Int32), (114 : Int32), (58 : Int32), (105 : Int32), (110 : Int32), (118 : Int32), (97 : Int32), (108 : Int32), (105 : Int32), (100 : Int32), (97 : Int32), (116 : Int32), (105 : Int32), (111 : Int32), (110 : Int32), (115 : Int32), (58 : Int32), y1599, y1608, y1617] : List Int32)).getD 24 0)) ∧ L = [] ∧ h' = h1753)) (StrChars.Road.chN (W := 0) C.2.2.2.2.2.2.2 (fun d hd => hw d (own_hch d hd)) (kI := 4) (own_wd hw 7 rfl) f1742 f1744 f1743 f1745 hcd1758 (own_up _ hp1757) (O2.ext f1762.2) P5 (O4.ext f1762.2) rG3 (Nat.le_of_ble_eq_true rfl) (i := 24) (Nat.le_of_ble_eq_true rfl) rfl (by decide) (by decide)) (fun _ _ L q => by rw [q.2.1]; exact Fr.nil _) f1742 [(.int (24 : Int32))] [] rfl own_pd24 rfl rfl rfl (Nat.le_of_ble_eq_true rfl) (by decide) (by decide) (by decide +kernel) ?_
    rintro T1795 h1796 v1797 L1798 S1799 ⟨rfl, -, e1794⟩
    replace S1799 : own_S p l e room_1 (s.setVm vm1759) m #[(.int i0), (.int i1), (.int i2), (.int i3)] below meth c n0 T1795 h1796 17 317 := S1799
    rw [e1794] at S1799; clear e1794
    show own_Go p e below _ T1795 (mkF m 192 #[.val (.int i0), .val (.int i1), .val (.int i2), .val (.int i3), .val (.int (3 : Int32)), .val (.int y1599), .val (.int y1608), .val (.int y1617), .val (.ref a1631), .val (.ref a1660), .val (.ref a1693), .val (.ref a1736)] [(.int y1617)])
    refine own_seg C S1799 [(192, .iload 7, 2)] (by decide +kernel) 194 #[.val (.int i0), .val (.int i1), .val (.int i2), .val (.int i3), .val (.int (3 : Int32)), .val (.int y1599), .val (.int y1608), .val (.int y1617), .val (.ref a1631), .val (.ref a1660), .val (.ref a1693), .val (.ref a1736)] [(.int y1617), (.int y1617)] rfl ?_
    refine own_icmp C S1799 (q := .eq) (o := 5) (by decide +kernel) 199 (by decide) (by decide) (fun (q1800 : y1617 = y1617) => ?_) (fun (hq : ¬ y1617 = y1617) => False.elim (hq rfl))
    refine own_seg C S1799 [(199, .iconst 1, 1)] (by decide +kernel) 200 #[.val (.int i0), .val (.int i1), .val (.int i2), .val (.int i3), .val (.int (3 : Int32)), .val (.int y1599), .val (.int y1608), .val (.int y1617), .val (.ref a1631), .val (.ref a1660), .val (.ref a1693), .val (.ref a1736)] [(.int (1 : Int32))] rfl ?_
    have SW1801 : own_SW p l e room_1 s m #[(.int i0), (.int i1), (.int i2), (.int i3)] below meth c n0 Z own_EL "com/example/nearfar_cache/nearfarcache/redis/RedisKeysInvalidationChannelPinLaw" T1795 h1753 [a1631, a1660, t1676, a1693] 17 317 := rb1761 _ _ _ _ [] [] S1799 (Keep.refl _ _) all0 all0
    refine own_retZW CW SW1801 (by decide +kernel) (by decide) (by decide) (by decide) ?_
    rfl
theorem own_sAt : ∀ a ∈ Bundle.stringAtoms, a ∈ tables_1 := by decide +kernel
set_option maxRecDepth 65536 in
theorem own_ELok {Z : State} {a0 : Array Value} (hw : ∀ d ∈ tables_1, d.before a0 Z = true) : EW Z a0 own_EL := (EW.cons (own_wd hw 47 rfl) (by decide) (EW.cons (own_wd hw 101 rfl) (by decide) (EW.cons (own_wd hw 117 rfl) (by decide) (EW.cons (own_wd hw 137 rfl) (by decide) EW.nil))))
set_option maxRecDepth 65536 in
set_option maxHeartbeats 40000000 in
theorem comes_1 {Post : Tables → Env → Array Value → State → Outcome → State → Prop} (hpost : ∀ tb e args s v u, (limb_1_1.after args s (.returned v) u = true ∧ limb_1_2.after args s (.returned v) u = true ∧ True) → Jvm.D.FramedW s (.returned v) u (Jvm.fieldLocs frame_1_writes args s ++ Jvm.arrayLocs frame_1_arrays args s ++ Jvm.staticLocs frame_1_statics s) 40 4416 → Post tb e args s (.returned v) u) :
    ArmFor flags0 classFile x code maxLocals ret World_1 tables_1 room_1 Calls_1 rest_1 Pre_1 Post := by
  intro l hfl _ _ p e ha hc hk s m args below hf hA hF happ hP
  obtain ⟨hcalls, hrest, hpre⟩ := hP
  obtain ⟨-, -, -, hnamed, -, -, -, hat⟩ := (Spec.applies_iff hf).mp happ
  obtain ⟨hg, hn⟩ := and_e (Cond.before_iff.mp (show (Jvm.Cond.and given_1 narrow_1).before args s = true from hpre))
  obtain ⟨hcount, hk0⟩ := and_e hg
  obtain ⟨ha0, hk1⟩ := and_e hk0
  obtain ⟨ha1, hk2⟩ := and_e hk1
  obtain ⟨ha2, hk3⟩ := and_e hk2
  obtain ⟨w0, w1, w2, w3, rfl⟩ : ∃ w0 w1 w2 w3 : Value, args = #[w0, w1, w2, w3] := by
    have hs : args.size = 4 := by simpa [Cond.value, given_1] using hcount
    obtain ⟨L⟩ := args
    match L, hs with
    | [w0, w1, w2, w3], _ => exact ⟨w0, w1, w2, w3, rfl⟩
  have hw := fun d (hd : d ∈ tables_1) => atoms_spec (ws := Jvm.Cond.code x code maxLocals ret :: tables_1) hat d (List.mem_cons_of_mem _ hd)
  obtain ⟨i0, ei0⟩ := is_v ha0
  obtain rfl : w0 = (.int i0) := Option.some.inj ei0
  obtain ⟨i1, ei1⟩ := is_v ha1
  obtain rfl : w1 = (.int i1) := Option.some.inj ei1
  obtain ⟨i2, ei2⟩ := is_v ha2
  obtain rfl : w2 = (.int i2) := Option.some.inj ei2
  obtain ⟨i3, ei3⟩ := is_v hk3
  obtain rfl : w3 = (.int i3) := Option.some.inj ei3
  obtain ⟨hsets, hown0⟩ := atoms_of _ (rest_1_c_eq ▸ (show rest_1_c.before _ s = true from hrest))
  have nz := not_v (Cond.before_iff.mp (hsets _ (List.mem_of_getElem? (i := 2) rfl)))
  obtain ⟨g1, eg1⟩ := is_v (Cond.before_iff.mp (hsets _ (List.mem_of_getElem? (i := 1) rfl)))
  have O2 : Sta s s.heap "java/lang/String" "COMPACT_STRINGS" "Z" (.int g1) := Sta.start eg1 (Or.inl (hsets _ (List.mem_of_getElem? (i := 0) rfl)))
  obtain ⟨g3, eg3, rg3⟩ := isR_v (Cond.before_iff.mp (hsets _ (List.mem_of_getElem? (i := 8) rfl)))
  have O4 : Sta s s.heap "jdk/internal/util/Preconditions" "SIOOBE_FORMATTER" "Ljava/util/function/BiFunction;" g3 := Sta.start eg3 (Or.inl (hsets _ (List.mem_of_getElem? (i := 7) rfl)))
  have P5 : ¬ (g1 = (0 : Int32)) := gotF (Cond.eq_ints eg1 (Term.int_eval (0))) nz
  have hEL : EW s _ own_EL := own_ELok hw
  have wS : ∀ a ∈ Bundle.stringAtoms, a.before _ s = true := fun a ha => hw a (own_sAt a ha)
  have hCH : CHv s own_EL s.vm s.heap := CHv.start hEL (fun p hp => hcalls.1 p hp) (hsets _ (List.mem_of_getElem? (i := 2) rfl)) (own_wd hw 24 rfl) (own_wd hw 7 rfl)
  obtain ⟨n, o, g1, g2, g3, _, L, rfl, ⟨rfl, N⟩, -, hq⟩ := own_law l s _ hw hEL wS  g1 g3 i0 i1 i2 i3 s.heap s.heap.size (Nat.le_refl _) (Old.start s) O2 O4 P5 rg3 tables_1 p e ha hc hk s m _ below hf ((Spec.applies_iff_loose hf).mp happ).1 ⟨rfl, State.Warmed39.refl s, rfl, hCH, all0⟩ trivial
  refine ⟨n, _, g1, g2, g3, hpost _ _ _ _ _ _ ⟨Cond.after_iff.mpr rfl, Cond.after_iff.mpr (eq_i res_at (Term.int_eval (1)) rfl), trivial⟩ ⟨hq.1, hq.2.1, hq.2.2.1, (hq.2.2.2.sift fun y hy => Or.inr (N y hy)).mono (by decide) (by decide)⟩⟩
theorem main_1_1 : Claimed_1_1 := comes_1 fun _ _ _ _ _ _ h hF => ⟨h.1, hF⟩
theorem main_1_2 : Claimed_1_2 := comes_1 fun _ _ _ _ _ _ h hF => ⟨h.2.1, hF⟩
end Jvm.Pilot.@@N@@
namespace Jvm.Pilot.@@N@@
open Jvm Jvm.ClassFile Sem Op Lib Jvm.Free Jvm.Stand Jvm.Pilot.@@N@@.Jvm.D
/-! MADE BY PROGRAM (witnessworld.py) out of the Statement's table words and the real class files: 29 classes; the members and pool entries that the words name. The judged class is class 1, her method 3. -/
namespace start1
open Jvm.ClassFile
def u (s : String) : CpInfo := .utf8 (stringToUtf16 s)
/-- a pool by its gaps: so many unusable entries, then the entry; so many at the end -/
def gap : Nat → List CpInfo → List CpInfo
  | 0, r => r
  | n + 1, r => .unusable :: gap n r
def poolList (es : List (Nat × CpInfo)) (last : Nat) : List CpInfo := es.foldr (fun e r => gap e.1 (e.2 :: r)) (gap last [])
def pool (es : List (Nat × CpInfo)) (last : Nat) : Array CpInfo := ⟨poolList es last⟩
def fileOf (pool : Array CpInfo) (this : Nat) (attrs : Array Attribute := #[]) (ms : Array MethodInfo := #[]) (fl : Nat := 33) (sup : Nat := 0) (ifs : Array Nat := #[]) (fds : Array FieldInfo := #[]) : ClassFile where
  minorVersion := 0
  majorVersion := 65
  constantPool := pool
  accessFlags := fl
  thisClass := this
  superClass := sup
  interfaces := ifs
  fields := fds
  methods := ms
  attributes := attrs
def plain (name : String) (sup : Option ClassId) : Class where
  name := name
  kind := .ordinary
  loader := none
  accessFlags := 33
  super := sup
  interfaces := #[]
  cf := none
  fields := #[]
  methods := #[]
  instanceTypes := #[]
  staticTypes := #[]
  resolved := #[]
  callSites := []
  init := .initialized
  statics := none
  mirror := none

def pool0 : Array CpInfo := pool [(5, u "<init>"), (0, u "()V"), (1, .class_ 10), (1, u "java/lang/Object")] 113

def k0c0 : Code := { maxStack := 0, maxLocals := 1, code := object_method_1_code, exceptionTable := #[], attributes := #[] }
def k0m0 : Method := { name := "<init>", desc := "()V", sig := { parameters := [], returnType := none }, accessFlags := 1, code := some k0c0 }
/-- java/lang/Object -/
def k0 : Class := { plain "java/lang/Object" none with
  accessFlags := 33
  interfaces := #[]
  cf := some (fileOf pool0 8 #[] #[{ accessFlags := 1, nameIndex := 5, descriptorIndex := 6, attributes := #[] }] 33 0 #[] #[])
  fields := #[]
  methods := #[k0m0]
  instanceTypes := #[]
  staticTypes := #[]
  resolved := Array.replicate 124 none
  statics := none }

def pool1 : Array CpInfo := pool [(2, .class_ 4), (1, u "java/lang/Object"), (0, u "<init>"), (0, u "()V"), (0, .methodref 8 9), (0, .class_ 10), (0, .nameAndType 11 12), (0, u "java/lang/String"), (0, u "length"), (0, u "()I"), (0, .methodref 8 14), (0, .nameAndType 15 16), (0, u "charAt"), (0, u "(I)C"), (0, .integer 2147483647), (0, .methodref 19 20), (0, .class_ 21), (0, .nameAndType 22 16), (0, u "com/example/nearfar_cache/nearfarcache/redis/RedisKeysInvalidationChannelPinLaw"), (0, u "ch"), (0, .methodref 8 24), (0, .nameAndType 5 25), (0, u "([C)V"), (0, .class_ 27), (0, u "com/example/nearfar_cache/nearfarcache/Namespace"), (0, .methodref 26 29), (0, .nameAndType 5 30), (0, u "(Ljava/lang/String;)V"), (0, .methodref 32 33), (0, .class_ 34), (0, .nameAndType 35 36), (0, u "com/example/nearfar_cache/nearfarcache/redis/RedisKeys"), (0, u "invalidationChannel"), (0, u "(Lcom/example/nearfar_cache/nearfarcache/Namespace;)Ljava/lang/String;"), (0, .methodref 19 38), (0, .nameAndType 39 40), (0, u "hasPrefix"), (0, u "(Ljava/lang/String;)Z"), (3, u "law"), (0, u "(IIII)Z")] 4

def k1m0 : Method := { name := "<init>", desc := "()V", sig := { parameters := [], returnType := none }, accessFlags := 2, code := none }
def k1c1 : Code := { maxStack := 2, maxLocals := 2, code := method_2_code, exceptionTable := #[], attributes := #[] }
def k1m1 : Method := { name := "ch", desc := "(I)C", sig := { parameters := [.int], returnType := some .char }, accessFlags := 10, code := some k1c1 }
def k1c2 : Code := { maxStack := 2, maxLocals := 1, code := method_3_code, exceptionTable := #[], attributes := #[] }
def k1m2 : Method := { name := "hasPrefix", desc := "(Ljava/lang/String;)Z", sig := { parameters := [(.object "java/lang/String")], returnType := some .boolean }, accessFlags := 10, code := some k1c2 }
def k1c3 : Code := { maxStack := 4, maxLocals := 12, code := code, exceptionTable := #[], attributes := #[] }
def k1m3 : Method := { name := "law", desc := "(IIII)Z", sig := { parameters := [.int, .int, .int, .int], returnType := some .boolean }, accessFlags := 9, code := some k1c3 }
/-- com/example/nearfar_cache/nearfarcache/redis/RedisKeysInvalidationChannelPinLaw -/
def k1 : Class := { plain "com/example/nearfar_cache/nearfarcache/redis/RedisKeysInvalidationChannelPinLaw" (some 0) with
  accessFlags := 49
  interfaces := #[]
  cf := some (fileOf pool1 19 #[] #[{ accessFlags := 2, nameIndex := 5, descriptorIndex := 6, attributes := #[] }, { accessFlags := 10, nameIndex := 22, descriptorIndex := 16, attributes := #[] }, { accessFlags := 10, nameIndex := 39, descriptorIndex := 40, attributes := #[] }, { accessFlags := 9, nameIndex := 44, descriptorIndex := 45, attributes := #[] }] 49 2 #[] #[])
  fields := #[]
  methods := #[k1m0, k1m1, k1m2, k1m3]
  instanceTypes := #[]
  staticTypes := #[]
  resolved := Array.replicate 50 none
  statics := none }

def pool2 : Array CpInfo := pool [(1, .class_ 2), (0, u "java/io/Serializable"), (0, .class_ 4), (0, u "java/lang/Object")] 2

/-- java/io/Serializable -/
def k2 : Class := { plain "java/io/Serializable" (some 0) with
  accessFlags := 1537
  interfaces := #[]
  cf := some (fileOf pool2 1 #[] #[] 1537 3 #[] #[])
  fields := #[]
  methods := #[]
  instanceTypes := #[]
  staticTypes := #[]
  resolved := Array.replicate 7 none
  statics := none }

def pool3 : Array CpInfo := pool [(1, .class_ 2), (0, u "java/lang/Comparable"), (0, .class_ 4), (0, u "java/lang/Object")] 7

/-- java/lang/Comparable -/
def k3 : Class := { plain "java/lang/Comparable" (some 0) with
  accessFlags := 1537
  interfaces := #[]
  cf := some (fileOf pool3 1 #[] #[] 1537 3 #[] #[])
  fields := #[]
  methods := #[]
  instanceTypes := #[]
  staticTypes := #[]
  resolved := Array.replicate 12 none
  statics := none }

def pool4 : Array CpInfo := pool [(2, .class_ 4), (1, u "java/lang/CharSequence"), (42, .class_ 48), (0, u "java/lang/CharSequence$1CodePointIterator"), (10, .class_ 60), (0, u "java/lang/CharSequence$1CharIterator"), (5, .class_ 67), (0, u "java/lang/Object")] 63

/-- java/lang/CharSequence -/
def k4 : Class := { plain "java/lang/CharSequence" (some 0) with
  accessFlags := 1537
  interfaces := #[]
  cf := some (fileOf pool4 2 #[.nestMembers #[47, 59]] #[] 1537 66 #[] #[])
  fields := #[]
  methods := #[]
  instanceTypes := #[]
  staticTypes := #[]
  resolved := Array.replicate 131 none
  statics := none }

def pool5 : Array CpInfo := pool [(1, .class_ 2), (0, u "java/lang/constant/Constable"), (0, .class_ 4), (0, u "java/lang/Object")] 6

/-- java/lang/constant/Constable -/
def k5 : Class := { plain "java/lang/constant/Constable" (some 0) with
  accessFlags := 1537
  interfaces := #[]
  cf := some (fileOf pool5 1 #[] #[] 1537 3 #[] #[])
  fields := #[]
  methods := #[]
  instanceTypes := #[]
  staticTypes := #[]
  resolved := Array.replicate 11 none
  statics := none }

def pool6 : Array CpInfo := pool [(1, .class_ 2), (0, u "java/lang/constant/ConstantDesc"), (0, .class_ 4), (0, u "java/lang/Object")] 32

/-- java/lang/constant/ConstantDesc -/
def k6 : Class := { plain "java/lang/constant/ConstantDesc" (some 0) with
  accessFlags := 1537
  interfaces := #[]
  cf := some (fileOf pool6 1 #[] #[] 1537 3 #[] #[])
  fields := #[]
  methods := #[]
  instanceTypes := #[]
  staticTypes := #[]
  resolved := Array.replicate 37 none
  statics := none }

def pool7 : Array CpInfo := pool [(1, .methodref 2 3), (0, .class_ 4), (0, .nameAndType 5 6), (0, u "java/lang/Object"), (0, u "<init>"), (0, u "()V"), (2, .fieldref 10 11), (0, .class_ 12), (0, .nameAndType 13 14), (0, u "java/lang/String"), (0, u "value"), (0, u "[B"), (0, .fieldref 10 16), (0, .nameAndType 17 18), (0, u "coder"), (0, u "B"), (2, u "hash"), (0, u "I"), (2, u "hashIsZero"), (0, u "Z"), (0, .methodref 10 28), (0, .nameAndType 5 29), (0, u "([CIILjava/lang/Void;)V"), (8, .fieldref 10 39), (0, .nameAndType 40 26), (0, u "COMPACT_STRINGS"), (1, .class_ 44), (1, u "java/lang/StringUTF16"), (0, u "compress"), (1, .methodref 42 48), (0, .nameAndType 49 50), (0, u "coderFromArrayLen"), (0, u "([BI)B"), (3, .methodref 55 56), (0, .class_ 57), (0, .nameAndType 58 59), (0, u "java/util/Arrays"), (0, u "copyOfRange"), (0, u "([BII)[B"), (47, .class_ 109), (1, u "java/lang/StringLatin1"), (32, u "()Z"), (34, .methodref 42 178), (0, .nameAndType 45 179), (0, u "([CII)[B"), (13, .class_ 195), (1, u "java/lang/System"), (16, .methodref 193 213), (0, .nameAndType 214 215), (0, u "arraycopy"), (0, u "(Ljava/lang/Object;ILjava/lang/Object;II)V"), (118, u "()I"), (0, .methodref 10 336), (0, .nameAndType 17 337), (0, u "()B"), (2, u "()[B"), (22, u "([BI)C"), (27, u "(II)V"), (35, u "(I)C"), (61, .methodref 10 490), (0, .nameAndType 5 491), (0, u "(Ljava/lang/AbstractStringBuilder;Ljava/lang/Void;)V"), (0, .methodref 10 493), (0, .nameAndType 494 142), (0, u "isLatin1"), (0, .methodref 107 496), (0, .nameAndType 497 363), (0, u "charAt"), (3, u "checkIndex"), (3, .methodref 10 506), (0, .nameAndType 507 334), (0, u "length"), (24, u "getBytes"), (8, .methodref 107 542), (0, .nameAndType 543 544), (0, u "equals"), (0, u "([B[B)Z"), (4, .methodref 550 506), (0, .class_ 551), (0, u "java/lang/AbstractStringBuilder"), (0, .methodref 550 553), (0, .nameAndType 554 340), (0, u "getValue"), (18, u "(Ljava/lang/Object;)Z"), (1, .class_ 576), (0, u "java/lang/CharSequence"), (22, u "CASE_INSENSITIVE_ORDER"), (0, u "Ljava/util/Comparator;"), (32, .methodref 10 634), (0, .nameAndType 635 636), (0, u "indexOf"), (0, u "(II)I"), (0, .methodref 107 638), (0, .nameAndType 635 639), (0, u "([BIII)I"), (52, u "isEmpty"), (72, u "(I)I"), (55, u "([BIB)V"), (188, u "([C)V"), (36, .methodref 550 493), (5, .fieldref 1054 1055), (0, .class_ 1056), (0, .nameAndType 1057 1058), (0, u "jdk/internal/util/Preconditions"), (0, u "SIOOBE_FORMATTER"), (0, u "Ljava/util/function/BiFunction;"), (0, .methodref 1054 1060), (0, .nameAndType 501 1061), (0, u "(IILjava/util/function/BiFunction;)I"), (39, u "serialPersistentFields"), (0, u "[Ljava/io/ObjectStreamField;"), (0, .class_ 1104), (0, u "java/lang/String$CaseInsensitiveComparator"), (1, .class_ 1107), (0, u "java/io/Serializable"), (0, .class_ 1109), (0, u "java/lang/Comparable"), (0, .class_ 1111), (0, u "java/lang/constant/Constable"), (0, .class_ 1113), (0, u "java/lang/constant/ConstantDesc"), (2, u "serialVersionUID"), (0, u "J"), (3, u "REPL"), (0, u "C"), (2, u "LATIN1"), (1, u "UTF16"), (105, u "(Ljava/lang/StringBuilder;)V")] 217

def k7m0 : Method := { name := "<init>", desc := "()V", sig := { parameters := [], returnType := none }, accessFlags := 1, code := none }
def k7c1 : Code := { maxStack := 5, maxLocals := 2, code := jdk_42_method_3_code, exceptionTable := #[], attributes := #[] }
def k7m1 : Method := { name := "<init>", desc := "([C)V", sig := { parameters := [(.array .char)], returnType := none }, accessFlags := 1, code := some k7c1 }
def k7c2 : Code := { maxStack := 3, maxLocals := 2, code := jdk_42_method_53_code, exceptionTable := #[], attributes := #[] }
def k7m2 : Method := { name := "<init>", desc := "(Ljava/lang/StringBuilder;)V", sig := { parameters := [(.object "java/lang/StringBuilder")], returnType := none }, accessFlags := 1, code := some k7c2 }
def k7c3 : Code := { maxStack := 2, maxLocals := 1, code := jdk_42_method_54_code, exceptionTable := #[], attributes := #[] }
def k7m3 : Method := { name := "length", desc := "()I", sig := { parameters := [], returnType := some .int }, accessFlags := 1, code := some k7c3 }
def k7c4 : Code := { maxStack := 1, maxLocals := 1, code := jdk_42_method_55_code, exceptionTable := #[], attributes := #[] }
def k7m4 : Method := { name := "isEmpty", desc := "()Z", sig := { parameters := [], returnType := some .boolean }, accessFlags := 1, code := some k7c4 }
def k7c5 : Code := { maxStack := 2, maxLocals := 2, code := jdk_42_method_56_code, exceptionTable := #[], attributes := #[] }
def k7m5 : Method := { name := "charAt", desc := "(I)C", sig := { parameters := [.int], returnType := some .char }, accessFlags := 1, code := some k7c5 }
def k7c6 : Code := { maxStack := 2, maxLocals := 3, code := jdk_42_method_66_code, exceptionTable := #[], attributes := #[] }
def k7m6 : Method := { name := "equals", desc := "(Ljava/lang/Object;)Z", sig := { parameters := [(.object "java/lang/Object")], returnType := some .boolean }, accessFlags := 1, code := some k7c6 }
def k7c7 : Code := { maxStack := 3, maxLocals := 2, code := jdk_42_method_79_code, exceptionTable := #[], attributes := #[] }
def k7m7 : Method := { name := "indexOf", desc := "(I)I", sig := { parameters := [.int], returnType := some .int }, accessFlags := 1, code := some k7c7 }
def k7c8 : Code := { maxStack := 4, maxLocals := 3, code := jdk_42_method_80_code, exceptionTable := #[], attributes := #[] }
def k7m8 : Method := { name := "indexOf", desc := "(II)I", sig := { parameters := [.int, .int], returnType := some .int }, accessFlags := 1, code := some k7c8 }
def k7c9 : Code := { maxStack := 5, maxLocals := 4, code := jdk_42_method_147_code, exceptionTable := #[], attributes := #[] }
def k7m9 : Method := { name := "getBytes", desc := "([BIB)V", sig := { parameters := [(.array .byte), .int, .byte], returnType := none }, accessFlags := 0, code := some k7c9 }
def k7c10 : Code := { maxStack := 4, maxLocals := 6, code := jdk_42_method_149_code, exceptionTable := #[], attributes := #[] }
def k7m10 : Method := { name := "<init>", desc := "([CIILjava/lang/Void;)V", sig := { parameters := [(.array .char), .int, .int, (.object "java/lang/Void")], returnType := none }, accessFlags := 2, code := some k7c10 }
def k7c11 : Code := { maxStack := 5, maxLocals := 5, code := jdk_42_method_150_code, exceptionTable := #[], attributes := #[] }
def k7m11 : Method := { name := "<init>", desc := "(Ljava/lang/AbstractStringBuilder;Ljava/lang/Void;)V", sig := { parameters := [(.object "java/lang/AbstractStringBuilder"), (.object "java/lang/Void")], returnType := none }, accessFlags := 0, code := some k7c11 }
def k7c12 : Code := { maxStack := 1, maxLocals := 1, code := jdk_42_method_152_code, exceptionTable := #[], attributes := #[] }
def k7m12 : Method := { name := "coder", desc := "()B", sig := { parameters := [], returnType := some .byte }, accessFlags := 0, code := some k7c12 }
def k7c13 : Code := { maxStack := 1, maxLocals := 1, code := jdk_42_method_154_code, exceptionTable := #[], attributes := #[] }
def k7m13 : Method := { name := "isLatin1", desc := "()Z", sig := { parameters := [], returnType := some .boolean }, accessFlags := 0, code := some k7c13 }
def k7c14 : Code := { maxStack := 3, maxLocals := 2, code := jdk_42_method_155_code, exceptionTable := #[], attributes := #[] }
def k7m14 : Method := { name := "checkIndex", desc := "(II)V", sig := { parameters := [.int, .int], returnType := none }, accessFlags := 8, code := some k7c14 }
/-- java/lang/String -/
def k7 : Class := { plain "java/lang/String" (some 0) with
  accessFlags := 49
  interfaces := #[2, 3, 4, 5, 6]
  cf := some (fileOf pool7 10 #[.nestMembers #[1103]] #[{ accessFlags := 1, nameIndex := 5, descriptorIndex := 6, attributes := #[] }, { accessFlags := 1, nameIndex := 5, descriptorIndex := 1010, attributes := #[] }, { accessFlags := 1, nameIndex := 5, descriptorIndex := 1233, attributes := #[] }, { accessFlags := 1, nameIndex := 507, descriptorIndex := 334, attributes := #[] }, { accessFlags := 1, nameIndex := 692, descriptorIndex := 142, attributes := #[] }, { accessFlags := 1, nameIndex := 497, descriptorIndex := 427, attributes := #[] }, { accessFlags := 1, nameIndex := 543, descriptorIndex := 573, attributes := #[] }, { accessFlags := 1, nameIndex := 635, descriptorIndex := 765, attributes := #[] }, { accessFlags := 1, nameIndex := 635, descriptorIndex := 636, attributes := #[] }, { accessFlags := 0, nameIndex := 532, descriptorIndex := 821, attributes := #[] }, { accessFlags := 2, nameIndex := 5, descriptorIndex := 29, attributes := #[] }, { accessFlags := 0, nameIndex := 5, descriptorIndex := 491, attributes := #[] }, { accessFlags := 0, nameIndex := 17, descriptorIndex := 337, attributes := #[] }, { accessFlags := 0, nameIndex := 494, descriptorIndex := 142, attributes := #[] }, { accessFlags := 8, nameIndex := 501, descriptorIndex := 391, attributes := #[] }] 49 2 #[1106, 1108, 575, 1110, 1112] #[{ accessFlags := 18, nameIndex := 13, descriptorIndex := 14, attributes := #[] }, { accessFlags := 18, nameIndex := 17, descriptorIndex := 18, attributes := #[] }, { accessFlags := 2, nameIndex := 21, descriptorIndex := 22, attributes := #[] }, { accessFlags := 2, nameIndex := 25, descriptorIndex := 26, attributes := #[] }, { accessFlags := 26, nameIndex := 1116, descriptorIndex := 1117, attributes := #[] }, { accessFlags := 24, nameIndex := 40, descriptorIndex := 26, attributes := #[] }, { accessFlags := 26, nameIndex := 1101, descriptorIndex := 1102, attributes := #[] }, { accessFlags := 26, nameIndex := 1121, descriptorIndex := 1122, attributes := #[] }, { accessFlags := 25, nameIndex := 599, descriptorIndex := 600, attributes := #[] }, { accessFlags := 24, nameIndex := 1125, descriptorIndex := 18, attributes := #[] }, { accessFlags := 24, nameIndex := 1127, descriptorIndex := 18, attributes := #[] }])
  fields := #[{ name := "value", type := (.array .byte), accessFlags := 18, slot := 0, constantValue := 0 }, { name := "coder", type := .byte, accessFlags := 18, slot := 1, constantValue := 0 }, { name := "hash", type := .int, accessFlags := 2, slot := 2, constantValue := 0 }, { name := "hashIsZero", type := .boolean, accessFlags := 2, slot := 3, constantValue := 0 }, { name := "serialVersionUID", type := .long, accessFlags := 26, slot := 0, constantValue := 0 }, { name := "COMPACT_STRINGS", type := .boolean, accessFlags := 24, slot := 1, constantValue := 0 }, { name := "serialPersistentFields", type := (.array (.object "java/io/ObjectStreamField")), accessFlags := 26, slot := 2, constantValue := 0 }, { name := "REPL", type := .char, accessFlags := 26, slot := 3, constantValue := 0 }, { name := "CASE_INSENSITIVE_ORDER", type := (.object "java/util/Comparator"), accessFlags := 25, slot := 4, constantValue := 0 }, { name := "LATIN1", type := .byte, accessFlags := 24, slot := 5, constantValue := 0 }, { name := "UTF16", type := .byte, accessFlags := 24, slot := 6, constantValue := 0 }]
  methods := #[k7m0, k7m1, k7m2, k7m3, k7m4, k7m5, k7m6, k7m7, k7m8, k7m9, k7m10, k7m11, k7m12, k7m13, k7m14]
  instanceTypes := #[(.array .byte), .byte, .int, .boolean]
  staticTypes := #[.long, .boolean, (.array (.object "java/io/ObjectStreamField")), .char, (.object "java/util/Comparator"), .byte, .byte]
  resolved := Array.replicate 1451 none
  statics := some 0 }

def pool8 : Array CpInfo := pool [(6, .class_ 8), (1, u "java/lang/Object"), (0, u "<init>"), (0, u "()V"), (1, .class_ 14), (1, u "java/lang/StringUTF16"), (31, u "$assertionsDisabled"), (0, u "Z"), (13, u "HI_BYTE_SHIFT"), (0, u "I"), (2, u "LO_BYTE_SHIFT"), (49, .methodref 12 116), (0, .nameAndType 117 118), (0, u "compress"), (0, u "([CI[BII)I"), (3, u "([CII)[B"), (138, u "coderFromArrayLen"), (0, u "([BI)B"), (106, .class_ 371), (1, u "java/lang/StringUTF16$LinesSpliterator"), (58, u "MAX_LENGTH"), (196, .class_ 628), (0, u "java/lang/StringUTF16$CodePointsSpliterator"), (0, .class_ 630), (0, u "java/lang/StringUTF16$CharsSpliterator")] 4

def k8m0 : Method := { name := "<init>", desc := "()V", sig := { parameters := [], returnType := none }, accessFlags := 0, code := none }
def k8c1 : Code := { maxStack := 2, maxLocals := 2, code := jdk_52_method_15_code, exceptionTable := #[], attributes := #[] }
def k8m1 : Method := { name := "coderFromArrayLen", desc := "([BI)B", sig := { parameters := [(.array .byte), .int], returnType := some .byte }, accessFlags := 8, code := some k8c1 }
def k8c2 : Code := { maxStack := 5, maxLocals := 6, code := jdk_52_method_16_code, exceptionTable := #[], attributes := #[] }
def k8m2 : Method := { name := "compress", desc := "([CII)[B", sig := { parameters := [(.array .char), .int, .int], returnType := some (.array .byte) }, accessFlags := 9, code := some k8c2 }
def k8c3 : Code := { maxStack := 3, maxLocals := 7, code := jdk_52_method_21_code, exceptionTable := #[], attributes := #[] }
def k8m3 : Method := { name := "compress", desc := "([CI[BII)I", sig := { parameters := [(.array .char), .int, (.array .byte), .int, .int], returnType := some .int }, accessFlags := 9, code := some k8c3 }
/-- java/lang/StringUTF16 -/
def k8 : Class := { plain "java/lang/StringUTF16" (some 0) with
  accessFlags := 48
  interfaces := #[]
  cf := some (fileOf pool8 12 #[.nestMembers #[627, 629, 369]] #[{ accessFlags := 0, nameIndex := 9, descriptorIndex := 10, attributes := #[] }, { accessFlags := 8, nameIndex := 261, descriptorIndex := 262, attributes := #[] }, { accessFlags := 9, nameIndex := 117, descriptorIndex := 122, attributes := #[] }, { accessFlags := 9, nameIndex := 117, descriptorIndex := 118, attributes := #[] }] 48 6 #[] #[{ accessFlags := 26, nameIndex := 61, descriptorIndex := 62, attributes := #[] }, { accessFlags := 26, nameIndex := 65, descriptorIndex := 62, attributes := #[] }, { accessFlags := 24, nameIndex := 430, descriptorIndex := 62, attributes := #[] }, { accessFlags := 4120, nameIndex := 46, descriptorIndex := 47, attributes := #[] }])
  fields := #[{ name := "HI_BYTE_SHIFT", type := .int, accessFlags := 26, slot := 0, constantValue := 0 }, { name := "LO_BYTE_SHIFT", type := .int, accessFlags := 26, slot := 1, constantValue := 0 }, { name := "MAX_LENGTH", type := .int, accessFlags := 24, slot := 2, constantValue := 0 }, { name := "$assertionsDisabled", type := .boolean, accessFlags := 4120, slot := 3, constantValue := 0 }]
  methods := #[k8m0, k8m1, k8m2, k8m3]
  instanceTypes := #[]
  staticTypes := #[.int, .int, .int, .boolean]
  resolved := Array.replicate 635 none
  statics := none }

def pool9 : Array CpInfo := pool [(1, .methodref 2 3), (0, .class_ 4), (0, .nameAndType 5 6), (0, u "java/lang/Object"), (0, u "<init>"), (0, u "()V"), (0, .class_ 8), (0, u "java/lang/Record")] 13

def k9c0 : Code := { maxStack := 1, maxLocals := 1, code := jdk_30_method_1_code, exceptionTable := #[], attributes := #[] }
def k9m0 : Method := { name := "<init>", desc := "()V", sig := { parameters := [], returnType := none }, accessFlags := 4, code := some k9c0 }
/-- java/lang/Record -/
def k9 : Class := { plain "java/lang/Record" (some 0) with
  accessFlags := 1057
  interfaces := #[]
  cf := some (fileOf pool9 7 #[] #[{ accessFlags := 4, nameIndex := 5, descriptorIndex := 6, attributes := #[] }] 1057 2 #[] #[])
  fields := #[]
  methods := #[k9m0]
  instanceTypes := #[]
  staticTypes := #[]
  resolved := Array.replicate 22 none
  statics := none }

def pool10 : Array CpInfo := pool [(1, .methodref 2 3), (0, .class_ 4), (0, .nameAndType 5 6), (0, u "java/lang/Record"), (0, u "<init>"), (0, u "()V"), (0, .string 8), (0, u "name"), (0, .methodref 10 11), (0, .class_ 12), (0, .nameAndType 13 14), (0, u "java/util/Objects"), (0, u "requireNonNull"), (0, u "(Ljava/lang/Object;Ljava/lang/String;)Ljava/lang/Object;"), (0, .methodref 16 17), (0, .class_ 18), (0, .nameAndType 19 20), (0, u "java/lang/String"), (0, u "isEmpty"), (0, u "()Z"), (6, u "(Ljava/lang/String;)V"), (0, .class_ 29), (0, u "com/example/nearfar_cache/nearfarcache/Namespace"), (0, .methodref 16 31), (0, .nameAndType 32 33), (0, u "indexOf"), (0, u "(I)I"), (12, u "()Ljava/lang/String;"), (0, .string 48), (0, u "nearfar"), (0, .methodref 16 50), (0, .nameAndType 51 52), (0, u "equals"), (0, u "(Ljava/lang/Object;)Z"), (2, .fieldref 28 56), (0, .nameAndType 8 57), (0, u "Ljava/lang/String;"), (10, u "SEPARATOR"), (0, u "C"), (2, u "RESERVED")] 23

def k10c0 : Code := { maxStack := 4, maxLocals := 2, code := prog_19_method_1_code, exceptionTable := #[], attributes := #[] }
def k10m0 : Method := { name := "<init>", desc := "(Ljava/lang/String;)V", sig := { parameters := [(.object "java/lang/String")], returnType := none }, accessFlags := 1, code := some k10c0 }
def k10c1 : Code := { maxStack := 1, maxLocals := 1, code := prog_19_method_5_code, exceptionTable := #[], attributes := #[] }
def k10m1 : Method := { name := "name", desc := "()Ljava/lang/String;", sig := { parameters := [], returnType := some (.object "java/lang/String") }, accessFlags := 1, code := some k10c1 }
/-- com/example/nearfar_cache/nearfarcache/Namespace -/
def k10 : Class := { plain "com/example/nearfar_cache/nearfarcache/Namespace" (some 9) with
  accessFlags := 49
  interfaces := #[]
  cf := some (fileOf pool10 28 #[] #[{ accessFlags := 1, nameIndex := 5, descriptorIndex := 27, attributes := #[] }, { accessFlags := 1, nameIndex := 8, descriptorIndex := 46, attributes := #[] }] 49 2 #[] #[{ accessFlags := 18, nameIndex := 8, descriptorIndex := 57, attributes := #[] }, { accessFlags := 25, nameIndex := 68, descriptorIndex := 69, attributes := #[] }, { accessFlags := 25, nameIndex := 72, descriptorIndex := 57, attributes := #[] }])
  fields := #[{ name := "name", type := (.object "java/lang/String"), accessFlags := 18, slot := 0, constantValue := 0 }, { name := "SEPARATOR", type := .char, accessFlags := 25, slot := 0, constantValue := 0 }, { name := "RESERVED", type := (.object "java/lang/String"), accessFlags := 25, slot := 1, constantValue := 0 }]
  methods := #[k10m0, k10m1]
  instanceTypes := #[(.object "java/lang/String")]
  staticTypes := #[.char, (.object "java/lang/String")]
  resolved := Array.replicate 96 none
  statics := none }

def pool11 : Array CpInfo := pool [(2, .class_ 4), (1, u "java/lang/Object"), (0, u "<init>"), (0, u "()V"), (35, .class_ 44), (1, u "java/util/Objects"), (0, u "requireNonNull"), (48, u "(Ljava/lang/Object;Ljava/lang/String;)Ljava/lang/Object;")] 89

def k11m0 : Method := { name := "<init>", desc := "()V", sig := { parameters := [], returnType := none }, accessFlags := 2, code := none }
def k11c1 : Code := { maxStack := 3, maxLocals := 2, code := jdk_31_method_11_code, exceptionTable := #[], attributes := #[] }
def k11m1 : Method := { name := "requireNonNull", desc := "(Ljava/lang/Object;Ljava/lang/String;)Ljava/lang/Object;", sig := { parameters := [(.object "java/lang/Object"), (.object "java/lang/String")], returnType := some (.object "java/lang/Object") }, accessFlags := 9, code := some k11c1 }
/-- java/util/Objects -/
def k11 : Class := { plain "java/util/Objects" (some 0) with
  accessFlags := 49
  interfaces := #[]
  cf := some (fileOf pool11 42 #[] #[{ accessFlags := 2, nameIndex := 5, descriptorIndex := 6, attributes := #[] }, { accessFlags := 9, nameIndex := 45, descriptorIndex := 94, attributes := #[] }] 49 2 #[] #[])
  fields := #[]
  methods := #[k11m0, k11m1]
  instanceTypes := #[]
  staticTypes := #[]
  resolved := Array.replicate 184 none
  statics := none }

def pool12 : Array CpInfo := pool [(1, .class_ 2), (0, u "java/lang/String"), (1, .class_ 6), (1, u "java/lang/Object"), (0, u "<init>"), (0, u "()V"), (0, .methodref 1 10), (0, .nameAndType 11 12), (0, u "checkIndex"), (0, u "(II)V"), (1, .class_ 16), (1, u "java/lang/StringLatin1"), (21, .methodref 39 40), (0, .class_ 41), (0, .nameAndType 42 43), (0, u "java/lang/Math"), (0, u "min"), (0, u "(II)I"), (9, u "([BI)C"), (34, .methodref 14 89), (0, .nameAndType 90 91), (0, u "canEncode"), (0, u "(I)Z"), (0, .methodref 39 93), (0, .nameAndType 94 43), (0, u "max"), (0, .methodref 14 96), (0, .nameAndType 97 98), (0, u "indexOfChar"), (0, u "([BIII)I"), (2, u "indexOf"), (19, u "$assertionsDisabled"), (0, u "Z"), (98, .class_ 223), (1, u "java/lang/StringLatin1$LinesSpliterator"), (28, u "charAt"), (28, u "equals"), (0, u "([B[B)Z"), (107, .class_ 391), (0, u "java/lang/StringLatin1$CharsSpliterator")] 3

def k12m0 : Method := { name := "<init>", desc := "()V", sig := { parameters := [], returnType := none }, accessFlags := 0, code := none }
def k12c1 : Code := { maxStack := 2, maxLocals := 2, code := jdk_43_method_2_code, exceptionTable := #[], attributes := #[] }
def k12m1 : Method := { name := "charAt", desc := "([BI)C", sig := { parameters := [(.array .byte), .int], returnType := some .char }, accessFlags := 9, code := some k12c1 }
def k12c2 : Code := { maxStack := 2, maxLocals := 1, code := jdk_43_method_4_code, exceptionTable := #[], attributes := #[] }
def k12m2 : Method := { name := "canEncode", desc := "(I)Z", sig := { parameters := [.int], returnType := some .boolean }, accessFlags := 9, code := some k12c2 }
def k12c3 : Code := { maxStack := 3, maxLocals := 3, code := jdk_43_method_13_code, exceptionTable := #[], attributes := #[] }
def k12m3 : Method := { name := "equals", desc := "([B[B)Z", sig := { parameters := [(.array .byte), (.array .byte)], returnType := some .boolean }, accessFlags := 9, code := some k12c3 }
def k12c4 : Code := { maxStack := 4, maxLocals := 4, code := jdk_43_method_22_code, exceptionTable := #[], attributes := #[] }
def k12m4 : Method := { name := "indexOf", desc := "([BIII)I", sig := { parameters := [(.array .byte), .int, .int, .int], returnType := some .int }, accessFlags := 9, code := some k12c4 }
def k12c5 : Code := { maxStack := 2, maxLocals := 6, code := jdk_43_method_23_code, exceptionTable := #[], attributes := #[] }
def k12m5 : Method := { name := "indexOfChar", desc := "([BIII)I", sig := { parameters := [(.array .byte), .int, .int, .int], returnType := some .int }, accessFlags := 10, code := some k12c5 }
/-- java/lang/StringLatin1 -/
def k12 : Class := { plain "java/lang/StringLatin1" (some 0) with
  accessFlags := 48
  interfaces := #[]
  cf := some (fileOf pool12 14 #[.nestMembers #[390, 221]] #[{ accessFlags := 0, nameIndex := 7, descriptorIndex := 8, attributes := #[] }, { accessFlags := 9, nameIndex := 252, descriptorIndex := 53, attributes := #[] }, { accessFlags := 9, nameIndex := 90, descriptorIndex := 91, attributes := #[] }, { accessFlags := 9, nameIndex := 281, descriptorIndex := 282, attributes := #[] }, { accessFlags := 9, nameIndex := 101, descriptorIndex := 98, attributes := #[] }, { accessFlags := 10, nameIndex := 97, descriptorIndex := 98, attributes := #[] }] 48 4 #[] #[{ accessFlags := 4120, nameIndex := 121, descriptorIndex := 122, attributes := #[] }])
  fields := #[{ name := "$assertionsDisabled", type := .boolean, accessFlags := 4120, slot := 0, constantValue := 0 }]
  methods := #[k12m0, k12m1, k12m2, k12m3, k12m4, k12m5]
  instanceTypes := #[]
  staticTypes := #[.boolean]
  resolved := Array.replicate 395 none
  statics := none }

def pool13 : Array CpInfo := pool [(1, .class_ 2), (0, u "java/lang/Math"), (1, .class_ 6), (1, u "java/lang/Object"), (0, u "<init>"), (0, u "()V"), (89, .class_ 100), (1, u "java/lang/Math$RandomNumberGeneratorHolder"), (71, u "negativeZeroFloatBits"), (0, u "J"), (2, u "negativeZeroDoubleBits"), (21, u "max"), (2, u "min"), (43, u "$assertionsDisabled"), (0, u "Z"), (88, u "(II)I"), (2, u "twoToTheDoubleScaleDown"), (0, u "D"), (4, u "twoToTheDoubleScaleUp"), (9, u "E"), (3, u "PI"), (2, u "TAU"), (2, u "DEGREES_TO_RADIANS"), (0, u "RADIANS_TO_DEGREES")] 94

def k13m0 : Method := { name := "<init>", desc := "()V", sig := { parameters := [], returnType := none }, accessFlags := 2, code := none }
def k13c1 : Code := { maxStack := 2, maxLocals := 2, code := jdk_29_method_65_code, exceptionTable := #[], attributes := #[] }
def k13m1 : Method := { name := "max", desc := "(II)I", sig := { parameters := [.int, .int], returnType := some .int }, accessFlags := 9, code := some k13c1 }
def k13c2 : Code := { maxStack := 2, maxLocals := 2, code := jdk_29_method_69_code, exceptionTable := #[], attributes := #[] }
def k13m2 : Method := { name := "min", desc := "(II)I", sig := { parameters := [.int, .int], returnType := some .int }, accessFlags := 9, code := some k13c2 }
/-- java/lang/Math -/
def k13 : Class := { plain "java/lang/Math" (some 0) with
  accessFlags := 49
  interfaces := #[]
  cf := some (fileOf pool13 1 #[.nestMembers #[98]] #[{ accessFlags := 2, nameIndex := 7, descriptorIndex := 8, attributes := #[] }, { accessFlags := 9, nameIndex := 198, descriptorIndex := 335, attributes := #[] }, { accessFlags := 9, nameIndex := 201, descriptorIndex := 335, attributes := #[] }] 49 4 #[] #[{ accessFlags := 25, nameIndex := 354, descriptorIndex := 339, attributes := #[] }, { accessFlags := 25, nameIndex := 358, descriptorIndex := 339, attributes := #[] }, { accessFlags := 25, nameIndex := 361, descriptorIndex := 339, attributes := #[] }, { accessFlags := 26, nameIndex := 364, descriptorIndex := 339, attributes := #[] }, { accessFlags := 26, nameIndex := 365, descriptorIndex := 339, attributes := #[] }, { accessFlags := 26, nameIndex := 172, descriptorIndex := 173, attributes := #[] }, { accessFlags := 26, nameIndex := 176, descriptorIndex := 173, attributes := #[] }, { accessFlags := 8, nameIndex := 344, descriptorIndex := 339, attributes := #[] }, { accessFlags := 8, nameIndex := 338, descriptorIndex := 339, attributes := #[] }, { accessFlags := 4120, nameIndex := 245, descriptorIndex := 246, attributes := #[] }])
  fields := #[{ name := "E", type := .double, accessFlags := 25, slot := 0, constantValue := 0 }, { name := "PI", type := .double, accessFlags := 25, slot := 1, constantValue := 0 }, { name := "TAU", type := .double, accessFlags := 25, slot := 2, constantValue := 0 }, { name := "DEGREES_TO_RADIANS", type := .double, accessFlags := 26, slot := 3, constantValue := 0 }, { name := "RADIANS_TO_DEGREES", type := .double, accessFlags := 26, slot := 4, constantValue := 0 }, { name := "negativeZeroFloatBits", type := .long, accessFlags := 26, slot := 5, constantValue := 0 }, { name := "negativeZeroDoubleBits", type := .long, accessFlags := 26, slot := 6, constantValue := 0 }, { name := "twoToTheDoubleScaleUp", type := .double, accessFlags := 8, slot := 7, constantValue := 0 }, { name := "twoToTheDoubleScaleDown", type := .double, accessFlags := 8, slot := 8, constantValue := 0 }, { name := "$assertionsDisabled", type := .boolean, accessFlags := 4120, slot := 9, constantValue := 0 }]
  methods := #[k13m0, k13m1, k13m2]
  instanceTypes := #[]
  staticTypes := #[.double, .double, .double, .double, .double, .long, .long, .double, .double, .boolean]
  resolved := Array.replicate 460 none
  statics := none }

def pool14 : Array CpInfo := pool [(2, .class_ 4), (0, .nameAndType 5 6), (0, u "java/lang/Object"), (0, u "<init>"), (0, u "()V"), (0, .string 8), (0, u "namespace"), (0, .methodref 10 11), (0, .class_ 12), (0, .nameAndType 13 14), (0, u "java/util/Objects"), (0, u "requireNonNull"), (0, u "(Ljava/lang/Object;Ljava/lang/String;)Ljava/lang/Object;"), (2, .class_ 18), (0, u "java/lang/StringBuilder"), (0, .methodref 17 3), (0, .methodref 21 22), (0, .class_ 23), (0, .nameAndType 24 25), (0, u "com/example/nearfar_cache/nearfarcache/Namespace"), (0, u "name"), (0, u "()Ljava/lang/String;"), (0, .methodref 17 27), (0, .nameAndType 28 29), (0, u "append"), (0, u "(Ljava/lang/String;)Ljava/lang/StringBuilder;"), (3, .methodref 17 34), (0, .nameAndType 35 25), (0, u "toString"), (0, .class_ 37), (0, u "com/example/nearfar_cache/nearfarcache/redis/RedisKeys"), (6, .string 45), (0, u "nearfar:invalidations:"), (0, u "FILLS_PREFIX"), (0, u "Ljava/lang/String;"), (1, u "INVALIDATION_CHANNEL_PREFIX"), (3, u "invalidationChannel"), (0, u "(Lcom/example/nearfar_cache/nearfarcache/Namespace;)Ljava/lang/String;")] 2

def k14m0 : Method := { name := "<init>", desc := "()V", sig := { parameters := [], returnType := none }, accessFlags := 2, code := none }
def k14c1 : Code := { maxStack := 2, maxLocals := 1, code := prog_26_method_4_code, exceptionTable := #[], attributes := #[] }
def k14m1 : Method := { name := "invalidationChannel", desc := "(Lcom/example/nearfar_cache/nearfarcache/Namespace;)Ljava/lang/String;", sig := { parameters := [(.object "com/example/nearfar_cache/nearfarcache/Namespace")], returnType := some (.object "java/lang/String") }, accessFlags := 9, code := some k14c1 }
/-- com/example/nearfar_cache/nearfarcache/redis/RedisKeys -/
def k14 : Class := { plain "com/example/nearfar_cache/nearfarcache/redis/RedisKeys" (some 0) with
  accessFlags := 49
  interfaces := #[]
  cf := some (fileOf pool14 36 #[] #[{ accessFlags := 2, nameIndex := 5, descriptorIndex := 6, attributes := #[] }, { accessFlags := 9, nameIndex := 53, descriptorIndex := 54, attributes := #[] }] 49 2 #[] #[{ accessFlags := 26, nameIndex := 46, descriptorIndex := 47, attributes := #[] }, { accessFlags := 26, nameIndex := 49, descriptorIndex := 47, attributes := #[] }])
  fields := #[{ name := "FILLS_PREFIX", type := (.object "java/lang/String"), accessFlags := 26, slot := 0, constantValue := 0 }, { name := "INVALIDATION_CHANNEL_PREFIX", type := (.object "java/lang/String"), accessFlags := 26, slot := 1, constantValue := 0 }]
  methods := #[k14m0, k14m1]
  instanceTypes := #[]
  staticTypes := #[(.object "java/lang/String"), (.object "java/lang/String")]
  resolved := Array.replicate 57 none
  statics := none }

def pool15 : Array CpInfo := pool [(1, .class_ 2), (0, u "java/lang/Appendable"), (0, .class_ 4), (0, u "java/lang/Object")] 9

/-- java/lang/Appendable -/
def k15 : Class := { plain "java/lang/Appendable" (some 0) with
  accessFlags := 1537
  interfaces := #[]
  cf := some (fileOf pool15 1 #[] #[] 1537 3 #[] #[])
  fields := #[]
  methods := #[]
  instanceTypes := #[]
  staticTypes := #[]
  resolved := Array.replicate 14 none
  statics := none }

def pool16 : Array CpInfo := pool [(1, .class_ 2), (0, u "java/lang/String"), (0, .methodref 4 5), (0, .class_ 6), (0, .nameAndType 7 8), (0, u "java/lang/Object"), (0, u "<init>"), (0, u "()V"), (1, .class_ 12), (1, u "java/lang/AbstractStringBuilder"), (0, u "EMPTYVALUE"), (0, u "[B"), (0, .fieldref 10 16), (0, .nameAndType 17 14), (0, u "value"), (0, .fieldref 1 19), (0, .nameAndType 20 21), (0, u "COMPACT_STRINGS"), (0, u "Z"), (0, .fieldref 10 23), (0, .nameAndType 24 25), (0, u "coder"), (0, u "B"), (6, .methodref 1 33), (0, .nameAndType 34 35), (0, u "length"), (0, u "()I"), (3, .integer 2147483647), (0, .methodref 1 41), (0, .nameAndType 24 42), (0, u "()B"), (2, u "append"), (0, u "(Ljava/lang/String;)Ljava/lang/AbstractStringBuilder;"), (1, .class_ 49), (0, u "java/lang/CharSequence"), (19, u "(Ljava/lang/String;)V"), (5, u "maybeLatin1"), (3, .fieldref 10 80), (0, .nameAndType 81 82), (0, u "count"), (0, u "I"), (2, u "isLatin1"), (0, u "()Z"), (13, .methodref 10 101), (0, .nameAndType 102 103), (0, u "ensureCapacityInternal"), (0, u "(I)V"), (0, .methodref 10 105), (0, .nameAndType 106 107), (0, u "newCapacity"), (0, u "(I)I"), (0, .methodref 109 110), (0, .class_ 111), (0, .nameAndType 112 113), (0, u "java/util/Arrays"), (0, u "copyOf"), (0, u "([BI)[B"), (0, .methodref 115 116), (0, .class_ 117), (0, .nameAndType 118 119), (0, u "jdk/internal/util/ArraysSupport"), (0, u "newLength"), (0, u "(III)I"), (88, .methodref 10 209), (0, .nameAndType 210 211), (0, u "putStringAt"), (0, u "(ILjava/lang/String;)V"), (5, u "inflateIfNeededFor"), (2, .nameAndType 221 222), (0, u "getBytes"), (0, u "([BIB)V"), (174, .methodref 10 398), (0, .nameAndType 217 69), (0, .methodref 1 220), (3, u "()[B"), (40, .class_ 445), (0, u "java/lang/Appendable"), (106, u "getValue")] 56

def k16m0 : Method := { name := "<init>", desc := "()V", sig := { parameters := [], returnType := none }, accessFlags := 0, code := none }
def k16c1 : Code := { maxStack := 2, maxLocals := 2, code := jdk_68_method_2_code, exceptionTable := #[], attributes := #[] }
def k16m1 : Method := { name := "<init>", desc := "(I)V", sig := { parameters := [.int], returnType := none }, accessFlags := 0, code := some k16c1 }
def k16c2 : Code := { maxStack := 1, maxLocals := 1, code := jdk_68_method_6_code, exceptionTable := #[], attributes := #[] }
def k16m2 : Method := { name := "length", desc := "()I", sig := { parameters := [], returnType := some .int }, accessFlags := 1, code := some k16c2 }
def k16c3 : Code := { maxStack := 4, maxLocals := 3, code := jdk_68_method_9_code, exceptionTable := #[], attributes := #[] }
def k16m3 : Method := { name := "ensureCapacityInternal", desc := "(I)V", sig := { parameters := [.int], returnType := none }, accessFlags := 2, code := some k16c3 }
def k16c4 : Code := { maxStack := 5, maxLocals := 6, code := jdk_68_method_10_code, exceptionTable := #[], attributes := #[] }
def k16m4 : Method := { name := "newCapacity", desc := "(I)I", sig := { parameters := [.int], returnType := some .int }, accessFlags := 2, code := some k16c4 }
def k16c5 : Code := { maxStack := 3, maxLocals := 3, code := jdk_68_method_22_code, exceptionTable := #[], attributes := #[] }
def k16m5 : Method := { name := "append", desc := "(Ljava/lang/String;)Ljava/lang/AbstractStringBuilder;", sig := { parameters := [(.object "java/lang/String")], returnType := some (.object "java/lang/AbstractStringBuilder") }, accessFlags := 1, code := some k16c5 }
def k16c6 : Code := { maxStack := 1, maxLocals := 1, code := jdk_68_method_64_code, exceptionTable := #[], attributes := #[] }
def k16m6 : Method := { name := "getValue", desc := "()[B", sig := { parameters := [], returnType := some (.array .byte) }, accessFlags := 16, code := some k16c6 }
def k16c7 : Code := { maxStack := 1, maxLocals := 1, code := jdk_68_method_68_code, exceptionTable := #[], attributes := #[] }
def k16m7 : Method := { name := "isLatin1", desc := "()Z", sig := { parameters := [], returnType := some .boolean }, accessFlags := 16, code := some k16c7 }
def k16c8 : Code := { maxStack := 2, maxLocals := 2, code := jdk_68_method_71_code, exceptionTable := #[], attributes := #[] }
def k16m8 : Method := { name := "inflateIfNeededFor", desc := "(Ljava/lang/String;)V", sig := { parameters := [(.object "java/lang/String")], returnType := none }, accessFlags := 2, code := some k16c8 }
def k16c9 : Code := { maxStack := 4, maxLocals := 3, code := jdk_68_method_73_code, exceptionTable := #[], attributes := #[] }
def k16m9 : Method := { name := "putStringAt", desc := "(ILjava/lang/String;)V", sig := { parameters := [.int, (.object "java/lang/String")], returnType := none }, accessFlags := 2, code := some k16c9 }
/-- java/lang/AbstractStringBuilder -/
def k16 : Class := { plain "java/lang/AbstractStringBuilder" (some 0) with
  accessFlags := 1056
  interfaces := #[15, 4]
  cf := some (fileOf pool16 10 #[] #[{ accessFlags := 0, nameIndex := 7, descriptorIndex := 8, attributes := #[] }, { accessFlags := 0, nameIndex := 7, descriptorIndex := 103, attributes := #[] }, { accessFlags := 1, nameIndex := 34, descriptorIndex := 35, attributes := #[] }, { accessFlags := 2, nameIndex := 102, descriptorIndex := 103, attributes := #[] }, { accessFlags := 2, nameIndex := 106, descriptorIndex := 107, attributes := #[] }, { accessFlags := 1, nameIndex := 45, descriptorIndex := 46, attributes := #[] }, { accessFlags := 16, nameIndex := 552, descriptorIndex := 403, attributes := #[] }, { accessFlags := 16, nameIndex := 85, descriptorIndex := 86, attributes := #[] }, { accessFlags := 2, nameIndex := 217, descriptorIndex := 69, attributes := #[] }, { accessFlags := 2, nameIndex := 210, descriptorIndex := 211, attributes := #[] }] 1056 4 #[444, 48] #[{ accessFlags := 0, nameIndex := 17, descriptorIndex := 14, attributes := #[] }, { accessFlags := 0, nameIndex := 24, descriptorIndex := 25, attributes := #[] }, { accessFlags := 0, nameIndex := 75, descriptorIndex := 21, attributes := #[] }, { accessFlags := 0, nameIndex := 81, descriptorIndex := 82, attributes := #[] }, { accessFlags := 26, nameIndex := 13, descriptorIndex := 14, attributes := #[] }])
  fields := #[{ name := "value", type := (.array .byte), accessFlags := 0, slot := 0, constantValue := 0 }, { name := "coder", type := .byte, accessFlags := 0, slot := 1, constantValue := 0 }, { name := "maybeLatin1", type := .boolean, accessFlags := 0, slot := 2, constantValue := 0 }, { name := "count", type := .int, accessFlags := 0, slot := 3, constantValue := 0 }, { name := "EMPTYVALUE", type := (.array .byte), accessFlags := 26, slot := 0, constantValue := 0 }]
  methods := #[k16m0, k16m1, k16m2, k16m3, k16m4, k16m5, k16m6, k16m7, k16m8, k16m9]
  instanceTypes := #[(.array .byte), .byte, .boolean, .int]
  staticTypes := #[(.array .byte)]
  resolved := Array.replicate 609 none
  statics := none }

def pool17 : Array CpInfo := pool [(1, .methodref 2 3), (0, .class_ 4), (0, .nameAndType 5 6), (0, u "java/lang/AbstractStringBuilder"), (0, u "<init>"), (0, u "(I)V"), (11, .class_ 20), (1, u "java/lang/String"), (3, .class_ 26), (1, u "java/lang/StringBuilder"), (0, u "append"), (0, u "(Ljava/lang/String;)Ljava/lang/StringBuilder;"), (0, .methodref 2 30), (0, .nameAndType 27 31), (0, u "(Ljava/lang/String;)Ljava/lang/AbstractStringBuilder;"), (105, .methodref 18 138), (0, .nameAndType 5 139), (0, u "(Ljava/lang/StringBuilder;)V"), (5, u "()V"), (10, u "()I"), (186, .methodref 2 344), (0, .nameAndType 345 156), (0, u "length"), (3, .class_ 350), (0, u "java/lang/Appendable"), (0, .class_ 352), (0, u "java/io/Serializable"), (0, .class_ 354), (0, u "java/lang/Comparable"), (0, .class_ 356), (0, u "java/lang/CharSequence"), (0, u "serialVersionUID"), (0, u "J"), (40, u "toString"), (0, u "()Ljava/lang/String;")] 21

def k17c0 : Code := { maxStack := 2, maxLocals := 1, code := jdk_67_method_1_code, exceptionTable := #[], attributes := #[] }
def k17m0 : Method := { name := "<init>", desc := "()V", sig := { parameters := [], returnType := none }, accessFlags := 1, code := some k17c0 }
def k17c1 : Code := { maxStack := 2, maxLocals := 2, code := jdk_67_method_7_code, exceptionTable := #[], attributes := #[] }
def k17m1 : Method := { name := "append", desc := "(Ljava/lang/String;)Ljava/lang/StringBuilder;", sig := { parameters := [(.object "java/lang/String")], returnType := some (.object "java/lang/StringBuilder") }, accessFlags := 1, code := some k17c1 }
def k17c2 : Code := { maxStack := 3, maxLocals := 1, code := jdk_67_method_42_code, exceptionTable := #[], attributes := #[] }
def k17m2 : Method := { name := "toString", desc := "()Ljava/lang/String;", sig := { parameters := [], returnType := some (.object "java/lang/String") }, accessFlags := 1, code := some k17c2 }
def k17c3 : Code := { maxStack := 1, maxLocals := 1, code := jdk_67_method_93_code, exceptionTable := #[], attributes := #[] }
def k17m3 : Method := { name := "length", desc := "()I", sig := { parameters := [], returnType := some .int }, accessFlags := 4161, code := some k17c3 }
/-- java/lang/StringBuilder -/
def k17 : Class := { plain "java/lang/StringBuilder" (some 16) with
  accessFlags := 49
  interfaces := #[15, 2, 3, 4]
  cf := some (fileOf pool17 24 #[] #[{ accessFlags := 1, nameIndex := 5, descriptorIndex := 145, attributes := #[] }, { accessFlags := 1, nameIndex := 27, descriptorIndex := 28, attributes := #[] }, { accessFlags := 1, nameIndex := 399, descriptorIndex := 400, attributes := #[] }, { accessFlags := 4161, nameIndex := 345, descriptorIndex := 156, attributes := #[] }] 49 2 #[349, 351, 353, 355] #[{ accessFlags := 24, nameIndex := 357, descriptorIndex := 358, attributes := #[] }])
  fields := #[{ name := "serialVersionUID", type := .long, accessFlags := 24, slot := 0, constantValue := 0 }]
  methods := #[k17m0, k17m1, k17m2, k17m3]
  instanceTypes := #[(.array .byte), .byte, .boolean, .int]
  staticTypes := #[.long]
  resolved := Array.replicate 422 none
  statics := none }

def pool18 : Array CpInfo := pool [(9, u "<init>"), (6, .class_ 18), (1, u "java/lang/Object"), (0, u "()V"), (1, .class_ 23), (1, u "jdk/internal/util/ArraysSupport"), (0, u "LOG2_ARRAY_LONG_INDEX_SCALE"), (0, u "I"), (2, u "U"), (0, u "Ljdk/internal/misc/Unsafe;"), (8, u "BIG_ENDIAN"), (0, u "Z"), (8, u "LOG2_BYTE_BIT_SIZE"), (4, u "LOG2_ARRAY_INT_INDEX_SCALE"), (54, u "JLA"), (0, u "Ljdk/internal/access/JavaLangAccess;"), (11, u "LOG2_ARRAY_BOOLEAN_INDEX_SCALE"), (9, u "LOG2_ARRAY_BYTE_INDEX_SCALE"), (5, u "LOG2_ARRAY_CHAR_INDEX_SCALE"), (5, u "LOG2_ARRAY_SHORT_INDEX_SCALE"), (18, u "LOG2_ARRAY_FLOAT_INDEX_SCALE"), (24, u "LOG2_ARRAY_DOUBLE_INDEX_SCALE"), (6, .methodref 195 196), (0, .class_ 197), (0, .nameAndType 198 199), (0, u "java/lang/Math"), (0, u "max"), (0, u "(II)I"), (0, .integer 2147483639), (76, u "T_BOOLEAN"), (2, u "T_CHAR"), (1, u "T_FLOAT"), (1, u "T_DOUBLE"), (1, u "T_BYTE"), (1, u "T_SHORT"), (1, u "T_INT"), (1, u "T_LONG"), (1, u "SOFT_MAX_ARRAY_LENGTH"), (56, u "newLength"), (0, u "(III)I")] 25

def k18m0 : Method := { name := "<init>", desc := "()V", sig := { parameters := [], returnType := none }, accessFlags := 2, code := none }
def k18c1 : Code := { maxStack := 3, maxLocals := 4, code := jdk_48_method_27_code, exceptionTable := #[], attributes := #[] }
def k18m1 : Method := { name := "newLength", desc := "(III)I", sig := { parameters := [.int, .int, .int], returnType := some .int }, accessFlags := 9, code := some k18c1 }
/-- jdk/internal/util/ArraysSupport -/
def k18 : Class := { plain "jdk/internal/util/ArraysSupport" (some 0) with
  accessFlags := 33
  interfaces := #[]
  cf := some (fileOf pool18 21 #[] #[{ accessFlags := 2, nameIndex := 9, descriptorIndex := 19, attributes := #[] }, { accessFlags := 9, nameIndex := 351, descriptorIndex := 352, attributes := #[] }] 33 16 #[] #[{ accessFlags := 24, nameIndex := 28, descriptorIndex := 29, attributes := #[] }, { accessFlags := 26, nameIndex := 38, descriptorIndex := 39, attributes := #[] }, { accessFlags := 25, nameIndex := 121, descriptorIndex := 25, attributes := #[] }, { accessFlags := 25, nameIndex := 131, descriptorIndex := 25, attributes := #[] }, { accessFlags := 25, nameIndex := 137, descriptorIndex := 25, attributes := #[] }, { accessFlags := 25, nameIndex := 143, descriptorIndex := 25, attributes := #[] }, { accessFlags := 25, nameIndex := 53, descriptorIndex := 25, attributes := #[] }, { accessFlags := 25, nameIndex := 24, descriptorIndex := 25, attributes := #[] }, { accessFlags := 25, nameIndex := 162, descriptorIndex := 25, attributes := #[] }, { accessFlags := 25, nameIndex := 187, descriptorIndex := 25, attributes := #[] }, { accessFlags := 26, nameIndex := 48, descriptorIndex := 25, attributes := #[] }, { accessFlags := 25, nameIndex := 277, descriptorIndex := 25, attributes := #[] }, { accessFlags := 25, nameIndex := 280, descriptorIndex := 25, attributes := #[] }, { accessFlags := 25, nameIndex := 282, descriptorIndex := 25, attributes := #[] }, { accessFlags := 25, nameIndex := 284, descriptorIndex := 25, attributes := #[] }, { accessFlags := 25, nameIndex := 286, descriptorIndex := 25, attributes := #[] }, { accessFlags := 25, nameIndex := 288, descriptorIndex := 25, attributes := #[] }, { accessFlags := 25, nameIndex := 290, descriptorIndex := 25, attributes := #[] }, { accessFlags := 25, nameIndex := 292, descriptorIndex := 25, attributes := #[] }, { accessFlags := 26, nameIndex := 108, descriptorIndex := 109, attributes := #[] }, { accessFlags := 25, nameIndex := 294, descriptorIndex := 25, attributes := #[] }])
  fields := #[{ name := "U", type := (.object "jdk/internal/misc/Unsafe"), accessFlags := 24, slot := 0, constantValue := 0 }, { name := "BIG_ENDIAN", type := .boolean, accessFlags := 26, slot := 1, constantValue := 0 }, { name := "LOG2_ARRAY_BOOLEAN_INDEX_SCALE", type := .int, accessFlags := 25, slot := 2, constantValue := 0 }, { name := "LOG2_ARRAY_BYTE_INDEX_SCALE", type := .int, accessFlags := 25, slot := 3, constantValue := 0 }, { name := "LOG2_ARRAY_CHAR_INDEX_SCALE", type := .int, accessFlags := 25, slot := 4, constantValue := 0 }, { name := "LOG2_ARRAY_SHORT_INDEX_SCALE", type := .int, accessFlags := 25, slot := 5, constantValue := 0 }, { name := "LOG2_ARRAY_INT_INDEX_SCALE", type := .int, accessFlags := 25, slot := 6, constantValue := 0 }, { name := "LOG2_ARRAY_LONG_INDEX_SCALE", type := .int, accessFlags := 25, slot := 7, constantValue := 0 }, { name := "LOG2_ARRAY_FLOAT_INDEX_SCALE", type := .int, accessFlags := 25, slot := 8, constantValue := 0 }, { name := "LOG2_ARRAY_DOUBLE_INDEX_SCALE", type := .int, accessFlags := 25, slot := 9, constantValue := 0 }, { name := "LOG2_BYTE_BIT_SIZE", type := .int, accessFlags := 26, slot := 10, constantValue := 0 }, { name := "T_BOOLEAN", type := .int, accessFlags := 25, slot := 11, constantValue := 0 }, { name := "T_CHAR", type := .int, accessFlags := 25, slot := 12, constantValue := 0 }, { name := "T_FLOAT", type := .int, accessFlags := 25, slot := 13, constantValue := 0 }, { name := "T_DOUBLE", type := .int, accessFlags := 25, slot := 14, constantValue := 0 }, { name := "T_BYTE", type := .int, accessFlags := 25, slot := 15, constantValue := 0 }, { name := "T_SHORT", type := .int, accessFlags := 25, slot := 16, constantValue := 0 }, { name := "T_INT", type := .int, accessFlags := 25, slot := 17, constantValue := 0 }, { name := "T_LONG", type := .int, accessFlags := 25, slot := 18, constantValue := 0 }, { name := "JLA", type := (.object "jdk/internal/access/JavaLangAccess"), accessFlags := 26, slot := 19, constantValue := 0 }, { name := "SOFT_MAX_ARRAY_LENGTH", type := .int, accessFlags := 25, slot := 20, constantValue := 0 }]
  methods := #[k18m0, k18m1]
  instanceTypes := #[]
  staticTypes := #[(.object "jdk/internal/misc/Unsafe"), .boolean, .int, .int, .int, .int, .int, .int, .int, .int, .int, .int, .int, .int, .int, .int, .int, .int, .int, (.object "jdk/internal/access/JavaLangAccess"), .int]
  resolved := Array.replicate 378 none
  statics := none }

def pool19 : Array CpInfo := pool [(2, .class_ 4), (1, u "java/lang/Object"), (0, u "<init>"), (0, u "()V"), (7, .class_ 16), (1, u "java/util/Arrays"), (57, .class_ 76), (1, u "java/util/Arrays$NaturalOrder"), (36, .class_ 115), (1, u "java/util/Arrays$LegacyMergeSort"), (1, u "Z"), (21, u "copyOfRange"), (10, .methodref 151 152), (0, .class_ 153), (0, .nameAndType 154 155), (0, u "java/lang/System"), (0, u "arraycopy"), (0, u "(Ljava/lang/Object;ILjava/lang/Object;II)V"), (146, u "copyOf"), (1, .methodref 305 306), (0, .class_ 307), (0, .nameAndType 308 309), (0, u "java/lang/Math"), (0, u "min"), (0, u "(II)I"), (29, .methodref 14 340), (0, .nameAndType 341 342), (0, u "copyOfRangeByte"), (0, u "([BII)[B"), (0, .methodref 14 344), (0, .nameAndType 345 346), (0, u "checkLength"), (0, u "(II)V"), (28, .class_ 376), (0, u "java/util/Arrays$ArrayList"), (68, u "$assertionsDisabled"), (269, u "MIN_ARRAY_SORT_GRAN"), (0, u "I"), (2, u "INSERTIONSORT_THRESHOLD"), (149, u "([BI)[B"), (105, .class_ 976), (0, u "java/util/Arrays$ArrayItr")] 52

def k19m0 : Method := { name := "<init>", desc := "()V", sig := { parameters := [], returnType := none }, accessFlags := 2, code := none }
def k19c1 : Code := { maxStack := 6, maxLocals := 3, code := jdk_65_method_121_code, exceptionTable := #[], attributes := #[] }
def k19m1 : Method := { name := "copyOf", desc := "([BI)[B", sig := { parameters := [(.array .byte), .int], returnType := some (.array .byte) }, accessFlags := 9, code := some k19c1 }
def k19c2 : Code := { maxStack := 4, maxLocals := 2, code := jdk_65_method_131_code, exceptionTable := #[], attributes := #[] }
def k19m2 : Method := { name := "checkLength", desc := "(II)V", sig := { parameters := [.int, .int], returnType := none }, accessFlags := 10, code := some k19c2 }
def k19c3 : Code := { maxStack := 3, maxLocals := 3, code := jdk_65_method_132_code, exceptionTable := #[], attributes := #[] }
def k19m3 : Method := { name := "copyOfRange", desc := "([BII)[B", sig := { parameters := [(.array .byte), .int, .int], returnType := some (.array .byte) }, accessFlags := 9, code := some k19c3 }
def k19c4 : Code := { maxStack := 6, maxLocals := 5, code := jdk_65_method_133_code, exceptionTable := #[], attributes := #[] }
def k19m4 : Method := { name := "copyOfRangeByte", desc := "([BII)[B", sig := { parameters := [(.array .byte), .int, .int], returnType := some (.array .byte) }, accessFlags := 10, code := some k19c4 }
/-- java/util/Arrays -/
def k19 : Class := { plain "java/util/Arrays" (some 0) with
  accessFlags := 49
  interfaces := #[]
  cf := some (fileOf pool19 14 #[.nestMembers #[975, 375, 113, 74]] #[{ accessFlags := 2, nameIndex := 5, descriptorIndex := 6, attributes := #[] }, { accessFlags := 9, nameIndex := 302, descriptorIndex := 869, attributes := #[] }, { accessFlags := 10, nameIndex := 345, descriptorIndex := 346, attributes := #[] }, { accessFlags := 9, nameIndex := 139, descriptorIndex := 342, attributes := #[] }, { accessFlags := 10, nameIndex := 341, descriptorIndex := 342, attributes := #[] }] 49 2 #[] #[{ accessFlags := 26, nameIndex := 715, descriptorIndex := 716, attributes := #[] }, { accessFlags := 26, nameIndex := 719, descriptorIndex := 716, attributes := #[] }, { accessFlags := 4120, nameIndex := 445, descriptorIndex := 117, attributes := #[] }])
  fields := #[{ name := "MIN_ARRAY_SORT_GRAN", type := .int, accessFlags := 26, slot := 0, constantValue := 0 }, { name := "INSERTIONSORT_THRESHOLD", type := .int, accessFlags := 26, slot := 1, constantValue := 0 }, { name := "$assertionsDisabled", type := .boolean, accessFlags := 4120, slot := 2, constantValue := 0 }]
  methods := #[k19m0, k19m1, k19m2, k19m3, k19m4]
  instanceTypes := #[]
  staticTypes := #[.int, .int, .boolean]
  resolved := Array.replicate 1029 none
  statics := none }

def pool20 : Array CpInfo := pool [(2, .class_ 4), (1, u "java/lang/Object"), (0, u "<init>"), (0, u "()V"), (1, .class_ 10), (1, u "java/lang/System"), (0, u "allowSecurityManager"), (0, u "I"), (16, u "cons"), (0, u "Ljava/io/Console;"), (77, .class_ 110), (1, u "java/lang/System$CallersHolder"), (43, u "initialErrStream"), (0, u "Ljava/io/PrintStream;"), (19, u "security"), (0, u "Ljava/lang/SecurityManager;"), (31, .class_ 209), (0, u "java/lang/System$1"), (7, u "props"), (0, u "Ljava/util/Properties;"), (2, u "lineSeparator"), (0, u "Ljava/lang/String;"), (96, .class_ 321), (1, u "java/lang/System$LoggerFinder"), (5, .class_ 328), (0, u "java/lang/System$Logger"), (67, u "err"), (2, u "out"), (91, u "notSupportedJnuEncoding"), (15, u "in"), (17, u "initialIn"), (0, u "Ljava/io/InputStream;"), (35, u "bootLayer"), (0, u "Ljava/lang/ModuleLayer;"), (99, .class_ 664), (0, u "java/lang/System$2"), (9, u "NEVER"), (2, u "MAYBE"), (49, u "arraycopy"), (0, u "(Ljava/lang/Object;ILjava/lang/Object;II)V"), (72, .class_ 802), (0, u "java/lang/System$Logger$Level")] 31

def k20m0 : Method := { name := "<init>", desc := "()V", sig := { parameters := [], returnType := none }, accessFlags := 2, code := none }
def k20m1 : Method := { name := "arraycopy", desc := "(Ljava/lang/Object;ILjava/lang/Object;II)V", sig := { parameters := [(.object "java/lang/Object"), .int, (.object "java/lang/Object"), .int, .int], returnType := none }, accessFlags := 265, code := none }
/-- java/lang/System -/
def k20 : Class := { plain "java/lang/System" (some 0) with
  accessFlags := 49
  interfaces := #[]
  cf := some (fileOf pool20 8 #[.nestMembers #[319, 327, 801, 108, 663, 208]] #[{ accessFlags := 2, nameIndex := 5, descriptorIndex := 6, attributes := #[] }, { accessFlags := 265, nameIndex := 727, descriptorIndex := 728, attributes := #[] }] 49 2 #[] #[{ accessFlags := 25, nameIndex := 507, descriptorIndex := 526, attributes := #[] }, { accessFlags := 25, nameIndex := 399, descriptorIndex := 155, attributes := #[] }, { accessFlags := 25, nameIndex := 396, descriptorIndex := 155, attributes := #[] }, { accessFlags := 10, nameIndex := 525, descriptorIndex := 526, attributes := #[] }, { accessFlags := 26, nameIndex := 674, descriptorIndex := 12, attributes := #[] }, { accessFlags := 26, nameIndex := 677, descriptorIndex := 12, attributes := #[] }, { accessFlags := 10, nameIndex := 11, descriptorIndex := 12, attributes := #[] }, { accessFlags := 74, nameIndex := 175, descriptorIndex := 176, attributes := #[] }, { accessFlags := 10, nameIndex := 491, descriptorIndex := 222, attributes := #[] }, { accessFlags := 74, nameIndex := 29, descriptorIndex := 30, attributes := #[] }, { accessFlags := 74, nameIndex := 154, descriptorIndex := 155, attributes := #[] }, { accessFlags := 10, nameIndex := 217, descriptorIndex := 218, attributes := #[] }, { accessFlags := 10, nameIndex := 221, descriptorIndex := 222, attributes := #[] }, { accessFlags := 8, nameIndex := 562, descriptorIndex := 563, attributes := #[] }])
  fields := #[{ name := "in", type := (.object "java/io/InputStream"), accessFlags := 25, slot := 0, constantValue := 0 }, { name := "out", type := (.object "java/io/PrintStream"), accessFlags := 25, slot := 1, constantValue := 0 }, { name := "err", type := (.object "java/io/PrintStream"), accessFlags := 25, slot := 2, constantValue := 0 }, { name := "initialIn", type := (.object "java/io/InputStream"), accessFlags := 10, slot := 3, constantValue := 0 }, { name := "NEVER", type := .int, accessFlags := 26, slot := 4, constantValue := 0 }, { name := "MAYBE", type := .int, accessFlags := 26, slot := 5, constantValue := 0 }, { name := "allowSecurityManager", type := .int, accessFlags := 10, slot := 6, constantValue := 0 }, { name := "security", type := (.object "java/lang/SecurityManager"), accessFlags := 74, slot := 7, constantValue := 0 }, { name := "notSupportedJnuEncoding", type := (.object "java/lang/String"), accessFlags := 10, slot := 8, constantValue := 0 }, { name := "cons", type := (.object "java/io/Console"), accessFlags := 74, slot := 9, constantValue := 0 }, { name := "initialErrStream", type := (.object "java/io/PrintStream"), accessFlags := 74, slot := 10, constantValue := 0 }, { name := "props", type := (.object "java/util/Properties"), accessFlags := 10, slot := 11, constantValue := 0 }, { name := "lineSeparator", type := (.object "java/lang/String"), accessFlags := 10, slot := 12, constantValue := 0 }, { name := "bootLayer", type := (.object "java/lang/ModuleLayer"), accessFlags := 8, slot := 13, constantValue := 0 }]
  methods := #[k20m0, k20m1]
  instanceTypes := #[]
  staticTypes := #[(.object "java/io/InputStream"), (.object "java/io/PrintStream"), (.object "java/io/PrintStream"), (.object "java/io/InputStream"), .int, .int, .int, (.object "java/lang/SecurityManager"), (.object "java/lang/String"), (.object "java/io/Console"), (.object "java/io/PrintStream"), (.object "java/util/Properties"), (.object "java/lang/String"), (.object "java/lang/ModuleLayer")]
  resolved := Array.replicate 834 none
  statics := none }

def pool21 : Array CpInfo := pool [(2, .class_ 4), (1, u "java/lang/Object"), (0, u "<init>"), (0, u "()V"), (17, .class_ 26), (1, u "jdk/internal/util/Preconditions"), (6, u "checkIndex"), (21, .class_ 56), (0, u "jdk/internal/util/Preconditions$4"), (57, .class_ 115), (0, u "jdk/internal/util/Preconditions$1"), (7, u "SIOOBE_FORMATTER"), (0, u "Ljava/util/function/BiFunction;"), (0, .class_ 126), (0, u "jdk/internal/util/Preconditions$2"), (3, u "AIOOBE_FORMATTER"), (0, .class_ 132), (0, u "jdk/internal/util/Preconditions$3"), (3, u "IOOBE_FORMATTER"), (41, u "(IILjava/util/function/BiFunction;)I")] 15

def k21m0 : Method := { name := "<init>", desc := "()V", sig := { parameters := [], returnType := none }, accessFlags := 1, code := none }
def k21c1 : Code := { maxStack := 3, maxLocals := 3, code := jdk_41_method_11_code, exceptionTable := #[], attributes := #[] }
def k21m1 : Method := { name := "checkIndex", desc := "(IILjava/util/function/BiFunction;)I", sig := { parameters := [.int, .int, (.object "java/util/function/BiFunction")], returnType := some .int }, accessFlags := 9, code := some k21c1 }
/-- jdk/internal/util/Preconditions -/
def k21 : Class := { plain "jdk/internal/util/Preconditions" (some 0) with
  accessFlags := 33
  interfaces := #[]
  cf := some (fileOf pool21 24 #[.nestMembers #[55, 131, 125, 114]] #[{ accessFlags := 1, nameIndex := 5, descriptorIndex := 6, attributes := #[] }, { accessFlags := 9, nameIndex := 33, descriptorIndex := 178, attributes := #[] }] 33 2 #[] #[{ accessFlags := 25, nameIndex := 123, descriptorIndex := 124, attributes := #[] }, { accessFlags := 25, nameIndex := 130, descriptorIndex := 124, attributes := #[] }, { accessFlags := 25, nameIndex := 136, descriptorIndex := 124, attributes := #[] }])
  fields := #[{ name := "SIOOBE_FORMATTER", type := (.object "java/util/function/BiFunction"), accessFlags := 25, slot := 0, constantValue := 0 }, { name := "AIOOBE_FORMATTER", type := (.object "java/util/function/BiFunction"), accessFlags := 25, slot := 1, constantValue := 0 }, { name := "IOOBE_FORMATTER", type := (.object "java/util/function/BiFunction"), accessFlags := 25, slot := 2, constantValue := 0 }]
  methods := #[k21m0, k21m1]
  instanceTypes := #[]
  staticTypes := #[(.object "java/util/function/BiFunction"), (.object "java/util/function/BiFunction"), (.object "java/util/function/BiFunction")]
  resolved := Array.replicate 194 none
  statics := some 1 }

def pool22 : Array CpInfo := pool [(1, u "java/lang/Cloneable"), (0, .class_ 1), (0, u "java/lang/Object"), (0, .class_ 3)] 3

/-- java/lang/Cloneable -/
def k22 : Class := { plain "java/lang/Cloneable" (some 0) with
  accessFlags := 1537
  interfaces := #[]
  cf := some (fileOf pool22 2 #[] #[] 1537 4 #[] #[])
  fields := #[]
  methods := #[]
  instanceTypes := #[]
  staticTypes := #[]
  resolved := Array.replicate 8 none
  statics := none }

/-- the primitive byte -/
def k23 : Class := { plain "byte" none with kind := .primitive 'B', accessFlags := 0x411 }
/-- [B -/
def k24 : Class := { plain "[B" (some 0) with kind := .array 23 .byte, interfaces := #[22, 2], accessFlags := 1041 }

/-- the primitive char -/
def k25 : Class := { plain "char" none with kind := .primitive 'C', accessFlags := 0x411 }
/-- [C -/
def k26 : Class := { plain "[C" (some 0) with kind := .array 25 .char, interfaces := #[22, 2], accessFlags := 1041 }

/-- the primitive int -/
def k27 : Class := { plain "int" none with kind := .primitive 'I', accessFlags := 0x411 }
/-- [I -/
def k28 : Class := { plain "[I" (some 0) with kind := .array 27 .int, interfaces := #[22, 2], accessFlags := 1041 }

def heap : Heap := #[{ cls := 7, slots := #[.long 0, .int 1, .null, .int 0, .null, .int 0, .int 0], vm := .statics 7 },
  { cls := 21, slots := #[.null, .null, .null], vm := .statics 21 }]
def classes : Array Class := #[k0, k1, k2, k3, k4, k5, k6, k7, k8, k9, k10, k11, k12, k13, k14, k15, k16, k17, k18, k19, k20, k21, k22, k23, k24, k25, k26, k27, k28]
def interned : List (Array UInt16 × Addr) := []
def slotsUsed : Nat := 10
def theMethod : MethodId := ⟨1, 3⟩
def args0 : Array Value := #[.int 5, .int 97, .int 98, .int 99]
def aboutOver (below : List Frame) : State where
  vm := { classes := classes, interned := interned.toArray }
  heap := heap
  slotsUsed := slotsUsed
  threads := #[{ frames := .invoking theMethod args0 :: below }]
def below0 : List Frame := [.native { method := ⟨0, 0⟩, args := #[] }]
def about1 : State := aboutOver below0
def p0 : Program := .bare "" "" ""
def e0 : Env := launch0.env 0 0 0
theorem w_frames : about1.frames = Frame.invoking theMethod args0 :: below0 := rfl
set_option maxRecDepth 65536 in
theorem w_args : argsFit about1.vm theMethod args0 = true := by decide +kernel
set_option maxRecDepth 65536 in
theorem w_heap : heapFits about1 = true := by decide +kernel
set_option maxRecDepth 65536 in
theorem w_runnable : about1.curStatus? = some .runnable := by decide +kernel
set_option maxRecDepth 65536 in
theorem w_alone : about1.alone = true := by decide +kernel
set_option maxRecDepth 65536 in
theorem w_named : about1.methodNamed? x = some theMethod := by decide +kernel
set_option maxRecDepth 65536 in
theorem w_hears : about1.hears theMethod below0 = true := by decide +kernel
set_option maxRecDepth 65536 in
theorem w_ripe : about1.ripe theMethod args0 below0 = true := by decide +kernel
theorem w_running : about1.status = .running := rfl
set_option maxRecDepth 65536 in
theorem w_room : about1.hasRoom e0.platform room_1 = true :=
  launch0.hasRoom_least _ room_1 (by decide +kernel) (by decide +kernel) (by decide +kernel) (by decide +kernel) (by decide +kernel) (by decide +kernel)
theorem allAtoms_all (ts : List Jvm.Cond) (a : Array Jvm.Value) (st : Jvm.State) : (allAtoms ts).before a st = ts.all (fun c => c.before a st) := by
  induction ts with
  | nil => rfl
  | cons c t ih =>
    show (Jvm.Cond.and c (allAtoms t)).before a st = _
    rw [Jvm.Cond.before_and, ih, List.all_cons]
def words1 : List Jvm.Cond := Jvm.Cond.code x code maxLocals ret :: tables_1
/-- a 'code' word, met by the world's own term for the bytes: nothing is compared byte by byte -/
theorem code_word {y : MethodName} {bytes : ByteArray} {mx : Nat} {rt : Option FieldType} {a : Array Value} {s : State} {m : MethodId} {meth : Method} {c : Code} (h1 : s.methodNamed? y = some m) (h2 : s.vm.method? m = some meth) (h3 : meth.code = some c) (h4 : c.code = bytes)
    (h5 : (c.maxLocals == mx && c.exceptionTable.isEmpty && decide (c.maxStack ≤ mostOperands) && decide (meth.sig.returnType = rt) && !meth.locks && decide (parseMethodDescriptor y.desc = some meth.sig)) = true) : (Jvm.Cond.code y bytes mx rt).before a s = true := by
  simp only [Bool.and_eq_true, beq_iff_eq, Bool.not_eq_true', decide_eq_true_eq] at h5
  obtain ⟨⟨⟨⟨⟨g1, g2⟩, g3⟩, g4⟩, g5⟩, g6⟩ := h5
  simp [Cond.before, Cond.holds, Cond.value, h1, h2, h3, h4, g1, g2, g3, g4, g5, g6]
def isCode : Jvm.Cond → Bool
  | .code _ _ _ _ => true
  | _ => false
theorem all_split {L : List Jvm.Cond} {P : Jvm.Cond → Bool} (h1 : L.all (fun c => isCode c || P c) = true) (h2 : ∀ c ∈ L.filter isCode, P c = true) : L.all P = true := by
  refine List.all_eq_true.mpr fun c hc => ?_
  have h := List.all_eq_true.mp h1 c hc
  rcases Bool.eq_false_or_eq_true (isCode c) with hi | hi
  · exact h2 c (List.mem_filter.mpr ⟨hc, hi⟩)
  · simpa [hi] using h
set_option maxRecDepth 65536 in
theorem w_c0 : (Jvm.Cond.code x code maxLocals ret).before args0 about1 = true := code_word (m := ⟨1, 3⟩) (meth := k1m3) (c := k1c3) (by decide +kernel) rfl rfl rfl (by decide +kernel)
set_option maxRecDepth 65536 in
theorem w_c1 : (Jvm.Cond.code ({ cls := "com/example/nearfar_cache/nearfarcache/redis/RedisKeysInvalidationChannelPinLaw", name := "ch", desc := "(I)C" } : Jvm.MethodName) method_2_code (2 : Nat) (Option.some Jvm.ClassFile.FieldType.char)).before args0 about1 = true := code_word (m := ⟨1, 1⟩) (meth := k1m1) (c := k1c1) (by decide +kernel) rfl rfl rfl (by decide +kernel)
set_option maxRecDepth 65536 in
theorem w_c2 : (Jvm.Cond.code ({ cls := "java/lang/String", name := "<init>", desc := "([C)V" } : Jvm.MethodName) jdk_42_method_3_code (2 : Nat) (Option.none : Option Jvm.ClassFile.FieldType)).before args0 about1 = true := code_word (m := ⟨7, 1⟩) (meth := k7m1) (c := k7c1) (by decide +kernel) rfl rfl rfl (by decide +kernel)
set_option maxRecDepth 65536 in
theorem w_c3 : (Jvm.Cond.code ({ cls := "java/lang/String", name := "<init>", desc := "([CIILjava/lang/Void;)V" } : Jvm.MethodName) jdk_42_method_149_code (6 : Nat) (Option.none : Option Jvm.ClassFile.FieldType)).before args0 about1 = true := code_word (m := ⟨7, 10⟩) (meth := k7m10) (c := k7c10) (by decide +kernel) rfl rfl rfl (by decide +kernel)
set_option maxRecDepth 65536 in
theorem w_c4 : (Jvm.Cond.code ({ cls := "java/lang/Object", name := "<init>", desc := "()V" } : Jvm.MethodName) object_method_1_code (1 : Nat) (Option.none : Option Jvm.ClassFile.FieldType)).before args0 about1 = true := code_word (m := ⟨0, 0⟩) (meth := k0m0) (c := k0c0) (by decide +kernel) rfl rfl rfl (by decide +kernel)
set_option maxRecDepth 65536 in
theorem w_c5 : (Jvm.Cond.code ({ cls := "java/lang/StringUTF16", name := "compress", desc := "([CII)[B" } : Jvm.MethodName) jdk_52_method_16_code (6 : Nat) (Option.some (Jvm.ClassFile.FieldType.array Jvm.ClassFile.FieldType.byte))).before args0 about1 = true := code_word (m := ⟨8, 2⟩) (meth := k8m2) (c := k8c2) (by decide +kernel) rfl rfl rfl (by decide +kernel)
set_option maxRecDepth 65536 in
theorem w_c6 : (Jvm.Cond.code ({ cls := "java/lang/StringUTF16", name := "compress", desc := "([CI[BII)I" } : Jvm.MethodName) jdk_52_method_21_code (7 : Nat) (Option.some Jvm.ClassFile.FieldType.int)).before args0 about1 = true := code_word (m := ⟨8, 3⟩) (meth := k8m3) (c := k8c3) (by decide +kernel) rfl rfl rfl (by decide +kernel)
set_option maxRecDepth 65536 in
theorem w_c7 : (Jvm.Cond.code ({ cls := "java/lang/StringUTF16", name := "coderFromArrayLen", desc := "([BI)B" } : Jvm.MethodName) jdk_52_method_15_code (2 : Nat) (Option.some Jvm.ClassFile.FieldType.byte)).before args0 about1 = true := code_word (m := ⟨8, 1⟩) (meth := k8m1) (c := k8c1) (by decide +kernel) rfl rfl rfl (by decide +kernel)
set_option maxRecDepth 65536 in
theorem w_c8 : (Jvm.Cond.code ({ cls := "com/example/nearfar_cache/nearfarcache/Namespace", name := "<init>", desc := "(Ljava/lang/String;)V" } : Jvm.MethodName) prog_19_method_1_code (2 : Nat) (Option.none : Option Jvm.ClassFile.FieldType)).before args0 about1 = true := code_word (m := ⟨10, 0⟩) (meth := k10m0) (c := k10c0) (by decide +kernel) rfl rfl rfl (by decide +kernel)
set_option maxRecDepth 65536 in
theorem w_c9 : (Jvm.Cond.code ({ cls := "java/lang/Record", name := "<init>", desc := "()V" } : Jvm.MethodName) jdk_30_method_1_code (1 : Nat) (Option.none : Option Jvm.ClassFile.FieldType)).before args0 about1 = true := code_word (m := ⟨9, 0⟩) (meth := k9m0) (c := k9c0) (by decide +kernel) rfl rfl rfl (by decide +kernel)
set_option maxRecDepth 65536 in
theorem w_c10 : (Jvm.Cond.code ({ cls := "java/util/Objects", name := "requireNonNull", desc := "(Ljava/lang/Object;Ljava/lang/String;)Ljava/lang/Object;" } : Jvm.MethodName) jdk_31_method_11_code (2 : Nat) (Option.some (Jvm.ClassFile.FieldType.object "java/lang/Object"))).before args0 about1 = true := code_word (m := ⟨11, 1⟩) (meth := k11m1) (c := k11c1) (by decide +kernel) rfl rfl rfl (by decide +kernel)
set_option maxRecDepth 65536 in
theorem w_c11 : (Jvm.Cond.code ({ cls := "java/lang/String", name := "isEmpty", desc := "()Z" } : Jvm.MethodName) jdk_42_method_55_code (1 : Nat) (Option.some Jvm.ClassFile.FieldType.boolean)).before args0 about1 = true := code_word (m := ⟨7, 4⟩) (meth := k7m4) (c := k7c4) (by decide +kernel) rfl rfl rfl (by decide +kernel)
set_option maxRecDepth 65536 in
theorem w_c12 : (Jvm.Cond.code ({ cls := "java/lang/String", name := "indexOf", desc := "(I)I" } : Jvm.MethodName) jdk_42_method_79_code (2 : Nat) (Option.some Jvm.ClassFile.FieldType.int)).before args0 about1 = true := code_word (m := ⟨7, 7⟩) (meth := k7m7) (c := k7c7) (by decide +kernel) rfl rfl rfl (by decide +kernel)
set_option maxRecDepth 65536 in
theorem w_c13 : (Jvm.Cond.code ({ cls := "java/lang/String", name := "indexOf", desc := "(II)I" } : Jvm.MethodName) jdk_42_method_80_code (3 : Nat) (Option.some Jvm.ClassFile.FieldType.int)).before args0 about1 = true := code_word (m := ⟨7, 8⟩) (meth := k7m8) (c := k7c8) (by decide +kernel) rfl rfl rfl (by decide +kernel)
set_option maxRecDepth 65536 in
theorem w_c14 : (Jvm.Cond.code ({ cls := "java/lang/String", name := "isLatin1", desc := "()Z" } : Jvm.MethodName) jdk_42_method_154_code (1 : Nat) (Option.some Jvm.ClassFile.FieldType.boolean)).before args0 about1 = true := code_word (m := ⟨7, 13⟩) (meth := k7m13) (c := k7c13) (by decide +kernel) rfl rfl rfl (by decide +kernel)
set_option maxRecDepth 65536 in
theorem w_c15 : (Jvm.Cond.code ({ cls := "java/lang/String", name := "length", desc := "()I" } : Jvm.MethodName) jdk_42_method_54_code (1 : Nat) (Option.some Jvm.ClassFile.FieldType.int)).before args0 about1 = true := code_word (m := ⟨7, 3⟩) (meth := k7m3) (c := k7c3) (by decide +kernel) rfl rfl rfl (by decide +kernel)
set_option maxRecDepth 65536 in
theorem w_c16 : (Jvm.Cond.code ({ cls := "java/lang/String", name := "coder", desc := "()B" } : Jvm.MethodName) jdk_42_method_152_code (1 : Nat) (Option.some Jvm.ClassFile.FieldType.byte)).before args0 about1 = true := code_word (m := ⟨7, 12⟩) (meth := k7m12) (c := k7c12) (by decide +kernel) rfl rfl rfl (by decide +kernel)
set_option maxRecDepth 65536 in
theorem w_c17 : (Jvm.Cond.code ({ cls := "java/lang/StringLatin1", name := "indexOf", desc := "([BIII)I" } : Jvm.MethodName) jdk_43_method_22_code (4 : Nat) (Option.some Jvm.ClassFile.FieldType.int)).before args0 about1 = true := code_word (m := ⟨12, 4⟩) (meth := k12m4) (c := k12c4) (by decide +kernel) rfl rfl rfl (by decide +kernel)
set_option maxRecDepth 65536 in
theorem w_c18 : (Jvm.Cond.code ({ cls := "java/lang/StringLatin1", name := "canEncode", desc := "(I)Z" } : Jvm.MethodName) jdk_43_method_4_code (1 : Nat) (Option.some Jvm.ClassFile.FieldType.boolean)).before args0 about1 = true := code_word (m := ⟨12, 2⟩) (meth := k12m2) (c := k12c2) (by decide +kernel) rfl rfl rfl (by decide +kernel)
set_option maxRecDepth 65536 in
theorem w_c19 : (Jvm.Cond.code ({ cls := "java/lang/Math", name := "max", desc := "(II)I" } : Jvm.MethodName) jdk_29_method_65_code (2 : Nat) (Option.some Jvm.ClassFile.FieldType.int)).before args0 about1 = true := code_word (m := ⟨13, 1⟩) (meth := k13m1) (c := k13c1) (by decide +kernel) rfl rfl rfl (by decide +kernel)
set_option maxRecDepth 65536 in
theorem w_c20 : (Jvm.Cond.code ({ cls := "java/lang/Math", name := "min", desc := "(II)I" } : Jvm.MethodName) jdk_29_method_69_code (2 : Nat) (Option.some Jvm.ClassFile.FieldType.int)).before args0 about1 = true := code_word (m := ⟨13, 2⟩) (meth := k13m2) (c := k13c2) (by decide +kernel) rfl rfl rfl (by decide +kernel)
set_option maxRecDepth 65536 in
theorem w_c21 : (Jvm.Cond.code ({ cls := "java/lang/StringLatin1", name := "indexOfChar", desc := "([BIII)I" } : Jvm.MethodName) jdk_43_method_23_code (6 : Nat) (Option.some Jvm.ClassFile.FieldType.int)).before args0 about1 = true := code_word (m := ⟨12, 5⟩) (meth := k12m5) (c := k12c5) (by decide +kernel) rfl rfl rfl (by decide +kernel)
set_option maxRecDepth 65536 in
theorem w_c22 : (Jvm.Cond.code ({ cls := "java/lang/String", name := "equals", desc := "(Ljava/lang/Object;)Z" } : Jvm.MethodName) jdk_42_method_66_code (3 : Nat) (Option.some Jvm.ClassFile.FieldType.boolean)).before args0 about1 = true := code_word (m := ⟨7, 6⟩) (meth := k7m6) (c := k7c6) (by decide +kernel) rfl rfl rfl (by decide +kernel)
set_option maxRecDepth 65536 in
theorem w_c23 : (Jvm.Cond.code ({ cls := "java/lang/StringLatin1", name := "equals", desc := "([B[B)Z" } : Jvm.MethodName) jdk_43_method_13_code (3 : Nat) (Option.some Jvm.ClassFile.FieldType.boolean)).before args0 about1 = true := code_word (m := ⟨12, 3⟩) (meth := k12m3) (c := k12c3) (by decide +kernel) rfl rfl rfl (by decide +kernel)
set_option maxRecDepth 65536 in
theorem w_c24 : (Jvm.Cond.code ({ cls := "com/example/nearfar_cache/nearfarcache/redis/RedisKeys", name := "invalidationChannel", desc := "(Lcom/example/nearfar_cache/nearfarcache/Namespace;)Ljava/lang/String;" } : Jvm.MethodName) prog_26_method_4_code (1 : Nat) (Option.some (Jvm.ClassFile.FieldType.object "java/lang/String"))).before args0 about1 = true := code_word (m := ⟨14, 1⟩) (meth := k14m1) (c := k14c1) (by decide +kernel) rfl rfl rfl (by decide +kernel)
set_option maxRecDepth 65536 in
theorem w_c25 : (Jvm.Cond.code ({ cls := "java/lang/StringBuilder", name := "<init>", desc := "()V" } : Jvm.MethodName) jdk_67_method_1_code (1 : Nat) (Option.none : Option Jvm.ClassFile.FieldType)).before args0 about1 = true := code_word (m := ⟨17, 0⟩) (meth := k17m0) (c := k17c0) (by decide +kernel) rfl rfl rfl (by decide +kernel)
set_option maxRecDepth 65536 in
theorem w_c26 : (Jvm.Cond.code ({ cls := "java/lang/AbstractStringBuilder", name := "<init>", desc := "(I)V" } : Jvm.MethodName) jdk_68_method_2_code (2 : Nat) (Option.none : Option Jvm.ClassFile.FieldType)).before args0 about1 = true := code_word (m := ⟨16, 1⟩) (meth := k16m1) (c := k16c1) (by decide +kernel) rfl rfl rfl (by decide +kernel)
set_option maxRecDepth 65536 in
theorem w_c27 : (Jvm.Cond.code ({ cls := "java/lang/StringBuilder", name := "append", desc := "(Ljava/lang/String;)Ljava/lang/StringBuilder;" } : Jvm.MethodName) jdk_67_method_7_code (2 : Nat) (Option.some (Jvm.ClassFile.FieldType.object "java/lang/StringBuilder"))).before args0 about1 = true := code_word (m := ⟨17, 1⟩) (meth := k17m1) (c := k17c1) (by decide +kernel) rfl rfl rfl (by decide +kernel)
set_option maxRecDepth 65536 in
theorem w_c28 : (Jvm.Cond.code ({ cls := "java/lang/AbstractStringBuilder", name := "append", desc := "(Ljava/lang/String;)Ljava/lang/AbstractStringBuilder;" } : Jvm.MethodName) jdk_68_method_22_code (3 : Nat) (Option.some (Jvm.ClassFile.FieldType.object "java/lang/AbstractStringBuilder"))).before args0 about1 = true := code_word (m := ⟨16, 5⟩) (meth := k16m5) (c := k16c5) (by decide +kernel) rfl rfl rfl (by decide +kernel)
set_option maxRecDepth 65536 in
theorem w_c29 : (Jvm.Cond.code ({ cls := "java/lang/AbstractStringBuilder", name := "ensureCapacityInternal", desc := "(I)V" } : Jvm.MethodName) jdk_68_method_9_code (3 : Nat) (Option.none : Option Jvm.ClassFile.FieldType)).before args0 about1 = true := code_word (m := ⟨16, 3⟩) (meth := k16m3) (c := k16c3) (by decide +kernel) rfl rfl rfl (by decide +kernel)
set_option maxRecDepth 65536 in
theorem w_c30 : (Jvm.Cond.code ({ cls := "java/lang/AbstractStringBuilder", name := "newCapacity", desc := "(I)I" } : Jvm.MethodName) jdk_68_method_10_code (6 : Nat) (Option.some Jvm.ClassFile.FieldType.int)).before args0 about1 = true := code_word (m := ⟨16, 4⟩) (meth := k16m4) (c := k16c4) (by decide +kernel) rfl rfl rfl (by decide +kernel)
set_option maxRecDepth 65536 in
theorem w_c31 : (Jvm.Cond.code ({ cls := "jdk/internal/util/ArraysSupport", name := "newLength", desc := "(III)I" } : Jvm.MethodName) jdk_48_method_27_code (4 : Nat) (Option.some Jvm.ClassFile.FieldType.int)).before args0 about1 = true := code_word (m := ⟨18, 1⟩) (meth := k18m1) (c := k18c1) (by decide +kernel) rfl rfl rfl (by decide +kernel)
set_option maxRecDepth 65536 in
theorem w_c32 : (Jvm.Cond.code ({ cls := "java/util/Arrays", name := "copyOf", desc := "([BI)[B" } : Jvm.MethodName) jdk_65_method_121_code (3 : Nat) (Option.some (Jvm.ClassFile.FieldType.array Jvm.ClassFile.FieldType.byte))).before args0 about1 = true := code_word (m := ⟨19, 1⟩) (meth := k19m1) (c := k19c1) (by decide +kernel) rfl rfl rfl (by decide +kernel)
set_option maxRecDepth 65536 in
theorem w_c33 : (Jvm.Cond.code ({ cls := "java/lang/AbstractStringBuilder", name := "putStringAt", desc := "(ILjava/lang/String;)V" } : Jvm.MethodName) jdk_68_method_73_code (3 : Nat) (Option.none : Option Jvm.ClassFile.FieldType)).before args0 about1 = true := code_word (m := ⟨16, 9⟩) (meth := k16m9) (c := k16c9) (by decide +kernel) rfl rfl rfl (by decide +kernel)
set_option maxRecDepth 65536 in
theorem w_c34 : (Jvm.Cond.code ({ cls := "java/lang/AbstractStringBuilder", name := "inflateIfNeededFor", desc := "(Ljava/lang/String;)V" } : Jvm.MethodName) jdk_68_method_71_code (2 : Nat) (Option.none : Option Jvm.ClassFile.FieldType)).before args0 about1 = true := code_word (m := ⟨16, 8⟩) (meth := k16m8) (c := k16c8) (by decide +kernel) rfl rfl rfl (by decide +kernel)
set_option maxRecDepth 65536 in
theorem w_c35 : (Jvm.Cond.code ({ cls := "java/lang/String", name := "getBytes", desc := "([BIB)V" } : Jvm.MethodName) jdk_42_method_147_code (4 : Nat) (Option.none : Option Jvm.ClassFile.FieldType)).before args0 about1 = true := code_word (m := ⟨7, 9⟩) (meth := k7m9) (c := k7c9) (by decide +kernel) rfl rfl rfl (by decide +kernel)
set_option maxRecDepth 65536 in
theorem w_c36 : (Jvm.Cond.code ({ cls := "com/example/nearfar_cache/nearfarcache/Namespace", name := "name", desc := "()Ljava/lang/String;" } : Jvm.MethodName) prog_19_method_5_code (1 : Nat) (Option.some (Jvm.ClassFile.FieldType.object "java/lang/String"))).before args0 about1 = true := code_word (m := ⟨10, 1⟩) (meth := k10m1) (c := k10c1) (by decide +kernel) rfl rfl rfl (by decide +kernel)
set_option maxRecDepth 65536 in
theorem w_c37 : (Jvm.Cond.code ({ cls := "java/lang/StringBuilder", name := "toString", desc := "()Ljava/lang/String;" } : Jvm.MethodName) jdk_67_method_42_code (1 : Nat) (Option.some (Jvm.ClassFile.FieldType.object "java/lang/String"))).before args0 about1 = true := code_word (m := ⟨17, 2⟩) (meth := k17m2) (c := k17c2) (by decide +kernel) rfl rfl rfl (by decide +kernel)
set_option maxRecDepth 65536 in
theorem w_c38 : (Jvm.Cond.code ({ cls := "java/lang/String", name := "<init>", desc := "(Ljava/lang/StringBuilder;)V" } : Jvm.MethodName) jdk_42_method_53_code (2 : Nat) (Option.none : Option Jvm.ClassFile.FieldType)).before args0 about1 = true := code_word (m := ⟨7, 2⟩) (meth := k7m2) (c := k7c2) (by decide +kernel) rfl rfl rfl (by decide +kernel)
set_option maxRecDepth 65536 in
theorem w_c39 : (Jvm.Cond.code ({ cls := "java/lang/String", name := "<init>", desc := "(Ljava/lang/AbstractStringBuilder;Ljava/lang/Void;)V" } : Jvm.MethodName) jdk_42_method_150_code (5 : Nat) (Option.none : Option Jvm.ClassFile.FieldType)).before args0 about1 = true := code_word (m := ⟨7, 11⟩) (meth := k7m11) (c := k7c11) (by decide +kernel) rfl rfl rfl (by decide +kernel)
set_option maxRecDepth 65536 in
theorem w_c40 : (Jvm.Cond.code ({ cls := "java/lang/AbstractStringBuilder", name := "getValue", desc := "()[B" } : Jvm.MethodName) jdk_68_method_64_code (1 : Nat) (Option.some (Jvm.ClassFile.FieldType.array Jvm.ClassFile.FieldType.byte))).before args0 about1 = true := code_word (m := ⟨16, 6⟩) (meth := k16m6) (c := k16c6) (by decide +kernel) rfl rfl rfl (by decide +kernel)
set_option maxRecDepth 65536 in
theorem w_c41 : (Jvm.Cond.code ({ cls := "java/lang/StringBuilder", name := "length", desc := "()I" } : Jvm.MethodName) jdk_67_method_93_code (1 : Nat) (Option.some Jvm.ClassFile.FieldType.int)).before args0 about1 = true := code_word (m := ⟨17, 3⟩) (meth := k17m3) (c := k17c3) (by decide +kernel) rfl rfl rfl (by decide +kernel)
set_option maxRecDepth 65536 in
theorem w_c42 : (Jvm.Cond.code ({ cls := "java/lang/AbstractStringBuilder", name := "length", desc := "()I" } : Jvm.MethodName) jdk_68_method_6_code (1 : Nat) (Option.some Jvm.ClassFile.FieldType.int)).before args0 about1 = true := code_word (m := ⟨16, 2⟩) (meth := k16m2) (c := k16c2) (by decide +kernel) rfl rfl rfl (by decide +kernel)
set_option maxRecDepth 65536 in
theorem w_c43 : (Jvm.Cond.code ({ cls := "java/lang/AbstractStringBuilder", name := "isLatin1", desc := "()Z" } : Jvm.MethodName) jdk_68_method_68_code (1 : Nat) (Option.some Jvm.ClassFile.FieldType.boolean)).before args0 about1 = true := code_word (m := ⟨16, 7⟩) (meth := k16m7) (c := k16c7) (by decide +kernel) rfl rfl rfl (by decide +kernel)
set_option maxRecDepth 65536 in
theorem w_c44 : (Jvm.Cond.code ({ cls := "java/util/Arrays", name := "copyOfRange", desc := "([BII)[B" } : Jvm.MethodName) jdk_65_method_132_code (3 : Nat) (Option.some (Jvm.ClassFile.FieldType.array Jvm.ClassFile.FieldType.byte))).before args0 about1 = true := code_word (m := ⟨19, 3⟩) (meth := k19m3) (c := k19c3) (by decide +kernel) rfl rfl rfl (by decide +kernel)
set_option maxRecDepth 65536 in
theorem w_c45 : (Jvm.Cond.code ({ cls := "java/util/Arrays", name := "copyOfRangeByte", desc := "([BII)[B" } : Jvm.MethodName) jdk_65_method_133_code (5 : Nat) (Option.some (Jvm.ClassFile.FieldType.array Jvm.ClassFile.FieldType.byte))).before args0 about1 = true := code_word (m := ⟨19, 4⟩) (meth := k19m4) (c := k19c4) (by decide +kernel) rfl rfl rfl (by decide +kernel)
set_option maxRecDepth 65536 in
theorem w_c46 : (Jvm.Cond.code ({ cls := "java/util/Arrays", name := "checkLength", desc := "(II)V" } : Jvm.MethodName) jdk_65_method_131_code (2 : Nat) (Option.none : Option Jvm.ClassFile.FieldType)).before args0 about1 = true := code_word (m := ⟨19, 2⟩) (meth := k19m2) (c := k19c2) (by decide +kernel) rfl rfl rfl (by decide +kernel)
set_option maxRecDepth 65536 in
theorem w_c47 : (Jvm.Cond.code ({ cls := "com/example/nearfar_cache/nearfarcache/redis/RedisKeysInvalidationChannelPinLaw", name := "hasPrefix", desc := "(Ljava/lang/String;)Z" } : Jvm.MethodName) method_3_code (1 : Nat) (Option.some Jvm.ClassFile.FieldType.boolean)).before args0 about1 = true := code_word (m := ⟨1, 2⟩) (meth := k1m2) (c := k1c2) (by decide +kernel) rfl rfl rfl (by decide +kernel)
set_option maxRecDepth 65536 in
theorem w_c48 : (Jvm.Cond.code ({ cls := "java/lang/String", name := "charAt", desc := "(I)C" } : Jvm.MethodName) jdk_42_method_56_code (2 : Nat) (Option.some Jvm.ClassFile.FieldType.char)).before args0 about1 = true := code_word (m := ⟨7, 5⟩) (meth := k7m5) (c := k7c5) (by decide +kernel) rfl rfl rfl (by decide +kernel)
set_option maxRecDepth 65536 in
theorem w_c49 : (Jvm.Cond.code ({ cls := "java/lang/StringLatin1", name := "charAt", desc := "([BI)C" } : Jvm.MethodName) jdk_43_method_2_code (2 : Nat) (Option.some Jvm.ClassFile.FieldType.char)).before args0 about1 = true := code_word (m := ⟨12, 1⟩) (meth := k12m1) (c := k12c1) (by decide +kernel) rfl rfl rfl (by decide +kernel)
set_option maxRecDepth 65536 in
theorem w_c50 : (Jvm.Cond.code ({ cls := "java/lang/String", name := "checkIndex", desc := "(II)V" } : Jvm.MethodName) jdk_42_method_155_code (2 : Nat) (Option.none : Option Jvm.ClassFile.FieldType)).before args0 about1 = true := code_word (m := ⟨7, 14⟩) (meth := k7m14) (c := k7c14) (by decide +kernel) rfl rfl rfl (by decide +kernel)
set_option maxRecDepth 65536 in
theorem w_c51 : (Jvm.Cond.code ({ cls := "jdk/internal/util/Preconditions", name := "checkIndex", desc := "(IILjava/util/function/BiFunction;)I" } : Jvm.MethodName) jdk_41_method_11_code (3 : Nat) (Option.some Jvm.ClassFile.FieldType.int)).before args0 about1 = true := code_word (m := ⟨21, 1⟩) (meth := k21m1) (c := k21c1) (by decide +kernel) rfl rfl rfl (by decide +kernel)
def codes1 : List Jvm.Cond := [Jvm.Cond.code x code maxLocals ret, Jvm.Cond.code ({ cls := "com/example/nearfar_cache/nearfarcache/redis/RedisKeysInvalidationChannelPinLaw", name := "ch", desc := "(I)C" } : Jvm.MethodName) method_2_code (2 : Nat) (Option.some Jvm.ClassFile.FieldType.char), Jvm.Cond.code ({ cls := "java/lang/String", name := "<init>", desc := "([C)V" } : Jvm.MethodName) jdk_42_method_3_code (2 : Nat) (Option.none : Option Jvm.ClassFile.FieldType), Jvm.Cond.code ({ cls := "java/lang/String", name := "<init>", desc := "([CIILjava/lang/Void;)V" } : Jvm.MethodName) jdk_42_method_149_code (6 : Nat) (Option.none : Option Jvm.ClassFile.FieldType), Jvm.Cond.code ({ cls := "java/lang/Object", name := "<init>", desc := "()V" } : Jvm.MethodName) object_method_1_code (1 : Nat) (Option.none : Option Jvm.ClassFile.FieldType), Jvm.Cond.code ({ cls := "java/lang/StringUTF16", name := "compress", desc := "([CII)[B" } : Jvm.MethodName) jdk_52_method_16_code (6 : Nat) (Option.some (Jvm.ClassFile.FieldType.array Jvm.ClassFile.FieldType.byte)), Jvm.Cond.code ({ cls := "java/lang/StringUTF16", name := "compress", desc := "([CI[BII)I" } : Jvm.MethodName) jdk_52_method_21_code (7 : Nat) (Option.some Jvm.ClassFile.FieldType.int), Jvm.Cond.code ({ cls := "java/lang/StringUTF16", name := "coderFromArrayLen", desc := "([BI)B" } : Jvm.MethodName) jdk_52_method_15_code (2 : Nat) (Option.some Jvm.ClassFile.FieldType.byte), Jvm.Cond.code ({ cls := "com/example/nearfar_cache/nearfarcache/Namespace", name := "<init>", desc := "(Ljava/lang/String;)V" } : Jvm.MethodName) prog_19_method_1_code (2 : Nat) (Option.none : Option Jvm.ClassFile.FieldType), Jvm.Cond.code ({ cls := "java/lang/Record", name := "<init>", desc := "()V" } : Jvm.MethodName) jdk_30_method_1_code (1 : Nat) (Option.none : Option Jvm.ClassFile.FieldType), Jvm.Cond.code ({ cls := "java/util/Objects", name := "requireNonNull", desc := "(Ljava/lang/Object;Ljava/lang/String;)Ljava/lang/Object;" } : Jvm.MethodName) jdk_31_method_11_code (2 : Nat) (Option.some (Jvm.ClassFile.FieldType.object "java/lang/Object")), Jvm.Cond.code ({ cls := "java/lang/String", name := "isEmpty", desc := "()Z" } : Jvm.MethodName) jdk_42_method_55_code (1 : Nat) (Option.some Jvm.ClassFile.FieldType.boolean), Jvm.Cond.code ({ cls := "java/lang/String", name := "indexOf", desc := "(I)I" } : Jvm.MethodName) jdk_42_method_79_code (2 : Nat) (Option.some Jvm.ClassFile.FieldType.int), Jvm.Cond.code ({ cls := "java/lang/String", name := "indexOf", desc := "(II)I" } : Jvm.MethodName) jdk_42_method_80_code (3 : Nat) (Option.some Jvm.ClassFile.FieldType.int), Jvm.Cond.code ({ cls := "java/lang/String", name := "isLatin1", desc := "()Z" } : Jvm.MethodName) jdk_42_method_154_code (1 : Nat) (Option.some Jvm.ClassFile.FieldType.boolean), Jvm.Cond.code ({ cls := "java/lang/String", name := "length", desc := "()I" } : Jvm.MethodName) jdk_42_method_54_code (1 : Nat) (Option.some Jvm.ClassFile.FieldType.int), Jvm.Cond.code ({ cls := "java/lang/String", name := "coder", desc := "()B" } : Jvm.MethodName) jdk_42_method_152_code (1 : Nat) (Option.some Jvm.ClassFile.FieldType.byte), Jvm.Cond.code ({ cls := "java/lang/StringLatin1", name := "indexOf", desc := "([BIII)I" } : Jvm.MethodName) jdk_43_method_22_code (4 : Nat) (Option.some Jvm.ClassFile.FieldType.int), Jvm.Cond.code ({ cls := "java/lang/StringLatin1", name := "canEncode", desc := "(I)Z" } : Jvm.MethodName) jdk_43_method_4_code (1 : Nat) (Option.some Jvm.ClassFile.FieldType.boolean), Jvm.Cond.code ({ cls := "java/lang/Math", name := "max", desc := "(II)I" } : Jvm.MethodName) jdk_29_method_65_code (2 : Nat) (Option.some Jvm.ClassFile.FieldType.int), Jvm.Cond.code ({ cls := "java/lang/Math", name := "min", desc := "(II)I" } : Jvm.MethodName) jdk_29_method_69_code (2 : Nat) (Option.some Jvm.ClassFile.FieldType.int), Jvm.Cond.code ({ cls := "java/lang/StringLatin1", name := "indexOfChar", desc := "([BIII)I" } : Jvm.MethodName) jdk_43_method_23_code (6 : Nat) (Option.some Jvm.ClassFile.FieldType.int), Jvm.Cond.code ({ cls := "java/lang/String", name := "equals", desc := "(Ljava/lang/Object;)Z" } : Jvm.MethodName) jdk_42_method_66_code (3 : Nat) (Option.some Jvm.ClassFile.FieldType.boolean), Jvm.Cond.code ({ cls := "java/lang/StringLatin1", name := "equals", desc := "([B[B)Z" } : Jvm.MethodName) jdk_43_method_13_code (3 : Nat) (Option.some Jvm.ClassFile.FieldType.boolean), Jvm.Cond.code ({ cls := "com/example/nearfar_cache/nearfarcache/redis/RedisKeys", name := "invalidationChannel", desc := "(Lcom/example/nearfar_cache/nearfarcache/Namespace;)Ljava/lang/String;" } : Jvm.MethodName) prog_26_method_4_code (1 : Nat) (Option.some (Jvm.ClassFile.FieldType.object "java/lang/String")), Jvm.Cond.code ({ cls := "java/lang/StringBuilder", name := "<init>", desc := "()V" } : Jvm.MethodName) jdk_67_method_1_code (1 : Nat) (Option.none : Option Jvm.ClassFile.FieldType), Jvm.Cond.code ({ cls := "java/lang/AbstractStringBuilder", name := "<init>", desc := "(I)V" } : Jvm.MethodName) jdk_68_method_2_code (2 : Nat) (Option.none : Option Jvm.ClassFile.FieldType), Jvm.Cond.code ({ cls := "java/lang/StringBuilder", name := "append", desc := "(Ljava/lang/String;)Ljava/lang/StringBuilder;" } : Jvm.MethodName) jdk_67_method_7_code (2 : Nat) (Option.some (Jvm.ClassFile.FieldType.object "java/lang/StringBuilder")), Jvm.Cond.code ({ cls := "java/lang/AbstractStringBuilder", name := "append", desc := "(Ljava/lang/String;)Ljava/lang/AbstractStringBuilder;" } : Jvm.MethodName) jdk_68_method_22_code (3 : Nat) (Option.some (Jvm.ClassFile.FieldType.object "java/lang/AbstractStringBuilder")), Jvm.Cond.code ({ cls := "java/lang/AbstractStringBuilder", name := "ensureCapacityInternal", desc := "(I)V" } : Jvm.MethodName) jdk_68_method_9_code (3 : Nat) (Option.none : Option Jvm.ClassFile.FieldType), Jvm.Cond.code ({ cls := "java/lang/AbstractStringBuilder", name := "newCapacity", desc := "(I)I" } : Jvm.MethodName) jdk_68_method_10_code (6 : Nat) (Option.some Jvm.ClassFile.FieldType.int), Jvm.Cond.code ({ cls := "jdk/internal/util/ArraysSupport", name := "newLength", desc := "(III)I" } : Jvm.MethodName) jdk_48_method_27_code (4 : Nat) (Option.some Jvm.ClassFile.FieldType.int), Jvm.Cond.code ({ cls := "java/util/Arrays", name := "copyOf", desc := "([BI)[B" } : Jvm.MethodName) jdk_65_method_121_code (3 : Nat) (Option.some (Jvm.ClassFile.FieldType.array Jvm.ClassFile.FieldType.byte)), Jvm.Cond.code ({ cls := "java/lang/AbstractStringBuilder", name := "putStringAt", desc := "(ILjava/lang/String;)V" } : Jvm.MethodName) jdk_68_method_73_code (3 : Nat) (Option.none : Option Jvm.ClassFile.FieldType), Jvm.Cond.code ({ cls := "java/lang/AbstractStringBuilder", name := "inflateIfNeededFor", desc := "(Ljava/lang/String;)V" } : Jvm.MethodName) jdk_68_method_71_code (2 : Nat) (Option.none : Option Jvm.ClassFile.FieldType), Jvm.Cond.code ({ cls := "java/lang/String", name := "getBytes", desc := "([BIB)V" } : Jvm.MethodName) jdk_42_method_147_code (4 : Nat) (Option.none : Option Jvm.ClassFile.FieldType), Jvm.Cond.code ({ cls := "com/example/nearfar_cache/nearfarcache/Namespace", name := "name", desc := "()Ljava/lang/String;" } : Jvm.MethodName) prog_19_method_5_code (1 : Nat) (Option.some (Jvm.ClassFile.FieldType.object "java/lang/String")), Jvm.Cond.code ({ cls := "java/lang/StringBuilder", name := "toString", desc := "()Ljava/lang/String;" } : Jvm.MethodName) jdk_67_method_42_code (1 : Nat) (Option.some (Jvm.ClassFile.FieldType.object "java/lang/String")), Jvm.Cond.code ({ cls := "java/lang/String", name := "<init>", desc := "(Ljava/lang/StringBuilder;)V" } : Jvm.MethodName) jdk_42_method_53_code (2 : Nat) (Option.none : Option Jvm.ClassFile.FieldType), Jvm.Cond.code ({ cls := "java/lang/String", name := "<init>", desc := "(Ljava/lang/AbstractStringBuilder;Ljava/lang/Void;)V" } : Jvm.MethodName) jdk_42_method_150_code (5 : Nat) (Option.none : Option Jvm.ClassFile.FieldType), Jvm.Cond.code ({ cls := "java/lang/AbstractStringBuilder", name := "getValue", desc := "()[B" } : Jvm.MethodName) jdk_68_method_64_code (1 : Nat) (Option.some (Jvm.ClassFile.FieldType.array Jvm.ClassFile.FieldType.byte)), Jvm.Cond.code ({ cls := "java/lang/StringBuilder", name := "length", desc := "()I" } : Jvm.MethodName) jdk_67_method_93_code (1 : Nat) (Option.some Jvm.ClassFile.FieldType.int), Jvm.Cond.code ({ cls := "java/lang/AbstractStringBuilder", name := "length", desc := "()I" } : Jvm.MethodName) jdk_68_method_6_code (1 : Nat) (Option.some Jvm.ClassFile.FieldType.int), Jvm.Cond.code ({ cls := "java/lang/AbstractStringBuilder", name := "isLatin1", desc := "()Z" } : Jvm.MethodName) jdk_68_method_68_code (1 : Nat) (Option.some Jvm.ClassFile.FieldType.boolean), Jvm.Cond.code ({ cls := "java/util/Arrays", name := "copyOfRange", desc := "([BII)[B" } : Jvm.MethodName) jdk_65_method_132_code (3 : Nat) (Option.some (Jvm.ClassFile.FieldType.array Jvm.ClassFile.FieldType.byte)), Jvm.Cond.code ({ cls := "java/util/Arrays", name := "copyOfRangeByte", desc := "([BII)[B" } : Jvm.MethodName) jdk_65_method_133_code (5 : Nat) (Option.some (Jvm.ClassFile.FieldType.array Jvm.ClassFile.FieldType.byte)), Jvm.Cond.code ({ cls := "java/util/Arrays", name := "checkLength", desc := "(II)V" } : Jvm.MethodName) jdk_65_method_131_code (2 : Nat) (Option.none : Option Jvm.ClassFile.FieldType), Jvm.Cond.code ({ cls := "com/example/nearfar_cache/nearfarcache/redis/RedisKeysInvalidationChannelPinLaw", name := "hasPrefix", desc := "(Ljava/lang/String;)Z" } : Jvm.MethodName) method_3_code (1 : Nat) (Option.some Jvm.ClassFile.FieldType.boolean), Jvm.Cond.code ({ cls := "java/lang/String", name := "charAt", desc := "(I)C" } : Jvm.MethodName) jdk_42_method_56_code (2 : Nat) (Option.some Jvm.ClassFile.FieldType.char), Jvm.Cond.code ({ cls := "java/lang/StringLatin1", name := "charAt", desc := "([BI)C" } : Jvm.MethodName) jdk_43_method_2_code (2 : Nat) (Option.some Jvm.ClassFile.FieldType.char), Jvm.Cond.code ({ cls := "java/lang/String", name := "checkIndex", desc := "(II)V" } : Jvm.MethodName) jdk_42_method_155_code (2 : Nat) (Option.none : Option Jvm.ClassFile.FieldType), Jvm.Cond.code ({ cls := "jdk/internal/util/Preconditions", name := "checkIndex", desc := "(IILjava/util/function/BiFunction;)I" } : Jvm.MethodName) jdk_41_method_11_code (3 : Nat) (Option.some Jvm.ClassFile.FieldType.int)]
set_option maxRecDepth 65536 in
theorem codes_eq : words1.filter isCode = codes1 := rfl
theorem w_codes : ∀ c ∈ words1.filter isCode, c.before args0 about1 = true := by
  rw [codes_eq]
  intro c hc
  simp only [codes1, List.mem_cons, List.not_mem_nil, or_false] at hc
  rcases hc with rfl | rfl | rfl | rfl | rfl | rfl | rfl | rfl | rfl | rfl | rfl | rfl | rfl | rfl | rfl | rfl | rfl | rfl | rfl | rfl | rfl | rfl | rfl | rfl | rfl | rfl | rfl | rfl | rfl | rfl | rfl | rfl | rfl | rfl | rfl | rfl | rfl | rfl | rfl | rfl | rfl | rfl | rfl | rfl | rfl | rfl | rfl | rfl | rfl | rfl | rfl | rfl
  · exact w_c0
  · exact w_c1
  · exact w_c2
  · exact w_c3
  · exact w_c4
  · exact w_c5
  · exact w_c6
  · exact w_c7
  · exact w_c8
  · exact w_c9
  · exact w_c10
  · exact w_c11
  · exact w_c12
  · exact w_c13
  · exact w_c14
  · exact w_c15
  · exact w_c16
  · exact w_c17
  · exact w_c18
  · exact w_c19
  · exact w_c20
  · exact w_c21
  · exact w_c22
  · exact w_c23
  · exact w_c24
  · exact w_c25
  · exact w_c26
  · exact w_c27
  · exact w_c28
  · exact w_c29
  · exact w_c30
  · exact w_c31
  · exact w_c32
  · exact w_c33
  · exact w_c34
  · exact w_c35
  · exact w_c36
  · exact w_c37
  · exact w_c38
  · exact w_c39
  · exact w_c40
  · exact w_c41
  · exact w_c42
  · exact w_c43
  · exact w_c44
  · exact w_c45
  · exact w_c46
  · exact w_c47
  · exact w_c48
  · exact w_c49
  · exact w_c50
  · exact w_c51
set_option maxRecDepth 65536 in
theorem w_t1 : (words1.take 24).all (fun c => isCode c || c.before args0 about1) = true := by decide +kernel
set_option maxRecDepth 65536 in
theorem w_t2 : ((words1.drop 24).take 24).all (fun c => isCode c || c.before args0 about1) = true := by decide +kernel
set_option maxRecDepth 65536 in
theorem w_t3 : (((words1.drop 24).drop 24).take 24).all (fun c => isCode c || c.before args0 about1) = true := by decide +kernel
set_option maxRecDepth 65536 in
theorem w_t4 : ((((words1.drop 24).drop 24).drop 24).take 24).all (fun c => isCode c || c.before args0 about1) = true := by decide +kernel
set_option maxRecDepth 65536 in
theorem w_t5 : (((((words1.drop 24).drop 24).drop 24).drop 24).take 24).all (fun c => isCode c || c.before args0 about1) = true := by decide +kernel
set_option maxRecDepth 65536 in
theorem w_t6 : ((((((words1.drop 24).drop 24).drop 24).drop 24).drop 24).take 24).all (fun c => isCode c || c.before args0 about1) = true := by decide +kernel
set_option maxRecDepth 65536 in
theorem w_t7 : (((((((words1.drop 24).drop 24).drop 24).drop 24).drop 24).drop 24).take 24).all (fun c => isCode c || c.before args0 about1) = true := by decide +kernel
set_option maxRecDepth 65536 in
theorem w_t8 : ((((((((words1.drop 24).drop 24).drop 24).drop 24).drop 24).drop 24).drop 24).take 24).all (fun c => isCode c || c.before args0 about1) = true := by decide +kernel
set_option maxRecDepth 65536 in
theorem w_t9 : (((((((((words1.drop 24).drop 24).drop 24).drop 24).drop 24).drop 24).drop 24).drop 24).take 24).all (fun c => isCode c || c.before args0 about1) = true := by decide +kernel
set_option maxRecDepth 65536 in
theorem w_t10 : ((((((((((words1.drop 24).drop 24).drop 24).drop 24).drop 24).drop 24).drop 24).drop 24).drop 24).take 24).all (fun c => isCode c || c.before args0 about1) = true := by decide +kernel
set_option maxRecDepth 65536 in
theorem w_t11 : ((((((((((words1.drop 24).drop 24).drop 24).drop 24).drop 24).drop 24).drop 24).drop 24).drop 24).drop 24).all (fun c => isCode c || c.before args0 about1) = true := by decide +kernel
theorem w_tables : (allAtoms (Jvm.Cond.code x code maxLocals ret :: tables_1)).before args0 about1 = true := by
  rw [allAtoms_all]
  show words1.all (fun c => c.before args0 about1) = true
  refine all_split ?_ w_codes
  rw [← List.take_append_drop 24 words1, List.all_append, w_t1, ← List.take_append_drop 24 (words1.drop 24), List.all_append, w_t2, ← List.take_append_drop 24 ((words1.drop 24).drop 24), List.all_append, w_t3, ← List.take_append_drop 24 (((words1.drop 24).drop 24).drop 24), List.all_append, w_t4, ← List.take_append_drop 24 ((((words1.drop 24).drop 24).drop 24).drop 24), List.all_append, w_t5, ← List.take_append_drop 24 (((((words1.drop 24).drop 24).drop 24).drop 24).drop 24), List.all_append, w_t6, ← List.take_append_drop 24 ((((((words1.drop 24).drop 24).drop 24).drop 24).drop 24).drop 24), List.all_append, w_t7, ← List.take_append_drop 24 (((((((words1.drop 24).drop 24).drop 24).drop 24).drop 24).drop 24).drop 24), List.all_append, w_t8, ← List.take_append_drop 24 ((((((((words1.drop 24).drop 24).drop 24).drop 24).drop 24).drop 24).drop 24).drop 24), List.all_append, w_t9, ← List.take_append_drop 24 (((((((((words1.drop 24).drop 24).drop 24).drop 24).drop 24).drop 24).drop 24).drop 24).drop 24), List.all_append, w_t10, w_t11]
  rfl
set_option maxRecDepth 65536 in
theorem w_rest : rest_1_c.before args0 about1 = true := by decide +kernel
set_option maxRecDepth 65536 in
theorem w_case : (Jvm.Cond.and given_1 narrow_1).before args0 about1 = true := by decide +kernel
set_option maxRecDepth 65536 in
theorem w_consts : constsHeld consts_1 about1 := Jvm.Lit.constsHeldB_iff.mp (by decide +kernel)
theorem w_applies : (headSpec (Jvm.Cond.code x code maxLocals ret :: tables_1) room_1).applies x e0.platform about1 = true :=
  (Spec.applies_iff w_frames).mpr ⟨w_running, w_runnable, w_alone, w_named, w_hears, w_ripe, w_room, w_tables⟩
theorem atStart : AtStart classFile x code maxLocals ret World_1 tables_1 room_1 Calls_1 rest_1 Pre_1 launch0 p0 e0 about1 theMethod args0 below0 :=
  ⟨lists_1, trivial, launch0.admits_env _ _ _, launch0.least_env, fairChoices_fair.cas, fairChoices_fair.clock, w_frames, w_args, w_heap, w_applies, ⟨w_consts, trivial⟩, w_rest, w_case⟩
end start1
theorem witness_1 : WitnessClaimed_1 := ⟨start1.p0, start1.e0, start1.about1, start1.theMethod, start1.args0, start1.below0, start1.atStart⟩
end Jvm.Pilot.@@N@@
