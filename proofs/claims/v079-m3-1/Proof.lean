import JvmDerived
import JvmDerived.Pilot.@@N@@Statement
import JvmDerived.Pilot.@@N@@Code
set_option linter.unusedVariables false
set_option linter.unusedSimpArgs false
/- laws to paste: Road.backV, Road.chN, Road.codOf (cut by pick.py; bodies as the Statement names them) -/
namespace Jvm.Pilot.@@N@@
namespace StrChars
open Jvm Sem ClassFile Op Lib Jvm.Stand Jvm.Free.XT Jvm.Free.ALB Jvm.Free.JM Jvm.Free
open Jvm.Lib.Cold (StaticIs)
/-- a char array whose places are chars -/
def Ch (a : Addr) (A : Cell) (U : State) : Prop := Arr .char a A U ∧ Typed .char A
theorem Ch.mv {a : Addr} {A : Cell} {U U' : State} (h : Ch a A U) (hal : U.vm.Alike U'.vm) (hh : U'.heap = U.heap) : Ch a A U' := ⟨h.1.mv hal hh, h.2⟩
theorem Ch.keep {a : Addr} {A : Cell} {U U' : State} (h : Ch a A U) (hal : U.vm.Alike U'.vm) (hk : U'.heap[a]? = some A) : Ch a A U' := ⟨h.1.keep hal hk, h.2⟩
/-- what place i of a char[]'s cell holds -/
def cv (A : Cell) (i : Nat) : Int32 := match A.slots[i]? with | some (.int x) => x | _ => 0
theorem Ch.get {a : Addr} {A : Cell} {U : State} (h : Ch a A U) {i : Nat} (hi : i < A.slots.size) : A.slots[i]? = some (.int (cv A i)) := by
  have e := Array.getElem?_eq_getElem hi
  have f := h.2 i _ e
  unfold cv; rw [e]
  generalize A.slots[i] = v at f
  cases v <;> simp [fits] at f ⊢
/-- the byte that i2b leaves of a char -/
def lo8 (x : Int32) : Int32 := x.toInt8.toInt32
theorem fits_lo8 (y : Int32) : fits .byte (.int (lo8 y)) = true := by
  have h1 := y.toInt8.le_toInt
  have h2 := y.toInt8.toInt_lt
  simp only [lo8, fits, Bool.and_eq_true, decide_eq_true_eq, Int32.le_iff_toInt_le, Int8.toInt_toInt32, show (-128 : Int32).toInt = -128 from by decide, show (127 : Int32).toInt = 127 from by decide]
  omega
/-- A' is A but that each place j of lo .. hi - 1 holds f j -/
def Laid (A A' : Cell) (lo hi : Nat) (f : Nat → Value) : Prop := A'.cls = A.cls ∧ A'.vm = A.vm ∧ A'.slots.size = A.slots.size ∧ ∀ i, A'.slots[i]? = if lo ≤ i ∧ i < hi then some (f i) else A.slots[i]?
theorem Laid.zero (A : Cell) (lo : Nat) (f : Nat → Value) : Laid A A lo (lo + 0) f := ⟨rfl, rfl, rfl, fun i => by rw [if_neg (by omega)]⟩
theorem Laid.step {A Ak : Cell} {lo k : Nat} {f : Nat → Value} {v : Value} (h : Laid A Ak lo k f) (hlo : lo ≤ k) (hk : k < Ak.slots.size) (hv : v = f k) : Laid A (Ak.setSlot k v) lo (k + 1) f := by
  refine ⟨h.1, h.2.1, by simpa [Cell.setSlot] using h.2.2.1, fun i => ?_⟩
  by_cases e : k = i
  · subst e; rw [Cell.slots_setSlot_self v hk, if_pos (by omega), hv]
  · rw [Cell.slots_setSlot_ne v e, h.2.2.2 i]
    by_cases q : lo ≤ i ∧ i < k
    · rw [if_pos q, if_pos (by omega)]
    · rw [if_neg q, if_neg (by omega)]
def U16 : String := "java/lang/StringUTF16"
namespace Cmp5
def yN : MethodName := ⟨"java/lang/StringUTF16", "compress", "([CI[BII)I"⟩
abbrev yB : ByteArray := jdk_52_method_21_code
theorem d0 : decode yB 0 = .ok (.iconst 0, 1) := by decide +kernel
theorem d1 : decode yB 1 = .ok (.istore 5, 2) := by decide +kernel
theorem d3 : decode yB 3 = .ok (.iload 5, 2) := by decide +kernel
theorem d5 : decode yB 5 = .ok (.iload 4, 2) := by decide +kernel
theorem d7 : decode yB 7 = .ok (.if_icmp (.ge) 37, 3) := by decide +kernel
theorem d10 : decode yB 10 = .ok (.aload_n 0, 1) := by decide +kernel
theorem d11 : decode yB 11 = .ok (.iload_n 1, 1) := by decide +kernel
theorem d12 : decode yB 12 = .ok (.caload, 1) := by decide +kernel
theorem d13 : decode yB 13 = .ok (.istore 6, 2) := by decide +kernel
theorem d15 : decode yB 15 = .ok (.iload 6, 2) := by decide +kernel
theorem d17 : decode yB 17 = .ok (.sipush 255, 3) := by decide +kernel
theorem d20 : decode yB 20 = .ok (.if_icmp (.le) 6, 3) := by decide +kernel
theorem d26 : decode yB 26 = .ok (.aload_n 2, 1) := by decide +kernel
theorem d27 : decode yB 27 = .ok (.iload_n 3, 1) := by decide +kernel
theorem d28 : decode yB 28 = .ok (.iload 6, 2) := by decide +kernel
theorem d30 : decode yB 30 = .ok (.i2b, 1) := by decide +kernel
theorem d31 : decode yB 31 = .ok (.bastore, 1) := by decide +kernel
theorem d32 : decode yB 32 = .ok (.iinc 1 1, 3) := by decide +kernel
theorem d35 : decode yB 35 = .ok (.iinc 3 1, 3) := by decide +kernel
theorem d38 : decode yB 38 = .ok (.iinc 5 1, 3) := by decide +kernel
theorem d41 : decode yB 41 = .ok (.goto (-38), 3) := by decide +kernel
theorem d44 : decode yB 44 = .ok (.iload 4, 2) := by decide +kernel
theorem d46 : decode yB 46 = .ok (.ireturn, 1) := by decide +kernel
def site : List Cond := []
def tab : Cond := tabOf yN yB 7 (some .int) site
def P (b : Addr) (A : Cell) (d : Addr) (B : Cell) (o q len : Nat) (args : Array Value) (s : State) : Prop := args = #[.ref b, .int (Int32.ofNat o), .ref d, .int (Int32.ofNat q), .int (Int32.ofNat len)] ∧ Ch b A s ∧ Arr .byte d B s ∧ b ≠ d ∧ o + len ≤ A.slots.size ∧ q + len ≤ B.slots.size ∧ ∀ i, i < len → ¬ 255 < cv A (o + i)
def E (b : Addr) (A : Cell) (d : Addr) (B : Cell) (o q len : Nat) (r : Option Value) (s u : State) : Prop := r = some (.int (Int32.ofNat len)) ∧ ∃ B', Put d B' s u ∧ Laid B B' q (q + len) (fun j => Value.int (lo8 (cv A (o + (j - q)))))
/-- no char of the range above 255: len; the places written hold each char's low byte -/
theorem law (l : Launch) (b : Addr) (A : Cell) (d : Addr) (B : Cell) (o q len : Nat) : Law l yN 5 5 0 0 yB 7 (some .int) site (P b A d B o q len) (E b A d B o q len) (copyLocs d q len) 0 0 := by
  refine Law.of_walk (plainFor_of_name (by decide +kernel)) (by decide +kernel) (by decide +kernel) (by decide) (fun _ _ h => by rw [h.1]; rfl) (fun _ U U' hal hh h => ⟨h.1, h.2.1.mv hal hh, h.2.2.1.mv hal hh, h.2.2.2⟩) (fun r U U' V V' h1 hal h2 h => ⟨h.1, h.2.elim fun B' q => ⟨B', q.1.mv h1 h2, q.2⟩⟩) ?_
  intro p e s m args below meth c s₁ X0 hexec hbytes hml hret hlk hnm hown hh0 W hP
  obtain ⟨rfl, hA, hB, hne, l1, l2, hp⟩ := hP
  have c1 : Steps p.tables e below (s₁.setTop (entryFrame m #[.ref b, .int (Int32.ofNat o), .ref d, .int (Int32.ofNat q), .int (Int32.ofNat len)] 7)) (s₁.setTop (mkF m 0 #[.val (.ref b), .val (.int (Int32.ofNat o)), .val (.ref d), .val (.int (Int32.ofNat q)), .val (.int (Int32.ofNat len)), .unset, .unset] [])) := entry rfl
  have hA0 := hA.1.mv X0.warmed.alike hh0
  have hB0 := hB.mv X0.warmed.alike hh0
  have a31 := hA.1.2.2.2
  have c2 : Steps p.tables e below (s₁.setTop (entryFrame m #[.ref b, .int (Int32.ofNat o), .ref d, .int (Int32.ofNat q), .int (Int32.ofNat len)] 7)) (s₁.setTop (mkF m 3 #[.val (.ref b), .val (.int (Int32.ofNat o)), .val (.ref d), .val (.int (Int32.ofNat q)), .val (.int (Int32.ofNat len)), .val (.int 0), .unset] [])) := c1.trans (by
    refine iconstV X0.here hexec rfl 0 (hb hbytes d0) (by decide) ?_
    refine XS.istore X0.here hexec rfl (hb hbytes d1) rfl rfl ?_
    exact Steps.refl _)
  have loop : ∀ (r i : Nat), i + r = len → ∀ (z : Slot), (z = .unset ∨ ∃ w, z = .val w ∧ w.category = 1) → ∀ (Tl : State) (Bk : Cell), Stand p l e { frames := 0, locals := 0, cells := 0, slots := 0 } s m #[.ref b, .int (Int32.ofNat o), .ref d, .int (Int32.ofNat q), .int (Int32.ofNat len)] below meth c Tl ([] ++ copyLocs d q i) 0 0 → Put d Bk s₁ Tl → Laid B Bk q (q + i) (fun j => Value.int (lo8 (cv A (o + (j - q))))) →
      Steps p.tables e below (s₁.setTop (entryFrame m #[.ref b, .int (Int32.ofNat o), .ref d, .int (Int32.ofNat q), .int (Int32.ofNat len)] 7)) (Tl.setTop (mkF m 3 #[.val (.ref b), .val (.int (Int32.ofNat (o + i))), .val (.ref d), .val (.int (Int32.ofNat (q + i))), .val (.int (Int32.ofNat len)), .val (.int (Int32.ofNat i)), z] [])) → ∃ (T' : State) (B' : Cell) (z' : Slot), Stand p l e { frames := 0, locals := 0, cells := 0, slots := 0 } s m #[.ref b, .int (Int32.ofNat o), .ref d, .int (Int32.ofNat q), .int (Int32.ofNat len)] below meth c T' ([] ++ copyLocs d q len) 0 0 ∧ Put d B' s₁ T' ∧ Laid B B' q (q + len) (fun j => Value.int (lo8 (cv A (o + (j - q))))) ∧
      Steps p.tables e below (s₁.setTop (entryFrame m #[.ref b, .int (Int32.ofNat o), .ref d, .int (Int32.ofNat q), .int (Int32.ofNat len)] 7)) (T'.setTop (mkF m 3 #[.val (.ref b), .val (.int (Int32.ofNat (o + len))), .val (.ref d), .val (.int (Int32.ofNat (q + len))), .val (.int (Int32.ofNat len)), .val (.int (Int32.ofNat len)), z'] [])) := by
    intro r
    induction r with
    | zero =>
      intro i hi z hz Tl Bk Xl pl fl cl
      have hil : i = len := by omega
      rw [hil] at Xl fl cl
      exact ⟨Tl, Bk, z, Xl, pl, fl, cl⟩
    | succ r ih =>
      intro i hi z hz Tl Bk Xl pl fl cl
      have all := X0.warmed.alike.symm.trans Xl.warmed.alike
      have hAl := hA0.keep all (pl.other hne hA0.1)
      have hBk := hB0.like all pl.1 fl.1 fl.2.1 fl.2.2.1
      have hlt : q + i < Bk.slots.size := by rw [fl.2.2.1]; omega
      have c3 : Steps p.tables e below (s₁.setTop (entryFrame m #[.ref b, .int (Int32.ofNat o), .ref d, .int (Int32.ofNat q), .int (Int32.ofNat len)] 7)) (Tl.setTop (mkF m 12 #[.val (.ref b), .val (.int (Int32.ofNat (o + i))), .val (.ref d), .val (.int (Int32.ofNat (q + i))), .val (.int (Int32.ofNat len)), .val (.int (Int32.ofNat i)), z] [.int (Int32.ofNat (o + i)), .ref b])) := cl.trans (by
        refine XS.iload Xl.here hexec rfl (hb hbytes d3) rfl ?_
        refine XS.iload Xl.here hexec rfl (hb hbytes d5) rfl ?_
        refine XS.icmpNo Xl.here hexec rfl (hb hbytes d7) rfl (ii_ge_f (lt32 (by omega) (by omega))) ?_
        refine XS.aloadN Xl.here hexec rfl (hb hbytes d10) rfl rfl ?_
        refine XS.iloadN Xl.here hexec rfl (hb hbytes d11) rfl ?_
        exact Steps.refl _)
      have c4 : Steps p.tables e below (s₁.setTop (entryFrame m #[.ref b, .int (Int32.ofNat o), .ref d, .int (Int32.ofNat q), .int (Int32.ofNat len)] 7)) (Tl.setTop (mkF m 13 #[.val (.ref b), .val (.int (Int32.ofNat (o + i))), .val (.ref d), .val (.int (Int32.ofNat (q + i))), .val (.int (Int32.ofNat len)), .val (.int (Int32.ofNat i)), z] [.int (cv A (o + i))])) := c3.trans (by
        refine Xl.aget hexec hAl rfl (hA.get (i := o + i) (by omega)) rfl rfl (hb hbytes d12) ?_
        exact Steps.refl _)
      have c5 : Steps p.tables e below (s₁.setTop (entryFrame m #[.ref b, .int (Int32.ofNat o), .ref d, .int (Int32.ofNat q), .int (Int32.ofNat len)] 7)) (Tl.setTop (mkF m 15 #[.val (.ref b), .val (.int (Int32.ofNat (o + i))), .val (.ref d), .val (.int (Int32.ofNat (q + i))), .val (.int (Int32.ofNat len)), .val (.int (Int32.ofNat i)), .val (.int (cv A (o + i)))] [])) := c4.trans (by
        refine XS.istoreS Xl.here hexec rfl (hb hbytes d13) rfl rfl hz ?_
        exact Steps.refl _)
      have c6 : Steps p.tables e below (s₁.setTop (entryFrame m #[.ref b, .int (Int32.ofNat o), .ref d, .int (Int32.ofNat q), .int (Int32.ofNat len)] 7)) (Tl.setTop (mkF m 31 #[.val (.ref b), .val (.int (Int32.ofNat (o + i))), .val (.ref d), .val (.int (Int32.ofNat (q + i))), .val (.int (Int32.ofNat len)), .val (.int (Int32.ofNat i)), .val (.int (cv A (o + i)))] [.int (lo8 (cv A (o + i))), .int (Int32.ofNat (q + i)), .ref d])) := c5.trans (by
        refine XS.iload Xl.here hexec rfl (hb hbytes d15) rfl ?_
        refine sipushV Xl.here hexec rfl 255 (hb hbytes d17) (by decide) ?_
        refine XS.icmpYes Xl.here hexec rfl (pc0 := 20) rfl (hb hbytes d20) rfl (ii_le_t (hp i (by omega))) (by decide) rfl ?_
        refine XS.aloadN Xl.here hexec rfl (hb hbytes d26) rfl rfl ?_
        refine XS.iloadN Xl.here hexec rfl (hb hbytes d27) rfl ?_
        refine XS.iload Xl.here hexec rfl (hb hbytes d28) rfl ?_
        refine i2b Xl.here hexec rfl (hb hbytes d30) rfl ?_
        exact Steps.refl _)
      obtain ⟨T7, X7, p7, st7⟩ := Xl.aput hexec hBk rfl hlt rfl (fits_lo8 (cv A (o + i))) (g := (mkF m 31 #[.val (.ref b), .val (.int (Int32.ofNat (o + i))), .val (.ref d), .val (.int (Int32.ofNat (q + i))), .val (.int (Int32.ofNat len)), .val (.int (Int32.ofNat i)), .val (.int (cv A (o + i)))] [.int (lo8 (cv A (o + i))), .int (Int32.ofNat (q + i)), .ref d])) rfl (rest := []) rfl (hb hbytes d31)
      have c8 : Steps p.tables e below (s₁.setTop (entryFrame m #[.ref b, .int (Int32.ofNat o), .ref d, .int (Int32.ofNat q), .int (Int32.ofNat len)] 7)) (T7.setTop (mkF m 32 #[.val (.ref b), .val (.int (Int32.ofNat (o + i))), .val (.ref d), .val (.int (Int32.ofNat (q + i))), .val (.int (Int32.ofNat len)), .val (.int (Int32.ofNat i)), .val (.int (cv A (o + i)))] [])) := c6.trans (st7 _ (Steps.refl _))
      have c9 : Steps p.tables e below (s₁.setTop (entryFrame m #[.ref b, .int (Int32.ofNat o), .ref d, .int (Int32.ofNat q), .int (Int32.ofNat len)] 7)) (T7.setTop (mkF m 3 #[.val (.ref b), .val (.int (Int32.ofNat (o + i) + 1)), .val (.ref d), .val (.int (Int32.ofNat (q + i) + 1)), .val (.int (Int32.ofNat len)), .val (.int (Int32.ofNat i + 1)), .val (.int (cv A (o + i)))] [])) := c8.trans (by
        refine iincV X7.here hexec rfl 1 (hb hbytes d32) (by decide) rfl rfl ?_
        refine iincV X7.here hexec rfl 1 (hb hbytes d35) (by decide) rfl rfl ?_
        refine iincV X7.here hexec rfl 1 (hb hbytes d38) (by decide) rfl rfl ?_
        refine XS.goto X7.here hexec rfl (pc0 := 41) rfl (hb hbytes d41) (by decide) rfl ?_
        exact Steps.refl _)
      have c10 : Steps p.tables e below (s₁.setTop (entryFrame m #[.ref b, .int (Int32.ofNat o), .ref d, .int (Int32.ofNat q), .int (Int32.ofNat len)] 7)) (T7.setTop (mkF m 3 #[.val (.ref b), .val (.int (Int32.ofNat (o + (i + 1)))), .val (.ref d), .val (.int (Int32.ofNat (q + (i + 1)))), .val (.int (Int32.ofNat len)), .val (.int (Int32.ofNat (i + 1))), .val (.int (cv A (o + i)))] [])) := by
        have := c9
        rw [succ32, succ32, succ32] at this
        exact this
      exact ih (i + 1) (by omega) _ (Or.inr ⟨_, rfl, rfl⟩) T7 _ (by rw [copyLocs_step, ← List.append_assoc]; exact X7) (pl.trans p7) (fl.step (by omega) hlt (by simp)) c10
  obtain ⟨T9, B9, z9, X9, p9, f9, g9⟩ := loop len 0 (by omega) .unset (Or.inl rfl) s₁ B (by simpa [copyLocs] using X0) ⟨hB0.1, fun _ _ => rfl, rfl⟩ (Laid.zero _ _ _) c2
  have c11 : Steps p.tables e below (s₁.setTop (entryFrame m #[.ref b, .int (Int32.ofNat o), .ref d, .int (Int32.ofNat q), .int (Int32.ofNat len)] 7)) (T9.setTop (mkF m 46 #[.val (.ref b), .val (.int (Int32.ofNat (o + len))), .val (.ref d), .val (.int (Int32.ofNat (q + len))), .val (.int (Int32.ofNat len)), .val (.int (Int32.ofNat len)), z9] [.int (Int32.ofNat len)])) := g9.trans (by
    refine XS.iload X9.here hexec rfl (hb hbytes d3) rfl ?_
    refine XS.iload X9.here hexec rfl (hb hbytes d5) rfl ?_
    refine XS.icmpYes X9.here hexec rfl (pc0 := 7) rfl (hb hbytes d7) rfl (ii_ge_t (nlt32 (by omega) (Nat.le_refl _))) (by decide) rfl ?_
    refine XS.iload X9.here hexec rfl (hb hbytes d44) rfl ?_
    exact Steps.refl _)
  exact ⟨T9, some (.int (Int32.ofNat len)), _, _, _, X9, by simp, rfl, rfl, (fun h => by cases h), ⟨rfl, B9, p9.from hh0, f9⟩, fun fs hl => c11.trans (X9.ireturnOut hexec hret rfl (Or.inl rfl) (hb hbytes d46) hl)⟩
end Cmp5
namespace Cmp3
def yN : MethodName := ⟨"java/lang/StringUTF16", "compress", "([CII)[B"⟩
abbrev yB : ByteArray := jdk_52_method_16_code
theorem d0 : decode yB 0 = .ok (.iload_n 2, 1) := by decide +kernel
theorem d1 : decode yB 1 = .ok (.newarray .byte, 2) := by decide +kernel
theorem d3 : decode yB 3 = .ok (.astore_n 3, 1) := by decide +kernel
theorem d4 : decode yB 4 = .ok (.aload_n 0, 1) := by decide +kernel
theorem d5 : decode yB 5 = .ok (.iload_n 1, 1) := by decide +kernel
theorem d6 : decode yB 6 = .ok (.aload_n 3, 1) := by decide +kernel
theorem d7 : decode yB 7 = .ok (.iconst 0, 1) := by decide +kernel
theorem d8 : decode yB 8 = .ok (.iload_n 2, 1) := by decide +kernel
theorem d9 : decode yB 9 = .ok (.invokestatic 115, 3) := by decide +kernel
theorem d12 : decode yB 12 = .ok (.istore 4, 2) := by decide +kernel
theorem d14 : decode yB 14 = .ok (.iload 4, 2) := by decide +kernel
theorem d16 : decode yB 16 = .ok (.iload_n 2, 1) := by decide +kernel
theorem d17 : decode yB 17 = .ok (.if_icmp (.eq) 40, 3) := by decide +kernel
theorem d57 : decode yB 57 = .ok (.aload_n 3, 1) := by decide +kernel
theorem d58 : decode yB 58 = .ok (.areturn, 1) := by decide +kernel
def site : List Cond := [.arrayClass .byte, Cmp5.tab] ++ staticW U16 115 Cmp5.yN
def tab : Cond := tabOf yN yB 6 (some (.array .byte)) site
def P (b : Addr) (A : Cell) (o len : Nat) (args : Array Value) (s : State) : Prop := args = #[.ref b, .int (Int32.ofNat o), .int (Int32.ofNat len)] ∧ Ch b A s ∧ o + len ≤ A.slots.size ∧ len ≤ 536870912 ∧ ∀ i, i < len → ¬ 255 < cv A (o + i)
def E (b : Addr) (A : Cell) (o len : Nat) (r : Option Value) (s u : State) : Prop := NewArr .byte "[B" len (fun j => .int (lo8 (cv A (o + j)))) r s u ∧ u.heap.size = s.heap.size + 1
/-- no char of the range above 255: a new byte[] of their low bytes -/
theorem law (l : Launch) (b : Addr) (A : Cell) (o len : Nat) : Law l yN 3 3 1 18 yB 6 (some (.array .byte)) site (P b A o len) (E b A o len) [] 1 len := by
  refine Law.of_walk (plainFor_of_name (by decide +kernel)) (by decide +kernel) (by decide +kernel) (by decide) (fun _ _ h => by rw [h.1]; rfl) (fun _ U U' hal hh h => ⟨h.1, h.2.1.mv hal hh, h.2.2⟩) (fun r U U' V V' h1 hal h2 h => ⟨NewArr.mv r U U' V V' h1 hal h2 h.1, by rw [h1, h2]; exact h.2⟩) ?_
  intro p e s m args below meth c s₁ X0 hexec hbytes hml hret hlk hnm hown hh0 W hP
  obtain ⟨rfl, hA, l1, l2, hp⟩ := hP
  have a31 := hA.1.2.2.2
  have c1 : Steps p.tables e below (s₁.setTop (entryFrame m #[.ref b, .int (Int32.ofNat o), .int (Int32.ofNat len)] 6)) (s₁.setTop (mkF m 0 #[.val (.ref b), .val (.int (Int32.ofNat o)), .val (.int (Int32.ofNat len)), .unset, .unset, .unset] [])) := entry rfl
  have c2 : Steps p.tables e below (s₁.setTop (entryFrame m #[.ref b, .int (Int32.ofNat o), .int (Int32.ofNat len)] 6)) (s₁.setTop (mkF m 1 #[.val (.ref b), .val (.int (Int32.ofNat o)), .val (.int (Int32.ofNat len)), .unset, .unset, .unset] [.int (Int32.ofNat len)])) := c1.trans (by
    refine XS.iloadN X0.here hexec rfl (hb hbytes d0) rfl ?_
    exact Steps.refl _)
  obtain ⟨T3, B3, X3, ba3, bs3, bv3, bh3, bf3, st3⟩ := X0.anew hexec (atype := .byte) (wk W (.arrayClass .byte)) rfl (by show len * 1 ≤ _; omega) (by omega) (g := (mkF m 1 #[.val (.ref b), .val (.int (Int32.ofNat o)), .val (.int (Int32.ofNat len)), .unset, .unset, .unset] [.int (Int32.ofNat len)])) rfl (hb hbytes d1) (rest := []) rfl (Nat.le_refl _) (by show 0 + len ≤ len; omega)
  rw [hh0] at ba3 st3
  have kp3 : XT.Kept s T3 := (XT.Kept.of_eq hh0).push bh3
  have hA3 := hA.keep X3.warmed.alike (kp3 _ _ hA.1.1)
  have hne : b ≠ s.heap.size := hA.1.ne
  have c4 : Steps p.tables e below (s₁.setTop (entryFrame m #[.ref b, .int (Int32.ofNat o), .int (Int32.ofNat len)] 6)) (T3.setTop (mkF m 3 #[.val (.ref b), .val (.int (Int32.ofNat o)), .val (.int (Int32.ofNat len)), .unset, .unset, .unset] [.ref s.heap.size])) := c2.trans (st3 _ (Steps.refl _))
  have c5 : Steps p.tables e below (s₁.setTop (entryFrame m #[.ref b, .int (Int32.ofNat o), .int (Int32.ofNat len)] 6)) (T3.setTop (mkF m 9 #[.val (.ref b), .val (.int (Int32.ofNat o)), .val (.int (Int32.ofNat len)), .val (.ref s.heap.size), .unset, .unset] [.int (Int32.ofNat len), .int 0, .ref s.heap.size, .int (Int32.ofNat o), .ref b])) := c4.trans (by
    refine XS.astoreN X3.here hexec rfl (hb hbytes d3) rfl rfl rfl ?_
    refine XS.aloadN X3.here hexec rfl (hb hbytes d4) rfl rfl ?_
    refine XS.iloadN X3.here hexec rfl (hb hbytes d5) rfl ?_
    refine XS.aloadN X3.here hexec rfl (hb hbytes d6) rfl rfl ?_
    refine iconstV X3.here hexec rfl 0 (hb hbytes d7) (by decide) ?_
    refine XS.iloadN X3.here hexec rfl (hb hbytes d8) rfl ?_
    exact Steps.refl _)
  obtain ⟨v6, T6, X6, E6, g6⟩ := X3.callS hexec (Cmp5.law l b A s.heap.size B3 o 0 len) hown (wks W (staticW U16 115 Cmp5.yN)) (wk W Cmp5.tab) (W := 0) (Nat.le_of_ble_eq_true rfl) (Nat.le_of_ble_eq_true rfl) (Nat.le_refl _) (by show 0 + len + 0 ≤ len; omega) (g := (mkF m 9 #[.val (.ref b), .val (.int (Int32.ofNat o)), .val (.int (Int32.ofNat len)), .val (.ref s.heap.size), .unset, .unset] [.int (Int32.ofNat len), .int (Int32.ofNat 0), .ref s.heap.size, .int (Int32.ofNat o), .ref b])) rfl (by rw [hml]; rfl) c5 (argsL := [.ref b, .int (Int32.ofNat o), .ref s.heap.size, .int (Int32.ofNat 0), .int (Int32.ofNat len)]) (rest := []) rfl rfl (by show 2 * 0 + 0 ≤ _; decide) (hb hbytes d9) (⟨rfl, hA3, ba3, hne, l1, by rw [bs3]; simp, hp⟩)
  obtain ⟨rfl, B6, p6, f6⟩ := E6
  have c7 : Steps p.tables e below (s₁.setTop (entryFrame m #[.ref b, .int (Int32.ofNat o), .int (Int32.ofNat len)] 6)) (T6.setTop (mkF m 12 #[.val (.ref b), .val (.int (Int32.ofNat o)), .val (.int (Int32.ofNat len)), .val (.ref s.heap.size), .unset, .unset] [.int (Int32.ofNat len)])) := g6
  have c8 : Steps p.tables e below (s₁.setTop (entryFrame m #[.ref b, .int (Int32.ofNat o), .int (Int32.ofNat len)] 6)) (T6.setTop (mkF m 58 #[.val (.ref b), .val (.int (Int32.ofNat o)), .val (.int (Int32.ofNat len)), .val (.ref s.heap.size), .val (.int (Int32.ofNat len)), .unset] [.ref s.heap.size])) := c7.trans (by
    refine XS.istore X6.here hexec rfl (hb hbytes d12) rfl rfl ?_
    refine XS.iload X6.here hexec rfl (hb hbytes d14) rfl ?_
    refine XS.iloadN X6.here hexec rfl (hb hbytes d16) rfl ?_
    refine XS.icmpYes X6.here hexec rfl (pc0 := 17) rfl (hb hbytes d17) rfl (ii_eq_t rfl) (by decide) rfl ?_
    refine XS.aloadN X6.here hexec rfl (hb hbytes d57) rfl rfl ?_
    exact Steps.refl _)
  have X8 := X6.wide (L' := []) (cells' := 1) (slots' := len) (fun x hx hlt => by
    simp only [List.nil_append, copyLocs, List.mem_map, List.mem_range] at hx
    obtain ⟨i, -, rfl⟩ := hx
    exact absurd hlt (Nat.lt_irrefl _)) (Nat.le_refl _) (by omega)
  exact ⟨T6, some (.ref s.heap.size), _, _, _, X8, rfl, rfl, rfl, (fun h => by cases h), ⟨⟨rfl, B6, ba3.like (X3.warmed.alike.symm.trans X6.warmed.alike) p6.1 f6.1 f6.2.1 f6.2.2.1, f6.2.1.trans bv3, by rw [X6.warmed.alike.findClass, f6.1]; exact bf3, by rw [f6.2.2.1, bs3]; simp, fun j hj => by rw [f6.2.2.2 j, if_pos (by omega)]; rfl, kp3.put p6 (Nat.le_refl _)⟩, by rw [p6.2.2, bh3, hh0]; simp⟩, fun fs hl => c8.trans (X8.areturnOut hexec rfl hret rfl (hb hbytes d58) hl)⟩
end Cmp3
namespace CodL
def yN : MethodName := ⟨"java/lang/StringUTF16", "coderFromArrayLen", "([BI)B"⟩
abbrev yB : ByteArray := jdk_52_method_15_code
theorem d0 : decode yB 0 = .ok (.iload_n 1, 1) := by decide +kernel
theorem d1 : decode yB 1 = .ok (.aload_n 0, 1) := by decide +kernel
theorem d2 : decode yB 2 = .ok (.arraylength, 1) := by decide +kernel
theorem d3 : decode yB 3 = .ok (.isub, 1) := by decide +kernel
theorem d4 : decode yB 4 = .ok (.bipush 31, 2) := by decide +kernel
theorem d6 : decode yB 6 = .ok (.iushr, 1) := by decide +kernel
theorem d7 : decode yB 7 = .ok (.i2b, 1) := by decide +kernel
theorem d8 : decode yB 8 = .ok (.ireturn, 1) := by decide +kernel
def site : List Cond := []
def tab : Cond := tabOf yN yB 2 (some .byte) site
def P (d : Addr) (B : Cell) (args : Array Value) (s : State) : Prop := args = #[.ref d, .int (Int32.ofNat B.slots.size)] ∧ Arr .byte d B s
def E (r : Option Value) (s u : State) : Prop := XT.PureE (some (.int 0)) r s u
/-- an array as long as the number of chars: LATIN1 -/
theorem law (l : Launch) (d : Addr) (B : Cell) : Law l yN 2 2 0 0 yB 2 (some .byte) site (P d B) E [] 0 0 := by
  refine Law.of_walk (plainFor_of_name (by decide +kernel)) (by decide +kernel) (by decide +kernel) (by decide) (fun _ _ h => by rw [h.1]; rfl) (fun _ U U' hal hh h => ⟨h.1, h.2.mv hal hh⟩) (fun r U U' V V' h1 hal h2 h => XT.PureE.mv r U U' V V' h1 hal h2 h) ?_
  intro p e s m args below meth c s₁ X0 hexec hbytes hml hret hlk hnm hown hh0 W hP
  obtain ⟨rfl, hB⟩ := hP
  have hB0 := hB.mv X0.warmed.alike hh0
  have c1 : Steps p.tables e below (s₁.setTop (entryFrame m #[.ref d, .int (Int32.ofNat B.slots.size)] 2)) (s₁.setTop (mkF m 0 #[.val (.ref d), .val (.int (Int32.ofNat B.slots.size))] [])) := entry rfl
  have c2 : Steps p.tables e below (s₁.setTop (entryFrame m #[.ref d, .int (Int32.ofNat B.slots.size)] 2)) (s₁.setTop (mkF m 2 #[.val (.ref d), .val (.int (Int32.ofNat B.slots.size))] [.ref d, .int (Int32.ofNat B.slots.size)])) := c1.trans (by
    refine XS.iloadN X0.here hexec rfl (hb hbytes d0) rfl ?_
    refine XS.aloadN X0.here hexec rfl (hb hbytes d1) rfl rfl ?_
    exact Steps.refl _)
  have c3 : Steps p.tables e below (s₁.setTop (entryFrame m #[.ref d, .int (Int32.ofNat B.slots.size)] 2)) (s₁.setTop (mkF m 8 #[.val (.ref d), .val (.int (Int32.ofNat B.slots.size))] [.int (lo8 (ushr (Int32.ofNat B.slots.size - Int32.ofNat B.slots.size) 31))])) := c2.trans (by
    refine X0.alen hexec hB0 rfl rfl (hb hbytes d2) ?_
    refine XS.isub X0.here hexec rfl (hb hbytes d3) rfl ?_
    refine bipushV X0.here hexec rfl 31 (hb hbytes d4) (by decide) ?_
    refine iushr X0.here hexec rfl (hb hbytes d6) rfl ?_
    refine i2b X0.here hexec rfl (hb hbytes d7) rfl ?_
    exact Steps.refl _)
  have e0 : lo8 (ushr (Int32.ofNat B.slots.size - Int32.ofNat B.slots.size) 31) = 0 := by rw [Int32.sub_self]; decide
  rw [e0] at c3
  exact ⟨s₁, some (.int 0), _, _, _, X0, rfl, rfl, rfl, (fun h => by cases h), ⟨rfl, hh0⟩, fun fs hl => c3.trans (X0.ireturnOut hexec hret rfl (Or.inr (Or.inr (Or.inl rfl))) (hb hbytes d8) hl)⟩
end CodL
/-- the String at a is Latin-1 over a new byte[] (the heap's one new cell): the low bytes of the len chars of A from o on; every cell but a is kept -/
def Got (a : Addr) (D : Cell) (fV fC : Field) (A : Cell) (o len : Nat) (r : Option Value) (s u : State) : Prop := r = none ∧ ∃ D' V : Cell, Blank "java/lang/String" a D' u ∧ Same D D' [fV.slot, fC.slot] ∧ D'.slots[fV.slot]? = some (.ref s.heap.size) ∧ D'.slots[fC.slot]? = some (.int 0) ∧ Arr .byte s.heap.size V u ∧ V.vm = .none ∧ u.vm.findClass "[B" = some V.cls ∧ V.slots.size = len ∧ (∀ j, j < len → V.slots[j]? = some (.int (lo8 (cv A (o + j))))) ∧ (∀ (y : Addr) (c : Cell), y ≠ a → s.heap[y]? = some c → u.heap[y]? = some c) ∧ u.heap.size = s.heap.size + 1
theorem Got.mv {a : Addr} {D A : Cell} {fV fC : Field} {o len : Nat} : ∀ r (U U' V V' : State), U'.heap = U.heap → V.vm.Alike V'.vm → V'.heap = V.heap → Got a D fV fC A o len r U V → Got a D fV fC A o len r U' V' :=
  fun r U U' V V' h1 hal h2 ⟨e0, D', X, a1, a2, a3, a4, a5, a6, a7, a8, a9, a10, a11⟩ => ⟨e0, D', X, a1.mv hal h2, a2, by rw [h1]; exact a3, a4, by rw [h1]; exact a5.mv hal h2, a6, by rw [hal.findClass]; exact a7, a8, a9, by rw [h1, h2]; exact a10, by rw [h1, h2]; exact a11⟩
namespace New4
def yN : MethodName := ⟨"java/lang/String", "<init>", "([CIILjava/lang/Void;)V"⟩
abbrev yB : ByteArray := jdk_42_method_149_code
theorem d0 : decode yB 0 = .ok (.aload_n 0, 1) := by decide +kernel
theorem d1 : decode yB 1 = .ok (.invokespecial 1, 3) := by decide +kernel
theorem d4 : decode yB 4 = .ok (.iload_n 3, 1) := by decide +kernel
theorem d5 : decode yB 5 = .ok (.ifCond (.ne) 22, 3) := by decide +kernel
theorem d27 : decode yB 27 = .ok (.getstatic 38, 3) := by decide +kernel
theorem d30 : decode yB 30 = .ok (.ifCond (.eq) 28, 3) := by decide +kernel
theorem d33 : decode yB 33 = .ok (.aload_n 1, 1) := by decide +kernel
theorem d34 : decode yB 34 = .ok (.iload_n 2, 1) := by decide +kernel
theorem d35 : decode yB 35 = .ok (.iload_n 3, 1) := by decide +kernel
theorem d36 : decode yB 36 = .ok (.invokestatic 177, 3) := by decide +kernel
theorem d39 : decode yB 39 = .ok (.astore 5, 2) := by decide +kernel
theorem d41 : decode yB 41 = .ok (.aload_n 0, 1) := by decide +kernel
theorem d42 : decode yB 42 = .ok (.aload 5, 2) := by decide +kernel
theorem d44 : decode yB 44 = .ok (.iload_n 3, 1) := by decide +kernel
theorem d45 : decode yB 45 = .ok (.invokestatic 47, 3) := by decide +kernel
theorem d48 : decode yB 48 = .ok (.putfield 15, 3) := by decide +kernel
theorem d51 : decode yB 51 = .ok (.aload_n 0, 1) := by decide +kernel
theorem d52 : decode yB 52 = .ok (.aload 5, 2) := by decide +kernel
theorem d54 : decode yB 54 = .ok (.putfield 9, 3) := by decide +kernel
theorem d57 : decode yB 57 = .ok (.return_, 1) := by decide +kernel
def site : List Cond := [.fieldLink "java/lang/String" 38 "java/lang/String" "COMPACT_STRINGS" "Z", Cmp3.tab, CodL.tab, .laysFinal "java/lang/String" "java/lang/String" "value" "[B", .fieldLink "java/lang/String" 9 "java/lang/String" "value" "[B", .laysFinal "java/lang/String" "java/lang/String" "coder" "B", .fieldLink "java/lang/String" 15 "java/lang/String" "coder" "B"] ++ objW "java/lang/String" 1 ++ staticW "java/lang/String" 177 Cmp3.yN ++ staticW "java/lang/String" 47 CodL.yN
def tab : Cond := tabOf yN yB 6 none site
def P (a : Addr) (D : Cell) (fV fC : Field) (b : Addr) (A : Cell) (z : Int32) (o len : Nat) (args : Array Value) (s : State) : Prop := args = #[.ref a, .ref b, .int (Int32.ofNat o), .int (Int32.ofNat len), .null] ∧ Blank "java/lang/String" a D s ∧ Found "java/lang/String" "value" "[B" fV s ∧ Found "java/lang/String" "coder" "B" fC s ∧ Ch b A s ∧ StaticIs s "java/lang/String" "COMPACT_STRINGS" "Z" (.int z) ∧ ¬ z = 0 ∧ 0 < len ∧ o + len ≤ A.slots.size ∧ len ≤ 536870912 ∧ ∀ i, i < len → ¬ 255 < cv A (o + i)
def E (a : Addr) (D : Cell) (fV fC : Field) (A : Cell) (o len : Nat) (r : Option Value) (s u : State) : Prop := Got a D fV fC A o len r s u
/-- len > 0, no char of the range above 255: a Latin-1 String of their low bytes -/
theorem law (l : Launch) (a : Addr) (D : Cell) (fV fC : Field) (b : Addr) (A : Cell) (z : Int32) (o len : Nat) : Law l yN 5 4 2 35 yB 6 none site (P a D fV fC b A z o len) (E a D fV fC A o len) [⟨a, fC.slot⟩, ⟨a, fV.slot⟩] 1 len := by
  refine Law.of_walk (plainFor_of_name (by decide +kernel)) (by decide +kernel) (by decide +kernel) (by decide) (fun _ _ h => by rw [h.1]; rfl) (fun _ U U' hal hh h => ⟨h.1, h.2.1.mv hal hh, h.2.2.1.al hal, h.2.2.2.1.al hal, h.2.2.2.2.1.mv hal hh, h.2.2.2.2.2.1.there hal hh, h.2.2.2.2.2.2⟩) (fun r U U' V V' h1 hal h2 h => Got.mv r U U' V V' h1 hal h2 h) ?_
  intro p e s m args below meth c s₁ X0 hexec hbytes hml hret hlk hnm hown hh0 W hP
  obtain ⟨rfl, hB, f1, f2, hA, s1, hz, l0, l1, l2, hp⟩ := hP
  have a31 := hA.1.2.2.2
  have c1 : Steps p.tables e below (s₁.setTop (entryFrame m #[.ref a, .ref b, .int (Int32.ofNat o), .int (Int32.ofNat len), .null] 6)) (s₁.setTop (mkF m 0 #[.val (.ref a), .val (.ref b), .val (.int (Int32.ofNat o)), .val (.int (Int32.ofNat len)), .val .null, .unset] [])) := entry rfl
  have c2 : Steps p.tables e below (s₁.setTop (entryFrame m #[.ref a, .ref b, .int (Int32.ofNat o), .int (Int32.ofNat len), .null] 6)) (s₁.setTop (mkF m 1 #[.val (.ref a), .val (.ref b), .val (.int (Int32.ofNat o)), .val (.int (Int32.ofNat len)), .val .null, .unset] [.ref a])) := c1.trans (by
    refine XS.aloadN X0.here hexec rfl (hb hbytes d0) rfl rfl ?_
    exact Steps.refl _)
  obtain ⟨T3, X3, q3, st3⟩ := X0.oinit hexec hown (wks W (objW "java/lang/String" 1)) (g := (mkF m 1 #[.val (.ref a), .val (.ref b), .val (.int (Int32.ofNat o)), .val (.int (Int32.ofNat len)), .val .null, .unset] [.ref a])) rfl (by rw [hml]; rfl) (rest := []) rfl (hb hbytes d1) (W := 0) (by show 2 * 0 + 0 ≤ _; decide) (Nat.le_of_ble_eq_true rfl) (Nat.le_of_ble_eq_true rfl)
  have hh3 := q3.trans hh0
  have c4 : Steps p.tables e below (s₁.setTop (entryFrame m #[.ref a, .ref b, .int (Int32.ofNat o), .int (Int32.ofNat len), .null] 6)) (T3.setTop (mkF m 27 #[.val (.ref a), .val (.ref b), .val (.int (Int32.ofNat o)), .val (.int (Int32.ofNat len)), .val .null, .unset] [])) := (c2.trans (st3 _ (Steps.refl _))).trans (by
    refine XS.iloadN X3.here hexec rfl (hb hbytes d4) rfl ?_
    refine XS.ifYes X3.here hexec rfl (pc0 := 5) rfl (hb hbytes d5) rfl (i0_ne_t (nz32 (by omega) l0)) (by decide) rfl ?_
    exact Steps.refl _)
  obtain ⟨T5, X5, q5, st5⟩ := X3.sget hexec hown (wk W (.fieldLink "java/lang/String" 38 "java/lang/String" "COMPACT_STRINGS" "Z")) s1 (fun _ _ h => by rw [hh3]; exact h) (g := (mkF m 27 #[.val (.ref a), .val (.ref b), .val (.int (Int32.ofNat o)), .val (.int (Int32.ofNat len)), .val .null, .unset] [])) rfl (hb hbytes d27)
  have hh5 := q5.trans hh3
  have c6 : Steps p.tables e below (s₁.setTop (entryFrame m #[.ref a, .ref b, .int (Int32.ofNat o), .int (Int32.ofNat len), .null] 6)) (T5.setTop (mkF m 30 #[.val (.ref a), .val (.ref b), .val (.int (Int32.ofNat o)), .val (.int (Int32.ofNat len)), .val .null, .unset] [.int z])) := c4.trans (st5 _ (Steps.refl _))
  have c7 : Steps p.tables e below (s₁.setTop (entryFrame m #[.ref a, .ref b, .int (Int32.ofNat o), .int (Int32.ofNat len), .null] 6)) (T5.setTop (mkF m 36 #[.val (.ref a), .val (.ref b), .val (.int (Int32.ofNat o)), .val (.int (Int32.ofNat len)), .val .null, .unset] [.int (Int32.ofNat len), .int (Int32.ofNat o), .ref b])) := c6.trans (by
    refine XS.ifNo X5.here hexec rfl (hb hbytes d30) rfl (i0_eq_f hz) ?_
    refine XS.aloadN X5.here hexec rfl (hb hbytes d33) rfl rfl ?_
    refine XS.iloadN X5.here hexec rfl (hb hbytes d34) rfl ?_
    refine XS.iloadN X5.here hexec rfl (hb hbytes d35) rfl ?_
    exact Steps.refl _)
  obtain ⟨v8, T8, X8, E8, g8⟩ := X5.callS hexec (Cmp3.law l b A o len) hown (wks W (staticW "java/lang/String" 177 Cmp3.yN)) (wk W Cmp3.tab) (W := 0) (Nat.le_of_ble_eq_true rfl) (Nat.le_of_ble_eq_true rfl) (Nat.le_refl _) (by show 0 + len ≤ len; omega) (g := (mkF m 36 #[.val (.ref a), .val (.ref b), .val (.int (Int32.ofNat o)), .val (.int (Int32.ofNat len)), .val .null, .unset] [.int (Int32.ofNat len), .int (Int32.ofNat o), .ref b])) rfl (by rw [hml]; rfl) c7 (argsL := [.ref b, .int (Int32.ofNat o), .int (Int32.ofNat len)]) (rest := []) rfl rfl (by show 2 * 0 + 0 ≤ _; decide) (hb hbytes d36) (⟨rfl, hA.mv X5.warmed.alike hh5, l1, l2, hp⟩)
  obtain ⟨e8, z8⟩ := E8
  obtain ⟨rfl, N, n1, n2, n3, n4, n5, n6⟩ := NewArr.mv _ T5 s _ _ hh5.symm (Vm.Alike.refl _) rfl e8
  rw [hh5] at z8
  have hB1 := hB.keep X8.warmed.alike (n6 _ _ hB.1)
  have hne : s.heap.size ≠ a := (Nat.ne_of_lt (Array.getElem?_eq_some_iff.mp hB.1).1).symm
  have c9 : Steps p.tables e below (s₁.setTop (entryFrame m #[.ref a, .ref b, .int (Int32.ofNat o), .int (Int32.ofNat len), .null] 6)) (T8.setTop (mkF m 39 #[.val (.ref a), .val (.ref b), .val (.int (Int32.ofNat o)), .val (.int (Int32.ofNat len)), .val .null, .unset] [.ref s.heap.size])) := g8
  have c10 : Steps p.tables e below (s₁.setTop (entryFrame m #[.ref a, .ref b, .int (Int32.ofNat o), .int (Int32.ofNat len), .null] 6)) (T8.setTop (mkF m 45 #[.val (.ref a), .val (.ref b), .val (.int (Int32.ofNat o)), .val (.int (Int32.ofNat len)), .val .null, .val (.ref s.heap.size)] [.int (Int32.ofNat N.slots.size), .ref s.heap.size, .ref a])) := by
    have hc : Steps p.tables e below (s₁.setTop (entryFrame m #[.ref a, .ref b, .int (Int32.ofNat o), .int (Int32.ofNat len), .null] 6)) (T8.setTop (mkF m 45 #[.val (.ref a), .val (.ref b), .val (.int (Int32.ofNat o)), .val (.int (Int32.ofNat len)), .val .null, .val (.ref s.heap.size)] [.int (Int32.ofNat len), .ref s.heap.size, .ref a])) := c9.trans (by
      refine XS.astore X8.here hexec rfl (hb hbytes d39) rfl rfl rfl ?_
      refine XS.aloadN X8.here hexec rfl (hb hbytes d41) rfl rfl ?_
      refine XS.aload X8.here hexec rfl (hb hbytes d42) rfl rfl ?_
      refine XS.iloadN X8.here hexec rfl (hb hbytes d44) rfl ?_
      exact Steps.refl _)
    rw [n4]; exact hc
  obtain ⟨v11, T11, X11, E11, g11⟩ := X8.callS hexec (CodL.law l s.heap.size N) hown (wks W (staticW "java/lang/String" 47 CodL.yN)) (wk W CodL.tab) (W := 1) (Nat.le_of_ble_eq_true rfl) (Nat.le_of_ble_eq_true rfl) (Nat.le_refl _) (by show 0 + len + 0 ≤ len; omega) (g := (mkF m 45 #[.val (.ref a), .val (.ref b), .val (.int (Int32.ofNat o)), .val (.int (Int32.ofNat len)), .val .null, .val (.ref s.heap.size)] [.int (Int32.ofNat N.slots.size), .ref s.heap.size, .ref a])) rfl (by rw [hml]; rfl) c10 (argsL := [.ref s.heap.size, .int (Int32.ofNat N.slots.size)]) (rest := [.ref a]) rfl rfl (by show 2 * 0 + (1 + 0) ≤ _; decide) (hb hbytes d45) (⟨rfl, n1⟩)
  obtain ⟨rfl, q11⟩ := E11
  have hB11 := hB1.mv (X8.warmed.alike.symm.trans X11.warmed.alike) q11
  have c12 : Steps p.tables e below (s₁.setTop (entryFrame m #[.ref a, .ref b, .int (Int32.ofNat o), .int (Int32.ofNat len), .null] 6)) (T11.setTop (mkF m 48 #[.val (.ref a), .val (.ref b), .val (.int (Int32.ofNat o)), .val (.int (Int32.ofNat len)), .val .null, .val (.ref s.heap.size)] [.int 0, .ref a])) := g11
  obtain ⟨T13, X13, p13, bl13, sl13, st13⟩ := X11.finit hexec hown (wk W (.fieldLink "java/lang/String" 15 "java/lang/String" "coder" "B")) (Or.inr ⟨_, (wk W (.laysFinal "java/lang/String" "java/lang/String" "coder" "B"))⟩) (Or.inl ⟨rfl, hnm⟩) f2 (Or.inl rfl) hB11 (t := .byte) (by decide +kernel) rfl (g := (mkF m 48 #[.val (.ref a), .val (.ref b), .val (.int (Int32.ofNat o)), .val (.int (Int32.ofNat len)), .val .null, .val (.ref s.heap.size)] [.int 0, .ref a])) rfl (rest := []) rfl (hb hbytes d48)
  have c14 : Steps p.tables e below (s₁.setTop (entryFrame m #[.ref a, .ref b, .int (Int32.ofNat o), .int (Int32.ofNat len), .null] 6)) (T13.setTop (mkF m 54 #[.val (.ref a), .val (.ref b), .val (.int (Int32.ofNat o)), .val (.int (Int32.ofNat len)), .val .null, .val (.ref s.heap.size)] [.ref s.heap.size, .ref a])) := (c12.trans (st13 _ (Steps.refl _))).trans (by
    refine XS.aloadN X13.here hexec rfl (hb hbytes d51) rfl rfl ?_
    refine XS.aload X13.here hexec rfl (hb hbytes d52) rfl rfl ?_
    exact Steps.refl _)
  obtain ⟨T15, X15, p15, bl15, sl15, st15⟩ := X13.finit hexec hown (wk W (.fieldLink "java/lang/String" 9 "java/lang/String" "value" "[B")) (Or.inr ⟨_, (wk W (.laysFinal "java/lang/String" "java/lang/String" "value" "[B"))⟩) (Or.inl ⟨rfl, hnm⟩) f1 (Or.inl rfl) bl13 (t := (.array .byte)) (by decide +kernel) rfl (g := (mkF m 54 #[.val (.ref a), .val (.ref b), .val (.int (Int32.ofNat o)), .val (.int (Int32.ofNat len)), .val .null, .val (.ref s.heap.size)] [.ref s.heap.size, .ref a])) rfl (rest := []) rfl (hb hbytes d54)
  have c16 : Steps p.tables e below (s₁.setTop (entryFrame m #[.ref a, .ref b, .int (Int32.ofNat o), .int (Int32.ofNat len), .null] 6)) (T15.setTop (mkF m 57 #[.val (.ref a), .val (.ref b), .val (.int (Int32.ofNat o)), .val (.int (Int32.ofNat len)), .val .null, .val (.ref s.heap.size)] [])) := c14.trans (st15 _ (Steps.refl _))
  have ap := apart (Or.inr ⟨_, (wk W (.laysFinal "java/lang/String" "java/lang/String" "value" "[B"))⟩) (Or.inr ⟨_, (wk W (.laysFinal "java/lang/String" "java/lang/String" "coder" "B"))⟩) f1 f2 (t₁ := .array .byte) (t₂ := .byte) (by decide +kernel) (by decide +kernel) (by decide)
  have al := X8.warmed.alike.symm.trans X15.warmed.alike
  have n7 : T11.heap[s.heap.size]? = some N := by rw [q11]; exact n1.1
  exact ⟨T15, none, _, _, _, X15, by simp, rfl, by omega, (fun _ => rfl), ⟨rfl, _, N, bl15, ((Same.refl D _).set _ (by simp)).set _ (by simp), sl15, (Cell.slots_setSlot_ne _ ap).trans sl13, n1.keep al (p15.other hne (p13.other hne n7)), n2, by rw [al.findClass]; exact n3, n4, n5, fun y c h1 h2 => p15.other h1 (p13.other h1 (by rw [q11]; exact n6 y c h2)), by rw [p15.2.2, p13.2.2, q11]; exact z8⟩, fun fs hl => c16.trans (X15.returnOut hexec hret (hb hbytes d57) hl)⟩
end New4
namespace New1
def yN : MethodName := ⟨"java/lang/String", "<init>", "([C)V"⟩
abbrev yB : ByteArray := jdk_42_method_3_code
theorem d0 : decode yB 0 = .ok (.aload_n 0, 1) := by decide +kernel
theorem d1 : decode yB 1 = .ok (.aload_n 1, 1) := by decide +kernel
theorem d2 : decode yB 2 = .ok (.iconst 0, 1) := by decide +kernel
theorem d3 : decode yB 3 = .ok (.aload_n 1, 1) := by decide +kernel
theorem d4 : decode yB 4 = .ok (.arraylength, 1) := by decide +kernel
theorem d5 : decode yB 5 = .ok (.aconst_null, 1) := by decide +kernel
theorem d6 : decode yB 6 = .ok (.invokespecial 27, 3) := by decide +kernel
theorem d9 : decode yB 9 = .ok (.return_, 1) := by decide +kernel
def site : List Cond := [New4.tab] ++ initW "java/lang/String" 27 New4.yN
def tab : Cond := tabOf yN yB 2 none site
def P (a : Addr) (D : Cell) (fV fC : Field) (b : Addr) (A : Cell) (z : Int32) (args : Array Value) (s : State) : Prop := args = #[.ref a, .ref b] ∧ Blank "java/lang/String" a D s ∧ Found "java/lang/String" "value" "[B" fV s ∧ Found "java/lang/String" "coder" "B" fC s ∧ Ch b A s ∧ StaticIs s "java/lang/String" "COMPACT_STRINGS" "Z" (.int z) ∧ ¬ z = 0 ∧ 0 < A.slots.size ∧ A.slots.size ≤ 536870912 ∧ ∀ i, i < A.slots.size → ¬ 255 < cv A i
def E (a : Addr) (D : Cell) (fV fC : Field) (A : Cell) (r : Option Value) (s u : State) : Prop := Got a D fV fC A 0 A.slots.size r s u
/-- new String(chars), not empty, no char above 255: a Latin-1 String of their low bytes -/
theorem law (l : Launch) (a : Addr) (D : Cell) (fV fC : Field) (b : Addr) (A : Cell) (z : Int32) : Law l yN 2 1 3 52 yB 2 none site (P a D fV fC b A z) (E a D fV fC A) [⟨a, fC.slot⟩, ⟨a, fV.slot⟩] 1 A.slots.size := by
  refine Law.of_walk (plainFor_of_name (by decide +kernel)) (by decide +kernel) (by decide +kernel) (by decide) (fun _ _ h => by rw [h.1]; rfl) (fun _ U U' hal hh h => ⟨h.1, h.2.1.mv hal hh, h.2.2.1.al hal, h.2.2.2.1.al hal, h.2.2.2.2.1.mv hal hh, h.2.2.2.2.2.1.there hal hh, h.2.2.2.2.2.2⟩) (fun r U U' V V' h1 hal h2 h => Got.mv r U U' V V' h1 hal h2 h) ?_
  intro p e s m args below meth c s₁ X0 hexec hbytes hml hret hlk hnm hown hh0 W hP
  obtain ⟨rfl, hB, f1, f2, hA, s1, hz, l0, l2, hp⟩ := hP
  have c1 : Steps p.tables e below (s₁.setTop (entryFrame m #[.ref a, .ref b] 2)) (s₁.setTop (mkF m 0 #[.val (.ref a), .val (.ref b)] [])) := entry rfl
  have c2 : Steps p.tables e below (s₁.setTop (entryFrame m #[.ref a, .ref b] 2)) (s₁.setTop (mkF m 6 #[.val (.ref a), .val (.ref b)] [.null, .int (Int32.ofNat A.slots.size), .int 0, .ref b, .ref a])) := c1.trans (by
    refine XS.aloadN X0.here hexec rfl (hb hbytes d0) rfl rfl ?_
    refine XS.aloadN X0.here hexec rfl (hb hbytes d1) rfl rfl ?_
    refine iconstV X0.here hexec rfl 0 (hb hbytes d2) (by decide) ?_
    refine XS.aloadN X0.here hexec rfl (hb hbytes d3) rfl rfl ?_
    refine X0.alen hexec (hA.1.mv X0.warmed.alike hh0) rfl rfl (hb hbytes d4) ?_
    refine XS.aconstNull X0.here hexec rfl (hb hbytes d5) ?_
    exact Steps.refl _)
  obtain ⟨v3, T3, X3, E3, g3⟩ := X0.callN hexec (New4.law l a D fV fC b A z 0 A.slots.size) rfl hown (wks W (initW "java/lang/String" 27 New4.yN)) (W New4.tab (by simp only [site, List.mem_cons, List.mem_append, true_or, or_true])) (W := 0) (Nat.le_of_ble_eq_true rfl) (Nat.le_of_ble_eq_true rfl) (Nat.le_refl _) (by show 0 + A.slots.size ≤ A.slots.size; omega) (g := (mkF m 6 #[.val (.ref a), .val (.ref b)] [.null, .int (Int32.ofNat A.slots.size), .int (Int32.ofNat 0), .ref b, .ref a])) rfl (by rw [hml]; rfl) c2 (argsL := [.ref b, .int (Int32.ofNat 0), .int (Int32.ofNat A.slots.size), .null]) (rest := []) rfl rfl (by show 2 * 0 + 0 ≤ _; decide) (hb hbytes d6) (⟨rfl, hB.mv X0.warmed.alike hh0, f1.al X0.warmed.alike, f2.al X0.warmed.alike, hA.mv X0.warmed.alike hh0, s1.there X0.warmed.alike hh0, hz, l0, by omega, l2, fun i hi => by rw [Nat.zero_add]; exact hp i hi⟩)
  have e0 := Got.mv _ s₁ s _ _ hh0.symm (Vm.Alike.refl _) rfl E3
  obtain rfl := e0.1
  have c4 : Steps p.tables e below (s₁.setTop (entryFrame m #[.ref a, .ref b] 2)) (T3.setTop (mkF m 9 #[.val (.ref a), .val (.ref b)] [])) := g3
  exact ⟨T3, none, _, _, _, X3, by simp, rfl, by omega, (fun _ => rfl), e0, fun fs hl => c4.trans (X3.returnOut hexec hret (hb hbytes d9) hl)⟩
theorem pays {l : Launch} {R : Room} {p : Program} {e : Env} {below : List Frame} {s : State} {sargs : Array Value} {len W : Nat} (a : Addr) (D : Cell) (fV fC : Field) (b : Addr) (A : Cell) (z : Int32) (htab : tab.before sargs s = true) (hfr : 4 ≤ R.frames) (hlo : W + 65 ≤ R.locals) :
    Back l R p e below s sargs yN len W (fun A₁ a₁ => A₁.cells + 1 ≤ R.cells ∧ A₁.slots + A.slots.size ≤ R.slots ∧ P a D fV fC b A z a₁ A₁.U) (fun A₁ _ v₁ B₁ => E a D fV fC A v₁ A₁.U B₁.U ∧ B₁.locs = A₁.locs ++ [⟨a, fC.slot⟩, ⟨a, fV.slot⟩] ∧ B₁.cells = A₁.cells + 1 ∧ B₁.slots = A₁.slots + A.slots.size) :=
  (law l a D fV fC b A z).pays htab hfr (by omega)
end New1
/-- the byte, read back as charAt reads it, is the char -/
theorem lo8_mask {x : Int32} (h0 : ¬ x < 0) (h1 : ¬ 255 < x) : lo8 x &&& 255 = x := by
  have t : ∀ k : Fin 256, lo8 (Int32.ofNat k.val) &&& 255 = Int32.ofNat k.val := by decide +kernel
  rw [Int32.lt_iff_toInt_lt] at h0 h1
  have e0 : (0 : Int32).toInt = 0 := rfl
  have e1 : (255 : Int32).toInt = 255 := rfl
  obtain ⟨k, hk⟩ : ∃ k : Nat, x.toInt = k := ⟨x.toInt.toNat, by omega⟩
  have hx : x = Int32.ofNat k := Int32.toInt_inj.mp (by rw [hk, Int32.toInt_ofNat_small (by omega)])
  rw [hx]
  exact t ⟨k, by omega⟩
end StrChars
namespace StrChars.Road
open Jvm Sem ClassFile Op Lib Jvm.Stand Jvm.Free Jvm.Free.XT
open Jvm.Lib.Cold (StaticIs)
abbrev ST : String := "java/lang/String"
/-- every table word that New1's law asks, flat -/
abbrev words : List Jvm.Cond := [.code New1.yN New1.yB 2 none, .initialized ST, .methodLink ST 27 New4.yN, .instanceMethod New4.yN,
  .code New4.yN New4.yB 6 none, .fieldLink ST 38 ST "COMPACT_STRINGS" "Z", .laysFinal ST ST "value" "[B", .fieldLink ST 9 ST "value" "[B", .laysFinal ST ST "coder" "B", .fieldLink ST 15 ST "coder" "B",
  .methodLink ST 1 Lib.objectInit, .instanceMethod Lib.objectInit, .code Lib.objectInit ⟨#[0xb1]⟩ 1 none, .methodLink ST 177 Cmp3.yN, .static Cmp3.yN, .methodLink ST 47 CodL.yN, .static CodL.yN,
  .code Cmp3.yN Cmp3.yB 6 (some (.array .byte)), .initialized U16, .arrayClass .byte, .methodLink U16 115 Cmp5.yN, .static Cmp5.yN, .code Cmp5.yN Cmp5.yB 7 (some .int), .code CodL.yN CodL.yB 2 (some .byte)]
theorem tab_of {a : Array Value} {s : State} (h : ∀ w ∈ words, w.before a s = true) : New1.tab.before a s = true := by
  have h5 : Cmp5.tab.before a s = true := unparts (wk h (.code Cmp5.yN Cmp5.yB 7 (some .int))) (wks h (.initialized Cmp5.yN.cls :: Cmp5.site))
  have hc : CodL.tab.before a s = true := unparts (wk h (.code CodL.yN CodL.yB 2 (some .byte))) (wks h (.initialized CodL.yN.cls :: CodL.site))
  have q5 : ∀ w ∈ Cmp5.tab :: words, w.before a s = true := fun w hw => (List.mem_cons.mp hw).elim (fun e => e ▸ h5) (h w)
  have h3 : Cmp3.tab.before a s = true := unparts (wk q5 (.code Cmp3.yN Cmp3.yB 6 (some (.array .byte)))) (wks q5 (.initialized Cmp3.yN.cls :: Cmp3.site))
  have q3 : ∀ w ∈ Cmp3.tab :: CodL.tab :: words, w.before a s = true := fun w hw => (List.mem_cons.mp hw).elim (fun e => e ▸ h3) fun hw => (List.mem_cons.mp hw).elim (fun e => e ▸ hc) (h w)
  have h4 : New4.tab.before a s = true := unparts (wk q3 (.code New4.yN New4.yB 6 none)) (wks q3 (.initialized New4.yN.cls :: New4.site))
  have q4 : ∀ w ∈ New4.tab :: words, w.before a s = true := fun w hw => (List.mem_cons.mp hw).elim (fun e => e ▸ h4) (h w)
  exact unparts (wk q4 (.code New1.yN New1.yB 2 none)) (wks q4 (.initialized New1.yN.cls :: New1.site))
/-- the words ride from the start Z to the walk's own state -/
theorem moved {Z s : State} {a0 args : Array Value} (hZ : Z.Warmed39 s.vm) (hw : ∀ d ∈ words, d.before a0 Z = true) : ∀ d ∈ words, d.before args s = true := fun d hd => by
  have q := hw d hd
  have t : ∀ d ∈ words, d = .arrayClass .byte ∨ (d.onTables && d.keepsFace) = true := by decide +kernel
  rcases t d hd with rfl | t
  · exact RoadKit.mvA hZ q
  · exact RoadKit.mv hZ q t
/-- WHAT COMES BACK, over the tables of the start Z: h the heap at the call, h' behind it -/
def Q (Z : State) (x : Addr) (A : Cell) (h : Heap) (v : Option Value) (h' : Heap) (L : List Loc) : Prop := v = none ∧ (∀ y ∈ L, y.base = x) ∧ RoadKit.Keep h h' [x] ∧ h'.size = h.size + 1 ∧ RoadKit.Exa Z h' x ST ∧ RoadKit.Fld Z h' x ST "value" "[B" (.ref h.size) ∧ RoadKit.Fld Z h' x ST "coder" "B" (.int 0) ∧
  (∃ V : Cell, RoadKit.Arr Z h' h.size V .byte ∧ V.vm = .none ∧ Z.vm.findClass "[B" = some V.cls ∧ V.slots.size = A.slots.size ∧ ∀ j, j < A.slots.size → V.slots[j]? = some (.int (lo8 (cv A j)))) ∧
  ∀ (O n d : String) (w : Value), RoadKit.Fld Z h x O n d w → RoadKit.slotOf Z O n d ≠ RoadKit.slotOf Z ST "value" "[B" → RoadKit.slotOf Z O n d ≠ RoadKit.slotOf Z ST "coder" "B" → RoadKit.Fld Z h' x O n d w
/-- **new String(chars) AT A CALL, IN THE ROAD'S FORM**: for specialBack behind newO: x the fresh String, b the char[] with the cell A -/
theorem back {p : Program} {l : Launch} {e : Env} {R : Room} {s : State} {args : Array Value} {below : List Frame} {len W : Nat} {Z : State} {a0 : Array Value} {h : Heap} (hZ : Z.Warmed39 s.vm) (hw : ∀ d ∈ words, d.before a0 Z = true) {kI : Nat} (wi : (Jvm.Cond.instantiable ST kI).before a0 Z = true)
    {x b : Addr} {A : Cell} {z : Int32} {v0 c0 : Value} (E : RoadKit.Exa Z h x ST) (V : RoadKit.Fld Z h x ST "value" "[B" v0) (C : RoadKit.Fld Z h x ST "coder" "B" c0) (K : RoadKit.Arr Z h b A .char) (hty : Typed .char A) (S : RoadKit.Sta Z h ST "COMPACT_STRINGS" "Z" (.int z)) (hz : ¬ z = 0)
    (l0 : 0 < A.slots.size) (l2 : A.slots.size ≤ 536870912) (hp : ∀ i, i < A.slots.size → ¬ 255 < cv A i) (hfr : 4 ≤ R.frames) (hlo : W + 65 ≤ R.locals) :
    Back l R p e below s args New1.yN len W (fun P a => a = #[.ref x, .ref b] ∧ P.U.heap = h ∧ P.cells + 1 ≤ R.cells ∧ P.slots + A.slots.size ≤ R.slots)
      (fun P _ v B => ∃ L, Q Z x A h v B.U.heap L ∧ B.locs = P.locs ++ L ∧ B.cells = P.cells + 1 ∧ B.slots = P.slots + A.slots.size) := by
  intro m meth c P g ig mk a X hg hsize hdg hW hn hp'
  obtain ⟨rfl, rfl, r1, r2⟩ := hp'
  have al : Z.vm.Alike P.U.vm := hZ.alike.trans X.warmed.alike
  obtain ⟨D, cfV, kV, iV, fV, hD, gV, stV, knV, obV, asV, slV⟩ := id V
  obtain ⟨D', cfC, kC, iC, fC, hD', gC, stC, -, -, asC, slC⟩ := id C
  cases hD.symm.trans hD'
  obtain ⟨D2, kD, e1, e2, e3, e4, e5⟩ := id E
  cases hD.symm.trans e1
  obtain ⟨c2, k2, i1, i2, i3, -⟩ := Cond.instantiable_spec wi
  cases e2.symm.trans i1
  cases e3.symm.trans i2
  obtain ⟨kU, u1, u2⟩ := al.2.2 _ _ e3
  have hB : Blank ST x D P.U := ⟨hD, ⟨knV, fun q hq => by rw [hq] at obV; cases obV⟩, by rw [al.findClass]; exact e2, kU, u1, by rw [u2]; exact i3, by rw [u2]; exact e5 i3⟩
  have F1 : Found ST "value" "[B" fV P.U := ⟨SBG.found_only al ⟨cfV, kV, iV, gV⟩, stV⟩
  have F2 : Found ST "coder" "B" fC P.U := ⟨SBG.found_only al ⟨cfC, kC, iC, gC⟩, stC⟩
  have hA : Ch b A P.U := ⟨⟨K.1, State.isArrayOf_alike al K.2.1, K.2.2, by omega⟩, hty⟩
  have hS : StaticIs P.U ST "COMPACT_STRINGS" "Z" (.int z) := by
    obtain ⟨cfS, iS, kS, fS, st, cS, t1, t2, t3, t4, t5, t6, t7⟩ := S
    exact StaticIs.there (s := { Z with heap := P.U.heap }) ⟨cfS, iS, kS, fS, st, cS, t1, t2, t3, t4, t5, (fun q => by rw [q] at t6; cases t6), t7⟩ al rfl
  obtain ⟨v, B, X', ⟨⟨hv, E', V', q1, q2, q3, q4, q5, q6, q7, q8, q9, q10, q11⟩, hl, hc, hs⟩, st⟩ := New1.pays x D fV fC b A z (tab_of (moved hZ hw)) hfr hlo m meth c P g ig mk _ X hg hsize hdg hW hn ⟨r1, r2, rfl, hB, F1, F2, hA, hS, hz, l0, l2, hp⟩
  have al' : Z.vm.Alike B.U.vm := hZ.alike.trans X'.warmed.alike
  have hsz : E'.slots.size = D.slots.size := by
    obtain ⟨-, -, -, kB, w1, w2, w3⟩ := q1
    obtain ⟨kB', y1, y2⟩ := al'.2.2 _ _ e3
    rw [q2.2.1] at w1
    cases w1.symm.trans y1
    rw [w3, e5 i3, y2]
  refine ⟨v, B, X', ⟨_, ⟨hv, ?_, ⟨by omega, fun y cy hy hn' => q10 y cy (by simpa using hn') hy, fun y cy hy => ?_⟩, q11, ⟨E', _, q1.1, by rw [q2.2.1]; exact e2, by rw [q2.2.1]; exact e3, by rw [q2.1]; exact obV, fun _ => by rw [hsz]; exact e5 i3⟩,
    ⟨E', cfV, kV, iV, fV, q1.1, gV, stV, by rw [q2.1]; exact knV, by rw [q2.1]; exact obV, by rw [q2.2.1]; exact asV, q3⟩, ⟨E', cfC, kC, iC, fC, q1.1, gC, stC, by rw [q2.1]; exact knV, by rw [q2.1]; exact obV, by rw [q2.2.1]; exact asC, q4⟩,
    ⟨V', ⟨q5.1, State.isArrayOf_alike al'.symm q5.2.1, q5.2.2.1⟩, q6, by rw [← al'.findClass]; exact q7, q8, fun j hj => by have := q9 j hj; rwa [Nat.zero_add] at this⟩, fun O n d w F n1 n2 => ?_⟩, hl, hc, hs⟩, st⟩
  · intro y hy
    simp only [List.mem_cons, List.not_mem_nil, or_false] at hy
    rcases hy with rfl | rfl <;> rfl
  · by_cases q : y = x
    · subst q
      cases hD.symm.trans hy
      exact ⟨E', q1.1, q2.2.1, q2.1, hsz⟩
    · exact ⟨cy, q10 y cy q hy, rfl, rfl, rfl⟩
  · obtain ⟨D3, cf, k, i, f, g1, g2, g3, g4, g5, g6, g7⟩ := F
    cases hD.symm.trans g1
    simp only [RoadKit.slotOf, g2, gV, gC, Option.map_some, Option.getD_some] at n1 n2
    exact ⟨E', cf, k, i, f, q1.1, g2, g3, by rw [q2.1]; exact g4, by rw [q2.1]; exact g5, by rw [q2.2.1]; exact g6, by rw [q2.2.2 f.slot (by simp [n1, n2])]; exact g7⟩
end StrChars.Road
namespace StrChars.Road
open Jvm Sem ClassFile Op Lib Jvm.Stand Jvm.Free Jvm.Free.XT
/-- WHAT COMES BACK, the byte[] as a list of values -/
def QA (Z : State) (x : Addr) (zn : Int32) (cs : List Int32) (h : Heap) (v : Option Value) (h' : Heap) (L : List Loc) : Prop := v = none ∧ (∀ y ∈ L, y.base = x) ∧ RoadKit.Keep h h' [x] ∧ h'.size = h.size + 1 ∧ RoadKit.Exa Z h' x ST ∧ RoadKit.Fld Z h' x ST "value" "[B" (.ref h.size) ∧ RoadKit.Fld Z h' x ST "coder" "B" (.int 0) ∧
  (∃ kb, Z.vm.findClass "[B" = some kb ∧ RoadKit.Arv Z h' h.size kb .byte zn (cs.map fun c => .int (lo8 c)) (.int 0)) ∧
  ∀ (O n d : String) (w : Value), RoadKit.Fld Z h x O n d w → RoadKit.slotOf Z O n d ≠ RoadKit.slotOf Z ST "value" "[B" → RoadKit.slotOf Z O n d ≠ RoadKit.slotOf Z ST "coder" "B" → RoadKit.Fld Z h' x O n d w
/-- **new String(chars) AT A CALL, THE ARRAYS AS LISTS**: the char[] at b holds cs, not empty, no char above 255 -/
theorem backArv {p : Program} {l : Launch} {e : Env} {R : Room} {s : State} {args : Array Value} {below : List Frame} {len W : Nat} {Z : State} {a0 : Array Value} {h : Heap} (hZ : Z.Warmed39 s.vm) (hw : ∀ d ∈ words, d.before a0 Z = true) {kI : Nat} (wi : (Jvm.Cond.instantiable ST kI).before a0 Z = true)
    {x b : Addr} {k : ClassId} {zn z : Int32} {cs : List Int32} {dv v0 c0 : Value} (E : RoadKit.Exa Z h x ST) (V : RoadKit.Fld Z h x ST "value" "[B" v0) (C : RoadKit.Fld Z h x ST "coder" "B" c0) (K : RoadKit.Arv Z h b k .char zn (cs.map Value.int) dv) (S : RoadKit.Sta Z h ST "COMPACT_STRINGS" "Z" (.int z)) (hz : ¬ z = 0)
    (hlen : zn.toNatClampNeg = cs.length) (h0 : 0 < cs.length) (hbig : cs.length ≤ 536870912) (hall : ∀ c ∈ cs, ¬ 255 < c) (hfr : 4 ≤ R.frames) (hlo : W + 65 ≤ R.locals) :
    Back l R p e below s args New1.yN len W (fun P a => a = #[.ref x, .ref b] ∧ P.U.heap = h ∧ P.cells + 1 ≤ R.cells ∧ P.slots + cs.length ≤ R.slots)
      (fun P _ v B => ∃ L, QA Z x zn cs h v B.U.heap L ∧ B.locs = P.locs ++ L ∧ B.cells = P.cells + 1 ∧ B.slots = P.slots + cs.length) := by
  obtain ⟨A, K1, K2, K3, K4, K5, K6⟩ := K
  have e : A.slots.size = cs.length := K3.trans hlen
  have hat : ∀ (i : Nat) (hi : i < cs.length), A.slots[i]? = some (.int cs[i]) := fun i hi => by rw [K5 i (by omega)]; simp [List.getD_eq_getElem?_getD, hi]
  have hcv : ∀ (i : Nat) (hi : i < cs.length), cv A i = cs[i] := fun i hi => by unfold cv; rw [hat i hi]
  have hty : Typed .char A := fun i v hv => by
    have hi : i < A.slots.size := (Array.getElem?_eq_some_iff.mp hv).1
    have q := K5 i hi
    rw [hv] at q
    rw [Option.some.inj q]
    exact K6 i hi
  refine Back.mono (back hZ hw wi E V C K1 hty S hz (by omega) (by omega) (fun i hi => by rw [hcv i (by omega)]; exact hall _ (List.getElem_mem _)) hfr hlo) (fun P a hp => ⟨hp.1, hp.2.1, hp.2.2.1, by rw [e]; exact hp.2.2.2⟩) (fun P a v B hp hq => ?_)
  obtain ⟨L, ⟨q1, q2, q3, q4, q5, q6, q7, ⟨V', v1, v2, v3, v4, v5⟩, q9⟩, hl, hc, hs⟩ := hq
  refine ⟨L, ⟨q1, q2, q3, q4, q5, q6, q7, ⟨V'.cls, v3, V', v1, rfl, by rw [v4, e, hlen], K4, fun i hi => ?_, fun i hi => ?_⟩, q9⟩, hl, hc, by rw [hs, e]⟩
  · have hi' : i < cs.length := by omega
    rw [v5 i (by omega), hcv i hi']; simp [List.getD_eq_getElem?_getD, hi']
  · have hi' : i < cs.length := by omega
    simp only [List.getD_eq_getElem?_getD, List.getElem?_map, List.getElem?_eq_getElem hi', Option.map_some, Option.getD_some]
    exact fits_lo8 _
end StrChars.Road
namespace StrChars.Road
open Jvm Sem ClassFile Op Lib Jvm.Stand Jvm.Free Jvm.Free.XT
/-- WHAT COMES BACK, in the writer's own shape -/
def QV (Z : State) (x : Addr) (N : Int32) (bs : List Int32) (h : Heap) (n0 : Nat) (v : Option Value) (h' : Heap) (L : List Loc) : Prop := v = none ∧ RoadKit.Fr n0 L ∧ RoadKit.Keep h h' [x] ∧ RoadKit.Exa Z h' x ST ∧ RoadKit.Fld Z h' x ST "coder" "B" (.int 0) ∧
  ∃ (t : Addr) (kb : ClassId), n0 ≤ t ∧ h.size ≤ t ∧ ¬ t = x ∧ RoadKit.Fld Z h' x ST "value" "[B" (.ref t) ∧ RoadKit.Arv Z h' t kb .byte N (bs.map Value.int) (.int 0)
/-- **new String(chars) AT A CALL, FOR THE WRITER**: a char[] of n known ints, each 0 to 255 -/
theorem backV {p : Program} {l : Launch} {e : Env} {R : Room} {s : State} {args : Array Value} {below : List Frame} {len W : Nat} {Z : State} {a0 : Array Value} {h : Heap} (hZ : Z.Warmed39 s.vm) (hw : ∀ d ∈ words, d.before a0 Z = true) {kI : Nat} (wi : (Jvm.Cond.instantiable ST kI).before a0 Z = true)
    {x b : Addr} {kC : ClassId} {cs bs : List Int32} {d v0 c0 : Value} {z N : Int32} {n n0 : Nat} (hx0 : n0 ≤ x) (hh0 : n0 ≤ h.size) (E : RoadKit.Exa Z h x ST) (V : RoadKit.Fld Z h x ST "value" "[B" v0) (C : RoadKit.Fld Z h x ST "coder" "B" c0) (K : RoadKit.Arv Z h b kC .char N (cs.map Value.int) d) (S : RoadKit.Sta Z h ST "COMPACT_STRINGS" "Z" (.int z)) (hz : ¬ z = 0)
    (hn : cs.length = n) (hN : N = Int32.ofNat n) (l0 : 0 < n) (l2 : n ≤ 4000) (hp : ∀ c ∈ cs, ¬ c < 0 ∧ ¬ (255 : Int32) < c) (hb : bs = cs.map (fun c => c.toInt8.toInt32)) (hfr : 4 ≤ R.frames) (hlo : W + 65 ≤ R.locals) :
    Back l R p e below s args (⟨"java/lang/String", "<init>", "([C)V"⟩ : MethodName) len W (fun P a => a = #[.ref x, .ref b] ∧ P.U.heap = h ∧ P.cells + 1 ≤ R.cells ∧ P.slots + n ≤ R.slots)
      (fun P _ v B => ∃ L, QV Z x N bs h n0 v B.U.heap L ∧ B.locs = P.locs ++ L ∧ B.cells = P.cells + 1 ∧ B.slots = P.slots + n) := by
  subst hn hN hb
  refine Back.mono (backArv hZ hw wi E V C K S hz (n32 (by omega)) l0 (by omega) (fun c hc => (hp c hc).2) hfr hlo) (fun P a hp => hp) (fun P a v B hp hq => ?_)
  obtain ⟨L, ⟨q1, q2, q3, q4, q5, q6, q7, ⟨kb, v1, v2⟩, q9⟩, hl, hc, hs⟩ := hq
  exact ⟨L, ⟨q1, fun y hy => by rw [q2 y hy]; exact hx0, q3, q5, q7, h.size, kb, hh0, Nat.le_refl _, Nat.ne_of_gt E.lt, q6, by rw [List.map_map]; exact v2⟩, hl, hc, hs⟩
end StrChars.Road
namespace StrChars
open Jvm Sem ClassFile Op Lib Jvm.Stand Jvm.Free.XT Jvm.Free.ALB Jvm.Free.JM Jvm.Free
open Jvm.Lib.Cold (StaticIs)
def hi8 (x : Int32) : Int32 := lo8 (x >>> ((8 : Int32) &&& 31))
/-- what StringUTF16.getChar makes of two bytes -/
def pairCh (u v : Int32) : Int32 := (((u &&& 255) <<< ((0 : Int32) &&& 31)) ||| ((v &&& 255) <<< ((8 : Int32) &&& 31))).toUInt32.toUInt16.toUInt32.toInt32
theorem lo8_and (x : Int32) : (lo8 x &&& 255).toBitVec.toNat = x.toBitVec.toNat % 256 := by
  have h : (lo8 x).toBitVec = (x.toBitVec.signExtend 8).signExtend 32 := by rw [lo8, Int8.toBitVec_toInt32, Int32.toBitVec_toInt8]
  rw [Int32.toBitVec_and, BitVec.toNat_and, h]
  have e : ((x.toBitVec.signExtend 8).signExtend 32).toNat % 256 = x.toBitVec.toNat % 256 := by
    rw [BitVec.toNat_signExtend]
    have hlt := x.toBitVec.isLt
    simp only [BitVec.toNat_setWidth, BitVec.toNat_signExtend]
    split <;> split <;> omega
  rw [← e]
  exact Nat.and_two_pow_sub_one_eq_mod _ 8
theorem pair_says {c : Int32} (h0 : ¬ c < 0) (h1 : ¬ 65535 < c) : pairCh (lo8 c) (hi8 c) = c := by
  rw [Int32.lt_iff_toInt_lt] at h0 h1
  have e0 : (0 : Int32).toInt = 0 := rfl
  have e1 : (65535 : Int32).toInt = 65535 := rfl
  have hc : c.toInt = c.toBitVec.toNat := by
    have := c.toBitVec.isLt
    have e : c.toInt = c.toBitVec.toInt := rfl
    rw [e] at h0 h1
    rw [e]
    rw [BitVec.toInt_eq_toNat_cond] at h0 h1 ⊢
    split at h0 <;> split <;> omega
  have hn : c.toBitVec.toNat < 65536 := by omega
  have a1 := lo8_and c
  have a2 : (hi8 c &&& 255).toBitVec.toNat = c.toBitVec.toNat / 256 := by
    rw [hi8, lo8_and]
    have e : ((8 : Int32) &&& 31) = 8 := by decide
    rw [e, Int32.toBitVec_shiftRight]
    have e2 : ((8 : Int32).toBitVec.smod 32) = 8#32 := by decide
    rw [e2, BitVec.sshiftRight_eq', BitVec.toNat_sshiftRight_of_msb_false (by rw [BitVec.msb_eq_false_iff_two_mul_lt]; omega)]
    show c.toBitVec.toNat >>> 8 % 256 = _
    rw [Nat.shiftRight_eq_div_pow]
    omega
  unfold pairCh
  apply Int32.toBitVec_inj.mp
  apply BitVec.eq_of_toNat_eq
  have f0 : ((0 : Int32) &&& 31) = 0 := by decide
  have f8 : ((8 : Int32) &&& 31) = 8 := by decide
  rw [f0, f8]
  have g : (((lo8 c &&& 255) <<< (0 : Int32)) ||| ((hi8 c &&& 255) <<< (8 : Int32))).toBitVec.toNat = c.toBitVec.toNat := by
    rw [Int32.toBitVec_or, Int32.toBitVec_shiftLeft, Int32.toBitVec_shiftLeft]
    have s0 : ((0 : Int32).toBitVec.smod 32) = 0#32 := by decide
    have s8 : ((8 : Int32).toBitVec.smod 32) = 8#32 := by decide
    rw [s0, s8, BitVec.toNat_or]
    simp only [BitVec.shiftLeft_eq', BitVec.toNat_shiftLeft, a1, a2]
    show (c.toBitVec.toNat % 256) <<< 0 % 2 ^ 32 ||| (c.toBitVec.toNat / 256) <<< 8 % 2 ^ 32 = _
    rw [Nat.shiftLeft_zero, Nat.mod_eq_of_lt (show c.toBitVec.toNat % 256 < 2 ^ 32 by omega), Nat.mod_eq_of_lt (show (c.toBitVec.toNat / 256) <<< 8 < 2 ^ 32 by rw [Nat.shiftLeft_eq]; omega), Nat.or_comm, ← Nat.shiftLeft_add_eq_or_of_lt (by omega), Nat.shiftLeft_eq]
    omega
  show BitVec.toNat (((((lo8 c &&& 255) <<< (0 : Int32)) ||| ((hi8 c &&& 255) <<< (8 : Int32))).toBitVec.setWidth 16).setWidth 32) = _
  rw [BitVec.toNat_setWidth, BitVec.toNat_setWidth, g]
  omega
end StrChars
namespace StrChars
open Jvm Sem ClassFile Op Lib Jvm.Stand Jvm.Free.XT Jvm.Free.ALB Jvm.Free.JM Jvm.Free
open Jvm.Lib.Cold (StaticIs)
/-- charAt's cast of a byte read back -/
def chr8 (u : Int32) : Int32 := (u &&& 255).toUInt32.toUInt16.toUInt32.toInt32
theorem chr8_lo8 {c : Int32} (h0 : ¬ c < 0) (h1 : ¬ 255 < c) : chr8 (lo8 c) = c := by
  have t : ∀ k : Fin 256, (Int32.ofNat k.val).toUInt32.toUInt16.toUInt32.toInt32 = Int32.ofNat k.val := by decide +kernel
  unfold chr8
  rw [lo8_mask h0 h1]
  rw [Int32.lt_iff_toInt_lt] at h0 h1
  have e0 : (0 : Int32).toInt = 0 := rfl
  have e1 : (255 : Int32).toInt = 255 := rfl
  obtain ⟨k, hk⟩ : ∃ k : Nat, c.toInt = k := ⟨c.toInt.toNat, by omega⟩
  have hx : c = Int32.ofNat k := Int32.toInt_inj.mp (by rw [hk, Int32.toInt_ofNat_small (by omega)])
  rw [hx]
  exact t ⟨k, by omega⟩
theorem narrow_ch {c : Int32} (h0 : ¬ c < 0) (h1 : ¬ 65535 < c) : narrow .char (.int c) = .int c := by
  have q : narrow .char (.int (pairCh (lo8 c) (hi8 c))) = .int (pairCh (lo8 c) (hi8 c)) := narrow_c _
  rwa [pair_says h0 h1] at q
/-- the array's cell V codes the n chars f 0 .. f (n - 1) by the coder cd, as the JDK does: coder 1 just where some char is above 255 -/
def Cod (cd : Int32) (n : Nat) (f : Nat → Int32) (V : Cell) : Prop := (cd = 0 ∧ V.slots.size = n ∧ ∀ j, j < n → V.slots[j]? = some (.int (lo8 (f j))) ∧ ¬ 255 < f j) ∨ (cd = 1 ∧ V.slots.size = 2 * n ∧ (∀ j, j < n → V.slots[2 * j]? = some (.int (lo8 (f j))) ∧ V.slots[2 * j + 1]? = some (.int (hi8 (f j)))) ∧ ∃ j, j < n ∧ 255 < f j)
theorem Cod.cd {cd : Int32} {n : Nat} {f : Nat → Int32} {V : Cell} (h : Cod cd n f V) : cd = 0 ∨ cd = 1 := h.imp (fun q => q.1) fun q => q.1
/-- **x is a String of the n chars f 0 .. f (n - 1)**, Latin-1 or UTF-16; its array at t has the cell V -/
def Txt (x t : Addr) (V : Cell) (cd : Int32) (n : Nat) (f : Nat → Int32) (U : State) : Prop := Exact "java/lang/String" x U ∧ Has x "java/lang/String" "value" "[B" (.ref t) U ∧ Has x "java/lang/String" "coder" "B" (.int cd) U ∧ XT.Arr .byte t V U ∧ Cod cd n f V ∧ ∀ j, j < n → ¬ f j < 0 ∧ ¬ 65535 < f j
theorem Txt.mv {x t : Addr} {V : Cell} {cd : Int32} {n : Nat} {f : Nat → Int32} {U U' : State} (h : Txt x t V cd n f U) (hal : U.vm.Alike U'.vm) (hh : U'.heap = U.heap) : Txt x t V cd n f U' := ⟨h.1.mv hal hh, h.2.1.mv hal hh, h.2.2.1.mv hal hh, h.2.2.2.1.mv hal hh, h.2.2.2.2⟩
namespace IsL
def yN : MethodName := ⟨"java/lang/String", "isLatin1", "()Z"⟩
abbrev yB : ByteArray := jdk_42_method_154_code
theorem d0 : decode yB 0 = .ok (.getstatic 38, 3) := by decide +kernel
theorem d3 : decode yB 3 = .ok (.ifCond (.eq) 14, 3) := by decide +kernel
theorem d6 : decode yB 6 = .ok (.aload_n 0, 1) := by decide +kernel
theorem d7 : decode yB 7 = .ok (.getfield 15, 3) := by decide +kernel
theorem d10 : decode yB 10 = .ok (.ifCond (.ne) 7, 3) := by decide +kernel
theorem d13 : decode yB 13 = .ok (.iconst 1, 1) := by decide +kernel
theorem d14 : decode yB 14 = .ok (.goto 4, 3) := by decide +kernel
theorem d17 : decode yB 17 = .ok (.iconst 0, 1) := by decide +kernel
theorem d18 : decode yB 18 = .ok (.ireturn, 1) := by decide +kernel
def site : List Cond := [.fieldLink "java/lang/String" 38 "java/lang/String" "COMPACT_STRINGS" "Z", .fieldLink "java/lang/String" 15 "java/lang/String" "coder" "B"]
def tab : Cond := tabOf yN yB 1 (some .boolean) site
def P (x : Addr) (cd z : Int32) (args : Array Value) (s : State) : Prop := args = #[.ref x] ∧ Has x "java/lang/String" "coder" "B" (.int cd) s ∧ (cd = 0 ∨ cd = 1) ∧ StaticIs s "java/lang/String" "COMPACT_STRINGS" "Z" (.int z) ∧ ¬ z = 0
def E (cd : Int32) (r : Option Value) (s u : State) : Prop := XT.PureE (some (.int (1 - cd))) r s u
theorem law (l : Launch) (x : Addr) (cd z : Int32) : Law l yN 1 0 0 0 yB 1 (some .boolean) site (P x cd z) (E cd) [] 0 0 := by
  refine Law.of_walk (plainFor_of_name (by decide +kernel)) (by decide +kernel) (by decide +kernel) (by decide) (fun _ _ h => by rw [h.1]; rfl) (fun _ U U' hal hh h => ⟨h.1, h.2.1.mv hal hh, h.2.2.1, h.2.2.2.1.there hal hh, h.2.2.2.2⟩) (fun r U U' V V' h1 hal h2 h => XT.PureE.mv r U U' V V' h1 hal h2 h) ?_
  intro p e s m args below meth c s₁ X0 hexec hbytes hml hret hlk hnm hown hh0 W hP
  obtain ⟨rfl, hx, hc, s1, hz⟩ := hP
  have c1 : Steps p.tables e below (s₁.setTop (entryFrame m #[.ref x] 1)) (s₁.setTop (mkF m 0 #[.val (.ref x)] [])) := entry rfl
  obtain ⟨T2, X2, q2, st2⟩ := X0.sget hexec hown (wk W (.fieldLink "java/lang/String" 38 "java/lang/String" "COMPACT_STRINGS" "Z")) s1 (fun _ _ h => by rw [hh0]; exact h) (g := (mkF m 0 #[.val (.ref x)] [])) rfl (hb hbytes d0)
  have hh2 := q2.trans hh0
  have c3 : Steps p.tables e below (s₁.setTop (entryFrame m #[.ref x] 1)) (T2.setTop (mkF m 7 #[.val (.ref x)] [.ref x])) := (c1.trans (st2 _ (Steps.refl _))).trans (by
    refine XS.ifNo X2.here hexec rfl (hb hbytes d3) rfl (i0_eq_f hz) ?_
    refine XS.aloadN X2.here hexec rfl (hb hbytes d6) rfl rfl ?_
    exact Steps.refl _)
  obtain ⟨T4, X4, q4, st4⟩ := X2.hget hexec hown (wk W (.fieldLink "java/lang/String" 15 "java/lang/String" "coder" "B")) (hx.mv X2.warmed.alike hh2) (g := (mkF m 7 #[.val (.ref x)] [.ref x])) rfl (rest := []) rfl (hb hbytes d7)
  have c5 : Steps p.tables e below (s₁.setTop (entryFrame m #[.ref x] 1)) (T4.setTop (mkF m 10 #[.val (.ref x)] [.int cd])) := c3.trans (st4 _ (Steps.refl _))
  have c6 : Steps p.tables e below (s₁.setTop (entryFrame m #[.ref x] 1)) (T4.setTop (mkF m 18 #[.val (.ref x)] [.int (1 - cd)])) := by
    rcases hc with rfl | rfl
    · exact c5.trans (by
        refine XS.ifNo X4.here hexec rfl (hb hbytes d10) rfl (i0_ne_f rfl) ?_
        refine iconstV X4.here hexec rfl 1 (hb hbytes d13) (by decide) ?_
        refine XS.goto X4.here hexec rfl (pc0 := 14) rfl (hb hbytes d14) (by decide) rfl ?_
        exact Steps.refl _)
    · exact c5.trans (by
        refine XS.ifYes X4.here hexec rfl (pc0 := 10) rfl (hb hbytes d10) rfl (i0_ne_t (by decide)) (by decide) rfl ?_
        refine iconstV X4.here hexec rfl 0 (hb hbytes d17) (by decide) ?_
        exact Steps.refl _)
  exact ⟨T4, some (.int (1 - cd)), _, _, _, X4, rfl, rfl, rfl, (fun h => by cases h), ⟨rfl, q4.trans hh2⟩, fun fs hl => c6.trans (X4.ireturnOut hexec hret (by rcases hc with rfl | rfl <;> rfl) (Or.inr (Or.inl rfl)) (hb hbytes d18) hl)⟩
end IsL
namespace LChA
def yN : MethodName := ⟨"java/lang/StringLatin1", "charAt", "([BI)C"⟩
abbrev yB : ByteArray := jdk_43_method_2_code
theorem d0 : decode yB 0 = .ok (.iload_n 1, 1) := by decide +kernel
theorem d1 : decode yB 1 = .ok (.aload_n 0, 1) := by decide +kernel
theorem d2 : decode yB 2 = .ok (.arraylength, 1) := by decide +kernel
theorem d3 : decode yB 3 = .ok (.invokestatic 9, 3) := by decide +kernel
theorem d6 : decode yB 6 = .ok (.aload_n 0, 1) := by decide +kernel
theorem d7 : decode yB 7 = .ok (.iload_n 1, 1) := by decide +kernel
theorem d8 : decode yB 8 = .ok (.baload, 1) := by decide +kernel
theorem d9 : decode yB 9 = .ok (.sipush 255, 3) := by decide +kernel
theorem d12 : decode yB 12 = .ok (.iand, 1) := by decide +kernel
theorem d13 : decode yB 13 = .ok (.i2c, 1) := by decide +kernel
theorem d14 : decode yB 14 = .ok (.ireturn, 1) := by decide +kernel
def site : List Cond := [JO.Str_checkIndex.tab] ++ staticW "java/lang/StringLatin1" 9 JO.Str_checkIndex.yN
def tab : Cond := tabOf yN yB 2 (some .char) site
def P (t : Addr) (V : Cell) (i : Nat) (u : Int32) (fm : Value) (args : Array Value) (s : State) : Prop := args = #[.ref t, .int (Int32.ofNat i)] ∧ XT.Arr .byte t V s ∧ V.slots[i]? = some (.int u) ∧ (StaticIs s "jdk/internal/util/Preconditions" "SIOOBE_FORMATTER" "Ljava/util/function/BiFunction;" fm ∧ fm.isRef = true)
def E (u : Int32) (r : Option Value) (s w : State) : Prop := XT.PureE (some (.int (chr8 u))) r s w
theorem law (l : Launch) (t : Addr) (V : Cell) (i : Nat) (u : Int32) (fm : Value) : Law l yN 2 2 2 27 yB 2 (some .char) site (P t V i u fm) (E u) [] 0 0 := by
  refine Law.of_walk (plainFor_of_name (by decide +kernel)) (by decide +kernel) (by decide +kernel) (by decide) (fun _ _ h => by rw [h.1]; rfl) (fun _ U U' hal hh h => ⟨h.1, h.2.1.mv hal hh, h.2.2.1, h.2.2.2.1.there hal hh, h.2.2.2.2⟩) (fun r U U' V V' h1 hal h2 h => XT.PureE.mv r U U' V V' h1 hal h2 h) ?_
  intro p e s m args below meth c s₁ X0 hexec hbytes hml hret hlk hnm hown hh0 W hP
  obtain ⟨rfl, hV, hu, s1, rf⟩ := hP
  have v31 := hV.2.2.2
  have hi : i < V.slots.size := (Array.getElem?_eq_some_iff.mp hu).1
  have c1 : Steps p.tables e below (s₁.setTop (entryFrame m #[.ref t, .int (Int32.ofNat i)] 2)) (s₁.setTop (mkF m 0 #[.val (.ref t), .val (.int (Int32.ofNat i))] [])) := entry rfl
  have c2 : Steps p.tables e below (s₁.setTop (entryFrame m #[.ref t, .int (Int32.ofNat i)] 2)) (s₁.setTop (mkF m 3 #[.val (.ref t), .val (.int (Int32.ofNat i))] [.int (Int32.ofNat V.slots.size), .int (Int32.ofNat i)])) := c1.trans (by
    refine XS.iloadN X0.here hexec rfl (hb hbytes d0) rfl ?_
    refine XS.aloadN X0.here hexec rfl (hb hbytes d1) rfl rfl ?_
    refine X0.alen hexec (hV.mv X0.warmed.alike hh0) rfl rfl (hb hbytes d2) ?_
    exact Steps.refl _)
  obtain ⟨v3, T3, X3, E3, g3⟩ := X0.callS hexec (JO.Str_checkIndex.law l (Int32.ofNat i) (Int32.ofNat V.slots.size) fm) hown (wks W (staticW "java/lang/StringLatin1" 9 JO.Str_checkIndex.yN)) (wk W JO.Str_checkIndex.tab) (W := 0) (Nat.le_of_ble_eq_true rfl) (Nat.le_of_ble_eq_true rfl) (Nat.le_refl _) (Nat.le_refl _) (g := (mkF m 3 #[.val (.ref t), .val (.int (Int32.ofNat i))] [.int (Int32.ofNat V.slots.size), .int (Int32.ofNat i)])) rfl (by rw [hml]; rfl) c2 (argsL := [.int (Int32.ofNat i), .int (Int32.ofNat V.slots.size)]) (rest := []) rfl rfl (by show 2 * 0 + 0 ≤ _; decide) (hb hbytes d3) (⟨rfl, rf, s1.there X0.warmed.alike hh0, Int32.ofNat_not_neg (by omega), lt32 v31 hi⟩)
  obtain ⟨rfl, q3⟩ := E3
  have hh3 := q3.trans hh0
  have c4 : Steps p.tables e below (s₁.setTop (entryFrame m #[.ref t, .int (Int32.ofNat i)] 2)) (T3.setTop (mkF m 14 #[.val (.ref t), .val (.int (Int32.ofNat i))] [.int (chr8 u)])) := Steps.trans g3 (by
    refine XS.aloadN X3.here hexec rfl (hb hbytes d6) rfl rfl ?_
    refine XS.iloadN X3.here hexec rfl (hb hbytes d7) rfl ?_
    refine X3.aget hexec (hV.mv X3.warmed.alike hh3) rfl hu rfl rfl (hb hbytes d8) ?_
    refine sipushV X3.here hexec rfl 255 (hb hbytes d9) (by decide) ?_
    refine XS.iand X3.here hexec rfl (hb hbytes d12) rfl ?_
    refine i2c X3.here hexec rfl (hb hbytes d13) rfl ?_
    exact Steps.refl _)
  exact ⟨T3, some (.int (chr8 u)), _, _, _, X3, rfl, rfl, rfl, (fun h => by cases h), ⟨rfl, hh3⟩, fun fs hl => c4.trans (X3.ireturnOut hexec hret (narrow_c _) (Or.inr (Or.inr (Or.inr (Or.inl rfl)))) (hb hbytes d14) hl)⟩
end LChA
end StrChars
namespace StrChars.Road
open Jvm Sem ClassFile Op Lib Jvm.Stand Jvm.Free Jvm.Free.XT
open Jvm.Lib.Cold (StaticIs)
theorem consq {a : Array Value} {s : State} {c : Jvm.Cond} {L : List Jvm.Cond} (h0 : c.before a s = true) (h : ∀ w ∈ L, w.before a s = true) : ∀ w ∈ c :: L, w.before a s = true := fun w hw => (List.mem_cons.mp hw).elim (fun e => e ▸ h0) (h w)
/-- the bytes of the chars cs, low before high -/
def wideBytes : List Int32 → List Value
  | [] => []
  | c :: cs => .int (lo8 c) :: .int (hi8 c) :: wideBytes cs
theorem wide_lo (d : Value) : ∀ (cs : List Int32) (j : Nat), j < cs.length → (wideBytes cs).getD (2 * j) d = .int (lo8 (cs.getD j 0))
  | [], j, h => absurd h (Nat.not_lt_zero j)
  | c :: cs, 0, _ => rfl
  | c :: cs, j + 1, h => by
    have q := wide_lo d cs j (by simpa using h)
    rw [show 2 * (j + 1) = 2 * j + 1 + 1 from by omega]
    simpa [wideBytes] using q
theorem wide_hi (d : Value) : ∀ (cs : List Int32) (j : Nat), j < cs.length → (wideBytes cs).getD (2 * j + 1) d = .int (hi8 (cs.getD j 0))
  | [], j, h => absurd h (Nat.not_lt_zero j)
  | c :: cs, 0, _ => rfl
  | c :: cs, j + 1, h => by
    have q := wide_hi d cs j (by simpa using h)
    rw [show 2 * (j + 1) + 1 = 2 * j + 1 + 1 + 1 from by omega]
    simpa [wideBytes] using q
theorem low_at (d : Value) (cs : List Int32) (j : Nat) (h : j < cs.length) : (cs.map fun c => Value.int (lo8 c)).getD j d = .int (lo8 (cs.getD j 0)) := by
  simp [List.getD_eq_getElem?_getD, h]
/-- an array of N2 bytes vs codes the chars cs by the coder cd -/
def CodA (cs : List Int32) (cd N2 : Int32) (vs : List Value) : Prop := (cd = 0 ∧ N2 = Int32.ofNat cs.length ∧ vs = (cs.map fun c => Value.int (lo8 c)) ∧ ∀ c ∈ cs, ¬ 255 < c) ∨ (cd = 1 ∧ N2 = Int32.ofNat (2 * cs.length) ∧ vs = wideBytes cs ∧ ∃ c ∈ cs, 255 < c)
theorem CodA.cod {cs : List Int32} {cd N2 : Int32} {vs : List Value} {V : Cell} (h : CodA cs cd N2 vs) (hn : 2 * cs.length < 2 ^ 31) (hs : V.slots.size = N2.toNatClampNeg) (hv : RoadKit.Has V vs (.int 0)) : Cod cd cs.length (fun j => cs.getD j 0) V := by
  rcases h with ⟨rfl, rfl, rfl, h⟩ | ⟨rfl, rfl, rfl, c, hc, hw⟩
  · rw [n32 (by omega)] at hs
    exact Or.inl ⟨rfl, hs, fun j hj => ⟨by rw [hv j (by omega), low_at _ _ _ hj], by
      have e : cs.getD j 0 = cs[j] := by simp [List.getD_eq_getElem?_getD, hj]
      show ¬ 255 < cs.getD j 0
      rw [e]; exact h _ (List.getElem_mem _)⟩⟩
  · rw [n32 (by omega)] at hs
    obtain ⟨j, hj, rfl⟩ := List.getElem_of_mem hc
    exact Or.inr ⟨rfl, hs, fun j hj => ⟨by rw [hv _ (by omega), wide_lo _ _ _ hj], by rw [hv _ (by omega), wide_hi _ _ _ hj]⟩, j, hj, by
      have e : cs.getD j 0 = cs[j] := by simp [List.getD_eq_getElem?_getD, hj]
      show 255 < cs.getD j 0
      rw [e]; exact hw⟩
/-- an object of exactly java/lang/String, its two fields found: as the laws ask it -/
theorem strObj {Z U : State} {a0 : Array Value} {kI : Nat} (wi : (Jvm.Cond.instantiable ST kI).before a0 Z = true) (al : Z.vm.Alike U.vm) {x : Addr} {v0 c0 : Value} (E : RoadKit.Exa Z U.heap x ST) (V : RoadKit.Fld Z U.heap x ST "value" "[B" v0) (C : RoadKit.Fld Z U.heap x ST "coder" "B" c0) :
    ∃ (D : Cell) (fV fC : Field), Blank ST x D U ∧ Found ST "value" "[B" fV U ∧ Found ST "coder" "B" fC U ∧ D.slots[fV.slot]? = some v0 ∧ D.slots[fC.slot]? = some c0 ∧ RoadKit.slotOf Z ST "value" "[B" = fV.slot ∧ RoadKit.slotOf Z ST "coder" "B" = fC.slot := by
  obtain ⟨D, cfV, kV, iV, fV, hD, gV, stV, knV, obV, asV, slV⟩ := V
  obtain ⟨D', cfC, kC, iC, fC, hD', gC, stC, -, -, asC, slC⟩ := C
  cases hD.symm.trans hD'
  obtain ⟨D2, kD, e1, e2, e3, e4, e5⟩ := E
  cases hD.symm.trans e1
  obtain ⟨c2, k2, i1, i2, i3, -⟩ := Cond.instantiable_spec wi
  cases e2.symm.trans i1
  cases e3.symm.trans i2
  obtain ⟨kU, u1, u2⟩ := al.2.2 _ _ e3
  exact ⟨D, fV, fC, ⟨hD, ⟨knV, fun q hq => by rw [hq] at obV; cases obV⟩, by rw [al.findClass]; exact e2, kU, u1, by rw [u2]; exact i3, by rw [u2]; exact e5 i3⟩, ⟨SBG.found_only al ⟨cfV, kV, iV, gV⟩, stV⟩, ⟨SBG.found_only al ⟨cfC, kC, iC, gC⟩, stC⟩, slV, slC, by simp [RoadKit.slotOf, gV], by simp [RoadKit.slotOf, gC]⟩
theorem sta_is {Z U : State} (al : Z.vm.Alike U.vm) {C n d : String} {v : Value} (S : RoadKit.Sta Z U.heap C n d v) : StaticIs U C n d v := by
  obtain ⟨cfS, iS, kS, fS, st, cS, t1, t2, t3, t4, t5, t6, t7⟩ := S
  exact StaticIs.there (s := { Z with heap := U.heap }) ⟨cfS, iS, kS, fS, st, cS, t1, t2, t3, t4, t5, (fun q => by rw [q] at t6; cases t6), t7⟩ al rfl
end StrChars.Road
namespace StrChars.Road
open Jvm Sem ClassFile Op Lib Jvm.Stand Jvm.Free Jvm.Free.XT
open Jvm.Lib.Cold (StaticIs)
/-- the road's facts of a String, as the laws ask it -/
theorem txt_of {Z U : State} {a0 : Array Value} {kI : Nat} (wi : (Jvm.Cond.instantiable ST kI).before a0 Z = true) (al : Z.vm.Alike U.vm) {x t : Addr} {kb : ClassId} {cs : List Int32} {cd N2 : Int32} {vs : List Value} (E : RoadKit.Exa Z U.heap x ST) (V : RoadKit.Fld Z U.heap x ST "value" "[B" (.ref t)) (C : RoadKit.Fld Z U.heap x ST "coder" "B" (.int cd)) (K : RoadKit.Arv Z U.heap t kb .byte N2 vs (.int 0)) (hc : CodA cs cd N2 vs) (hb : ∀ c ∈ cs, ¬ c < 0 ∧ ¬ (65535 : Int32) < c) (l2 : cs.length ≤ 4000) :
    ∃ A, Txt x t A cd cs.length (fun j => cs.getD j 0) U := by
  obtain ⟨A, K1, K2, K3, K4, K5, K6⟩ := K
  have hcod := hc.cod (by omega) K3 K5
  obtain ⟨D, fV, fC, hB, F1, F2, g1, g2, -, -⟩ := strObj wi al E V C
  exact ⟨A, ⟨_, hB.2.2.1, D, hB.1, rfl, by cases q : D.vm <;> first | rfl | exact absurd q (hB.2.1.2 _)⟩, Has.of hB F1 g1, Has.of hB F2 g2, ⟨K1.1, State.isArrayOf_alike al K1.2.1, K1.2.2, by rcases hcod with ⟨-, q, -⟩ | ⟨-, q, -⟩ <;> omega⟩, hcod, fun j hj => by
    have e : cs.getD j 0 = cs[j] := by simp [List.getD_eq_getElem?_getD, hj]
    show ¬ cs.getD j 0 < 0 ∧ ¬ 65535 < cs.getD j 0
    rw [e]; exact hb _ (List.getElem_mem _)⟩
end StrChars.Road
namespace StrChars
open Jvm Sem ClassFile Op Lib Jvm.Stand Jvm.Free.XT Jvm.Free.ALB Jvm.Free.JM Jvm.Free
open Jvm.Lib.Cold (StaticIs)
namespace ChN
def yN : MethodName := ⟨"java/lang/String", "charAt", "(I)C"⟩
abbrev yB : ByteArray := jdk_42_method_56_code
theorem d0 : decode yB 0 = .ok (.aload_n 0, 1) := by decide +kernel
theorem d1 : decode yB 1 = .ok (.invokevirtual 492, 3) := by decide +kernel
theorem d4 : decode yB 4 = .ok (.ifCond (.eq) 12, 3) := by decide +kernel
theorem d7 : decode yB 7 = .ok (.aload_n 0, 1) := by decide +kernel
theorem d8 : decode yB 8 = .ok (.getfield 9, 3) := by decide +kernel
theorem d11 : decode yB 11 = .ok (.iload_n 1, 1) := by decide +kernel
theorem d12 : decode yB 12 = .ok (.invokestatic 495, 3) := by decide +kernel
theorem d15 : decode yB 15 = .ok (.ireturn, 1) := by decide +kernel
def site : List Cond := [.fieldLink "java/lang/String" 9 "java/lang/String" "value" "[B", IsL.tab, LChA.tab] ++ virtW "java/lang/String" 492 "java/lang/String" IsL.yN IsL.yN ++ staticW "java/lang/String" 495 LChA.yN
def tab : Cond := tabOf yN yB 2 (some .char) site
def P (x t : Addr) (V : Cell) (n : Nat) (f : Nat → Int32) (z : Int32) (fm : Value) (i : Nat) (args : Array Value) (s : State) : Prop := args = #[.ref x, .int (Int32.ofNat i)] ∧ Txt x t V 0 n f s ∧ i < n ∧ StaticIs s "java/lang/String" "COMPACT_STRINGS" "Z" (.int z) ∧ ¬ z = 0 ∧ StaticIs s "jdk/internal/util/Preconditions" "SIOOBE_FORMATTER" "Ljava/util/function/BiFunction;" fm ∧ fm.isRef = true
def E (f : Nat → Int32) (i : Nat) (r : Option Value) (s u : State) : Prop := XT.PureE (some (.int (f i))) r s u
/-- charAt(i) of a Latin-1 String of n chars, i < n: f i -/
theorem law (l : Launch) (x t : Addr) (V : Cell) (n : Nat) (f : Nat → Int32) (z : Int32) (fm : Value) (i : Nat) : Law l yN 2 1 3 40 yB 2 (some .char) site (P x t V n f z fm i) (E f i) [] 0 0 := by
  refine Law.of_walk (plainFor_of_name (by decide +kernel)) (by decide +kernel) (by decide +kernel) (by decide) (fun _ _ h => by rw [h.1]; rfl) (fun _ U U' hal hh h => ⟨h.1, h.2.1.mv hal hh, h.2.2.1, h.2.2.2.1.there hal hh, h.2.2.2.2.1, h.2.2.2.2.2.1.there hal hh, h.2.2.2.2.2.2⟩) (fun r U U' V V' h1 hal h2 h => XT.PureE.mv r U U' V V' h1 hal h2 h) ?_
  intro p e s m args below meth c s₁ X0 hexec hbytes hml hret hlk hnm hown hh0 W hP
  obtain ⟨rfl, hx, hi, s1, hz, s3, rf⟩ := hP
  have v31 := hx.2.2.2.1.2.2.2
  have hr := hx.2.2.2.2.2 i hi
  have hx0 := hx.mv X0.warmed.alike hh0
  have c1 : Steps p.tables e below (s₁.setTop (entryFrame m #[.ref x, .int (Int32.ofNat i)] 2)) (s₁.setTop (mkF m 1 #[.val (.ref x), .val (.int (Int32.ofNat i))] [.ref x])) := Steps.trans (entry rfl) (by
    show Steps p.tables e below (s₁.setTop (mkF m 0 #[.val (.ref x), .val (.int (Int32.ofNat i))] [])) _
    refine XS.aloadN X0.here hexec rfl (hb hbytes d0) rfl rfl ?_
    exact Steps.refl _)
  obtain ⟨v2, T2, X2, E2, g2⟩ := X0.callV hexec (IsL.law l x 0 z) hown (wks W (virtW "java/lang/String" 492 "java/lang/String" IsL.yN IsL.yN)) rfl (by decide) (wk W IsL.tab) (W := 0) (Nat.le_of_ble_eq_true rfl) (Nat.le_of_ble_eq_true rfl) (Nat.le_refl _) (Nat.le_refl _) (hx0.1.fc X0.warmed.alike) hx0.1.is (g := (mkF m 1 #[.val (.ref x), .val (.int (Int32.ofNat i))] [.ref x])) rfl (by rw [hml]; rfl) c1 (argsL := []) (rest := []) rfl rfl (by show 2 * 0 + 0 ≤ _; decide) (hb hbytes d1) (⟨rfl, hx0.2.2.1, hx.2.2.2.2.1.cd, s1.there X0.warmed.alike hh0, hz⟩)
  obtain ⟨rfl, q2⟩ := E2
  have hh2 := q2.trans hh0
  have hx2 := hx.mv X2.warmed.alike hh2
  obtain ⟨-, k1, k2⟩ | ⟨k0, -⟩ := hx.2.2.2.2.1
  · have c3 : Steps p.tables e below (s₁.setTop (entryFrame m #[.ref x, .int (Int32.ofNat i)] 2)) (T2.setTop (mkF m 8 #[.val (.ref x), .val (.int (Int32.ofNat i))] [.ref x])) := Steps.trans g2 (by
      refine XS.ifNo X2.here hexec rfl (hb hbytes d4) rfl (i0_eq_f (by decide)) ?_
      refine XS.aloadN X2.here hexec rfl (hb hbytes d7) rfl rfl ?_
      exact Steps.refl _)
    obtain ⟨T4, X4, q4, st4⟩ := X2.hget hexec hown (wk W (.fieldLink "java/lang/String" 9 "java/lang/String" "value" "[B")) hx2.2.1 (g := (mkF m 8 #[.val (.ref x), .val (.int (Int32.ofNat i))] [.ref x])) rfl (rest := []) rfl (hb hbytes d8)
    have hh4 := q4.trans hh2
    have c5 : Steps p.tables e below (s₁.setTop (entryFrame m #[.ref x, .int (Int32.ofNat i)] 2)) (T4.setTop (mkF m 12 #[.val (.ref x), .val (.int (Int32.ofNat i))] [.int (Int32.ofNat i), .ref t])) := (c3.trans (st4 _ (Steps.refl _))).trans (by
      refine XS.iloadN X4.here hexec rfl (hb hbytes d11) rfl ?_
      exact Steps.refl _)
    obtain ⟨v6, T6, X6, E6, g6⟩ := X4.callS hexec (LChA.law l t V i (lo8 (f i)) fm) hown (wks W (staticW "java/lang/String" 495 LChA.yN)) (wk W LChA.tab) (W := 0) (Nat.le_of_ble_eq_true rfl) (Nat.le_of_ble_eq_true rfl) (Nat.le_refl _) (Nat.le_refl _) (g := (mkF m 12 #[.val (.ref x), .val (.int (Int32.ofNat i))] [.int (Int32.ofNat i), .ref t])) rfl (by rw [hml]; rfl) c5 (argsL := [.ref t, .int (Int32.ofNat i)]) (rest := []) rfl rfl (by show 2 * 0 + 0 ≤ _; decide) (hb hbytes d12) (⟨rfl, hx.2.2.2.1.mv X4.warmed.alike hh4, (k2 i hi).1, s3.there X4.warmed.alike hh4, rf⟩)
    obtain ⟨rfl, q6⟩ := E6
    rw [chr8_lo8 hr.1 (k2 i hi).2] at g6
    exact ⟨T6, some (.int (f i)), _, _, _, X6, rfl, rfl, rfl, (fun h => by cases h), ⟨rfl, q6.trans hh4⟩, fun fs hl => Steps.trans g6 (X6.ireturnOut hexec hret (narrow_ch hr.1 hr.2) (Or.inr (Or.inr (Or.inr (Or.inl rfl)))) (hb hbytes d15) hl)⟩
  · exact absurd k0 (by decide)
theorem pays {l : Launch} {R : Room} {p : Program} {e : Env} {below : List Frame} {s : State} {sargs : Array Value} {len W : Nat} (x t : Addr) (V : Cell) (n : Nat) (f : Nat → Int32) (z : Int32) (fm : Value) (i : Nat) (htab : tab.before sargs s = true) (hfr : 4 ≤ R.frames) (hlo : W + 53 ≤ R.locals) :
    Back l R p e below s sargs yN len W (fun A₁ a₁ => A₁.cells + 0 ≤ R.cells ∧ A₁.slots + 0 ≤ R.slots ∧ P x t V n f z fm i a₁ A₁.U) (fun A₁ _ v₁ B₁ => E f i v₁ A₁.U B₁.U ∧ B₁.locs = A₁.locs ++ [] ∧ B₁.cells = A₁.cells + 0 ∧ B₁.slots = A₁.slots + 0) :=
  (law l x t V n f z fm i).pays htab hfr (by omega)
end ChN
end StrChars
namespace StrChars.Road
open Jvm Sem ClassFile Op Lib Jvm.Stand Jvm.Free Jvm.Free.XT
open Jvm.Lib.Cold (StaticIs)
/-- what is asked by String.charAt(int), the Latin-1 road alone -/
abbrev wordsChN : List Jvm.Cond := [.code ChN.yN ChN.yB 2 (some .char), .initialized ST, .fieldLink ST 9 ST "value" "[B", .fieldLink ST 38 ST "COMPACT_STRINGS" "Z", .fieldLink ST 15 ST "coder" "B", .code IsL.yN IsL.yB 1 (some .boolean), .methodLink ST 492 IsL.yN, .declares IsL.yN, .selects ST IsL.yN IsL.yN, .instanceMethod IsL.yN,
  .methodLink ST 495 LChA.yN, .static LChA.yN, .code LChA.yN LChA.yB 2 (some .char), .initialized "java/lang/StringLatin1", .methodLink "java/lang/StringLatin1" 9 JO.Str_checkIndex.yN, .static JO.Str_checkIndex.yN, .code JO.Str_checkIndex.yN JO.Str_checkIndex.yB 2 none,
  .fieldLink ST 1053 "jdk/internal/util/Preconditions" "SIOOBE_FORMATTER" "Ljava/util/function/BiFunction;", .methodLink ST 1059 JC.PreCheck.yN, .static JC.PreCheck.yN, .code JC.PreCheck.yN JC.PreCheck.yB 3 (some .int), .initialized "jdk/internal/util/Preconditions"]
theorem tabChN_of {a : Array Value} {s : State} (h : ∀ w ∈ wordsChN, w.before a s = true) : ChN.tab.before a s = true := by
  have hp : JC.PreCheck.tab.before a s = true := unparts (wk h (.code JC.PreCheck.yN JC.PreCheck.yB 3 (some .int))) (wks h (.initialized JC.PreCheck.yN.cls :: JC.PreCheck.site))
  have qk := consq hp h
  have hk : JO.Str_checkIndex.tab.before a s = true := unparts (wk qk (.code JO.Str_checkIndex.yN JO.Str_checkIndex.yB 2 none)) (wks qk (.initialized JO.Str_checkIndex.yN.cls :: JO.Str_checkIndex.site))
  have ql := consq hk h
  have hl : LChA.tab.before a s = true := unparts (wk ql (.code LChA.yN LChA.yB 2 (some .char))) (wks ql (.initialized LChA.yN.cls :: LChA.site))
  have hi : IsL.tab.before a s = true := unparts (wk h (.code IsL.yN IsL.yB 1 (some .boolean))) (wks h (.initialized IsL.yN.cls :: IsL.site))
  have q := consq hi (consq hl h)
  exact unparts (wk q (.code ChN.yN ChN.yB 2 (some .char))) (wks q (.initialized ChN.yN.cls :: ChN.site))
theorem movedChN {Z s : State} {a0 args : Array Value} (hZ : Z.Warmed39 s.vm) (hw : ∀ d ∈ wordsChN, d.before a0 Z = true) : ∀ d ∈ wordsChN, d.before args s = true := fun d hd => by
  have t : ∀ d ∈ wordsChN, (d.onTables && d.keepsFace) = true := by decide +kernel
  exact RoadKit.mv hZ (hw d hd) (t d hd)
/-- **charAt(i) OF A LATIN-1 STRING**, i < n: the char -/
theorem chN {p : Program} {l : Launch} {e : Env} {R : Room} {s : State} {args : Array Value} {below : List Frame} {len W : Nat} {Z : State} {a0 : Array Value} {h : Heap} (hZ : Z.Warmed39 s.vm) (hw : ∀ d ∈ wordsChN, d.before a0 Z = true) {kI : Nat} (wi : (Jvm.Cond.instantiable ST kI).before a0 Z = true)
    {x t : Addr} {kb : ClassId} {cs : List Int32} {N2 z : Int32} {vs : List Value} {fm : Value} {i : Nat} {j : Int32} (E : RoadKit.Exa Z h x ST) (V : RoadKit.Fld Z h x ST "value" "[B" (.ref t)) (C : RoadKit.Fld Z h x ST "coder" "B" (.int 0)) (K : RoadKit.Arv Z h t kb .byte N2 vs (.int 0)) (hc : CodA cs 0 N2 vs) (hb : ∀ c ∈ cs, ¬ c < 0 ∧ ¬ (65535 : Int32) < c)
    (S : RoadKit.Sta Z h ST "COMPACT_STRINGS" "Z" (.int z)) (hz : ¬ z = 0) (F : RoadKit.Sta Z h "jdk/internal/util/Preconditions" "SIOOBE_FORMATTER" "Ljava/util/function/BiFunction;" fm) (rf : fm.isRef = true) (l2 : cs.length ≤ 4000) (hi : i < cs.length) (hj : j = Int32.ofNat i) (hfr : 4 ≤ R.frames) (hlo : W + 53 ≤ R.locals) :
    Back l R p e below s args (⟨"java/lang/String", "charAt", "(I)C"⟩ : MethodName) len W (fun P a => a = #[.ref x, .int j] ∧ P.U.heap = h ∧ P.cells + 0 ≤ R.cells ∧ P.slots + 0 ≤ R.slots)
      (fun P _ v B => ∃ L, (v = some (.int (cs.getD i 0)) ∧ L = [] ∧ B.U.heap = h) ∧ B.locs = P.locs ++ L ∧ B.cells = P.cells + 0 ∧ B.slots = P.slots + 0) := by
  subst hj
  intro m meth c P g ig mk a X hg hsize hdg hW hn hp'
  obtain ⟨rfl, rfl, r1, r2⟩ := hp'
  have al : Z.vm.Alike P.U.vm := hZ.alike.trans X.warmed.alike
  obtain ⟨A, hx⟩ := txt_of wi al E V C K hc hb l2
  obtain ⟨v, B, X', ⟨⟨hv, hh⟩, hl, hk, hs⟩, st⟩ := ChN.pays x t A cs.length (fun j => cs.getD j 0) z fm i (tabChN_of (movedChN hZ hw)) hfr hlo m meth c P g ig mk _ X hg hsize hdg hW hn ⟨r1, r2, rfl, hx, hi, sta_is al S, hz, sta_is al F, rf⟩
  exact ⟨v, B, X', ⟨[], ⟨hv, rfl, hh⟩, hl, hk, hs⟩, st⟩
/-- what backV says of its String, as the contracts of this text ask it: cs's low bytes, coder 0 -/
theorem codOf {cs : List Int32} {n : Nat} (hn : cs.length = n) (hb : ∀ c ∈ cs, ¬ 255 < c) : CodA cs 0 (Int32.ofNat n) ((cs.map lo8).map Value.int) := Or.inl ⟨rfl, by rw [hn], by simp [List.map_map, Function.comp_def], hb⟩
end StrChars.Road
end Jvm.Pilot.@@N@@
namespace Jvm.Pilot.@@N@@
open Jvm Jvm.ClassFile Sem Op Lib Jvm.Free Jvm.Stand Jvm.LawKit Jvm.RoadKit Bundle Jvm.Pilot.@@N@@.Jvm.D
/-! what the case's words say of the start -/
section OwnS
variable {s : State} {args : Array Value} {t u : Term} {a b : Addr} {cl : Cell} {ty : FieldType} {v : Value}
theorem own_eqv (h : (Jvm.Cond.eq t u).value args s none s [] = some true) (hu : u.eval args s none [] s = some v) : t.eval args s none [] s = some v := by
  obtain ⟨x, y, ha, hb, -, -⟩ := cmp_v (Or.inl h)
  cases hb.symm.trans hu
  rw [ha]
  cases x <;> cases v <;> simp [Jvm.Cond.value, ha, hu] at h <;> simp [h]
theorem own_fld {C n d : String} (h : (Jvm.Cond.eq (Term.field t C n d) u).value args s none s [] = some true) (ht : t.eval args s none [] s = some (.ref a)) (hu : u.eval args s none [] s = some v) : Fld s s.heap a C n d v := by
  have q := own_eqv h hu
  rw [fld_at ht] at q
  exact Fld.start q
theorem own_len {z : Int32} (h : (Jvm.Cond.eq (Term.length t) u).value args s none s [] = some true) (ht : t.eval args s none [] s = some (.ref a)) (A : Arr s s.heap a cl ty) (hu : u.eval args s none [] s = some (.int z)) (hz : ¬ z < 0) : cl.slots.size = z.toNatClampNeg ∧ cl.slots.size < 2 ^ 31 := by
  have q := own_eqv h hu
  have f := Arr.fin (U := s) (Vm.Alike.refl _) A
  have hl : cl.slots.size < 2 ^ 31 := by
    apply Classical.byContradiction
    intro n
    simp [Term.eval, ht, f, n] at q
  rw [len_f ht f hl] at q
  have e : cl.slots.size.toInt32 = z := by simpa using q
  refine ⟨?_, hl⟩
  rw [← e]
  simp only [Int32.toNatClampNeg, len_toInt hl]
  rfl
theorem own_elem {j : Term} {z : Int32} (h : (Jvm.Cond.eq (Term.elem t j) u).value args s none s [] = some true) (ht : t.eval args s none [] s = some (.ref a)) (A : Arr s s.heap a cl ty) (hj : j.eval args s none [] s = some (.int z)) (hu : u.eval args s none [] s = some v) : cl.slots[z.toNatClampNeg]? = some v :=
  (elem_in (own_eqv h hu) ht hj A.1).2
theorem own_has3 {vs : List Value} {z : Int32} {dv : Value} (hf : Fit s) (A : Arr s s.heap a cl ty) (q : cl.slots.size < 2 ^ 31) (S : cl.slots.size = z.toNatClampNeg) (H : HasL cl 0 vs) (hl : z.toNatClampNeg = vs.length := by rfl) : Has cl vs dv ∧ ∀ i, i < cl.slots.size → fits ty (vs.getD i dv) = true := by
  have H' : Has cl vs dv := fun j hj => by
    have := HasL.at (dv := dv) vs 0 H j (by rw [← hl, ← S]; exact hj)
    rwa [Nat.zero_add] at this
  refine ⟨H', fun j hj => ?_⟩
  have e1 : (Nat.toInt32 j).toNatClampNeg = j := by simp only [Int32.toNatClampNeg, len_toInt (Nat.lt_trans hj q)]; rfl
  exact elem_fits (j := Nat.toInt32 j) hf A (idx_in hj q) (by rw [e1]; exact H' j hj)
theorem own_arv {vs : List Value} {z : Int32} (dv : Value) (hf : Fit s) (A : Arr s s.heap a cl ty) (q : cl.slots.size = z.toNatClampNeg ∧ cl.slots.size < 2 ^ 31) (hz : ¬ z < 0) (H : HasL cl 0 vs) (hl : z.toNatClampNeg = vs.length := by rfl) : Arv s s.heap a cl.cls ty z vs dv := by
  obtain ⟨h1, h2⟩ := own_has3 (dv := dv) hf A q.2 q.1 H hl
  exact ⟨cl, A, rfl, q.1, hz, h1, h2⟩
theorem own_fldr {C n d : String} (ht : t.eval args s none [] s = some (.ref a)) (hu : (Term.field t C n d).eval args s none [] s = some v) : Fld s s.heap a C n d v := Fld.start (by rw [← fld_at ht]; exact hu)
end OwnS
end Jvm.Pilot.@@N@@
namespace Jvm.Pilot.@@N@@
open Jvm Jvm.ClassFile Sem Op Lib Jvm.Free Jvm.Stand Jvm.LawKit Jvm.RoadKit Bundle Jvm.Pilot.@@N@@.Jvm.D
/-- from here the run comes to a state of which G holds -/
def OWay (p : Program) (e : Env) (below : List Frame) (G : State → Prop) (T : State) (g : JFrame) : Prop := ∃ t, Steps p.tables e below (T.setTop g) t ∧ G t
/-- how a body ends: it returned, with what Q says of its value, the heap and the places written -/
def OEnd (s : State) (below : List Frame) (Q : Option Value → Heap → List Loc → Prop) (cs sl : Nat) (t : State) : Prop := ∃ o, t.status = .running ∧ Ended t below o ∧ ∃ v L, o = .returned v ∧ Q v t.heap L ∧ FrameEnd s o t L cs sl
/-- a body's contract, as a call wants it -/
def OCon (l : Launch) (y : MethodName) (bytes : ByteArray) (maxL : Nat) (rt : Option FieldType) (ws : List Jvm.Cond) (rm : Room) (Z : State) (as' : Array Value) (h : Heap) (Q : Option Value → Heap → List Loc → Prop) : Prop :=
  MetFree l y (head1 (Jvm.Cond.code y bytes maxL rt :: ws) rm) (fun a U => a = as' ∧ Z.Warmed39 U.vm ∧ U.heap = h) (fun _ _ _ _ _ => True) (fun _ U o U' => ∃ v L, o = .returned v ∧ Q v U'.heap L ∧ FrameEnd U o U' L rm.cells rm.slots)
section Own
variable {p : Program} {l : Launch} {e : Env} {R : Room} {s : State} {m : MethodId} {args : Array Value} {below : List Frame} {meth : Method} {c : Code} {T T' : State} {locs : List Loc} {cells slots : Nat} {Z : State} {a0 : Array Value} {h : Heap} {G : State → Prop} {g g' : JFrame} {Q : Option Value → Heap → List Loc → Prop} {cs sl : Nat}
theorem ogo (q : ∀ t, Steps p.tables e below (T'.setTop g') t → Steps p.tables e below (T.setTop g) t) (w : OWay p e below G T' g') : OWay p e below G T g := by
  obtain ⟨t, h1, h2⟩ := w
  exact ⟨t, q t h1, h2⟩
theorem ogoS (q : Steps p.tables e below (T.setTop g) (T'.setTop g')) (w : OWay p e below G T' g') : OWay p e below G T g := ogo (fun _ k => q.trans k) w
theorem ogoE (q : g = g') (w : OWay p e below G T g') : OWay p e below G T g := q ▸ w
theorem ocon {y : MethodName} {bytes : ByteArray} {maxL : Nat} {rt : Option FieldType} {ws : List Jvm.Cond} {rm : Room} {as' : Array Value} (hp : plainFor y = true)
    (body : ∀ (p : Program) (e : Env) (s : State) (m : MethodId) (below : List Frame) (meth : Method) (c : Code) (s₁ : State), p.tables.exec = Jvm.exec → c.code = bytes → c.maxLocals = maxL → s.vm.findClass y.cls = some m.cls → meth.name = y.name → meth.sig.returnType = rt → meth.locks = false → Z.Warmed39 s.vm →
      Stand p l e rm s m as' below meth c s₁ [] 0 0 → s₁.heap = h → OWay p e below (OEnd s below Q rm.cells rm.slots) s₁ (entryFrame m as' maxL)) : OCon l y bytes maxL rt ws rm Z as' h Q := by
  refine MetFree.of_bodySF hp hisR ?_
  intro p e s m args below meth c s₁ Bd hml0 hP hK
  obtain ⟨rfl, hZ, hh⟩ := hP
  obtain ⟨t, h1, o, h2, h3, h4⟩ := body p e s m below meth c s₁ Bd.exec Bd.bytes hml0 (findClass_of_methodNamed Bd.named) (name_of_methodNamed Bd.named Bd.method).1 Bd.returns Bd.notSynchronized hZ (Stand.of_body Bd) (by rw [← hh, Bd.state]; rfl)
  exact ⟨t, o, h1, h2, h3, h4⟩
theorem wRetN (X : Stand p l e R s m args below meth c T locs cells slots) (hx : p.tables.exec = Jvm.exec) {pc : Nat} {Ls : Array Slot} {z : Int32} {t : FieldType} {rest : List Value} (hret : meth.sig.returnType = some t) (hlk : meth.locks = false) (ht : t = .boolean ∨ t = .byte ∨ t = .char ∨ t = .short)
    (hd : decode c.code pc = .ok (.ireturn, 1)) (hc : cells ≤ cs) (hs : slots ≤ sl) (eT : T.heap = h) (hq : Q (some (.int (nar t z))) h locs) : OWay p e below (OEnd s below Q cs sl) T (mkF m pc Ls (.int z :: rest)) := by
  obtain ⟨fs, hr, hrun, hended, hW, hsame⟩ := X.leave (v := some (.int (nar t z))) (fun q => by rw [hret] at q; cases q) hlk
  exact ⟨_, retN X hx hret ht hd hr, _, hrun, hended, _, _, rfl, by subst eT; exact hq, ⟨_, rfl⟩, hW, hsame.mono hc hs⟩
theorem wRet (X : Stand p l e R s m args below meth c T locs cells slots) (hx : p.tables.exec = Jvm.exec) {pc : Nat} {Ls : Array Slot} {w : Value} {t : FieldType} {i : Instr} {rest : List Value} (hret : meth.sig.returnType = some t) (hlk : meth.locks = false) (hn : narrow t w = w)
    (hi : (i = .ireturn ∧ (t = .int ∨ t = .boolean ∨ t = .byte ∨ t = .char ∨ t = .short) ∧ ∃ z, w = .int z) ∨ (i = .lreturn ∧ t = .long ∧ ∃ z, w = .long z) ∨ (i = .dreturn ∧ t = .double ∧ ∃ z, w = .double z) ∨ (i = .freturn ∧ t = .float ∧ ∃ z, w = .float z) ∨ (i = .areturn ∧ t.isReference = true ∧ w.isRef = true))
    (hd : decode c.code pc = .ok (i, 1)) (hc : cells ≤ cs) (hs : slots ≤ sl) (eT : T.heap = h) (hq : Q (some w) h locs) : OWay p e below (OEnd s below Q cs sl) T (mkF m pc Ls (w :: rest)) := by
  obtain ⟨fs, hr, hrun, hended, hW, hsame⟩ := X.leave (v := some w) (fun q => by rw [hret] at q; cases q) hlk
  exact ⟨_, retOut X hx hret hn hi hd hr, _, hrun, hended, _, _, rfl, by subst eT; exact hq, ⟨_, rfl⟩, hW, hsame.mono hc hs⟩
theorem wRetV (X : Stand p l e R s m args below meth c T locs cells slots) (hx : p.tables.exec = Jvm.exec) {pc : Nat} {Ls : Array Slot} (hret : meth.sig.returnType = none) (hlk : meth.locks = false)
    (hd : decode c.code pc = .ok (.return_, 1)) (hc : cells ≤ cs) (hs : slots ≤ sl) (eT : T.heap = h) (hq : Q none h locs) : OWay p e below (OEnd s below Q cs sl) T (mkF m pc Ls []) := by
  obtain ⟨fs, hr, hrun, hended, hW, hsame⟩ := X.leave (v := none) (fun _ => rfl) hlk
  exact ⟨_, X.returnOut hx hret hd hr, _, hrun, hended, _, _, rfl, by subst eT; exact hq, ⟨_, rfl⟩, hW, hsame.mono hc hs⟩
theorem wStatic (X : Stand p l e R s m args below meth c T locs cells slots) (hx : p.tables.exec = Jvm.exec) (hZ : Z.Warmed39 s.vm) {own : String} {index : Nat} {y : MethodName} {bytes : ByteArray} {maxL : Nat} {rt : Option FieldType} {rm : Room} {as' : Array Value} (hown : s.vm.findClass own = some m.cls)
    (w1 : (Jvm.Cond.methodLink own index y).before a0 Z = true) (w2 : (Jvm.Cond.static y).before a0 Z = true) (w3 : (Jvm.Cond.initialized y.cls).before a0 Z = true) (w4 : (Jvm.Cond.code y bytes maxL rt).before a0 Z = true) (hy : y.cls ≠ "java/lang/invoke/MethodHandle" ∧ y.cls ≠ "java/lang/invoke/VarHandle")
    (hM : OCon l y bytes maxL rt [] rm Z as' h Q) (W : Nat) (hf : rm.frames + 1 ≤ R.frames) (hl : W + (maxL + 11) + rm.locals ≤ R.locals) {g : JFrame} (hg : g.method = m) (hsize : g.locals.size = c.maxLocals) {argsL rest : List Value} (hlen : ∀ sig, parseMethodDescriptor y.desc = some sig → argsL.length = sig.parameters.length)
    (hstack : g.stack = argsL.reverse ++ rest) (hW : 2 * g.monitorRoom + (rest.map fun v => v.category).sum ≤ W) (hd : decode c.code g.pc = .ok (.invokestatic index, 3)) (has : argsL.toArray = as') (eT : T.heap = h) (hc : cells + rm.cells ≤ R.cells) (hs : slots + rm.slots ≤ R.slots) :
    ∃ (v : Option Value) (T' : State) (L : List Loc), Stand p l e R s m args below meth c T' (locs ++ L) (cells + rm.cells) (slots + rm.slots) ∧ Q v T'.heap L ∧ ∀ target, Steps p.tables e below (T'.setTop { g with pc := g.pc + 3, stack := v.toList ++ rest }) target → Steps p.tables e below (T.setTop g) target := by
  obtain ⟨v, _, ⟨T1, L1, k1, n1⟩, -, X1, ⟨Lc, hQ, l1, y1, z1⟩, st⟩ := Jvm.LawKit.callS X hx (y := y) hown (mvT hZ w1) (mvT hZ w2) (mvT hZ w3) (mvT hZ w4) hy (backOf (W := W) hM hZ w4 w3 hf hl) (g := g) hg hsize (argsL := argsL) (rest := rest) hlen hstack hW hd (fun _ _ => ⟨has, eT, hc, hs⟩)
  dsimp only [Pt.U, Pt.locs, Pt.cells, Pt.slots] at X1 l1 y1 z1 st hQ
  subst l1 y1 z1
  exact ⟨v, T1, Lc, X1, hQ, st⟩
theorem wInit (X : Stand p l e R s m args below meth c T locs cells slots) (hx : p.tables.exec = Jvm.exec) (hZ : Z.Warmed39 s.vm) {own : String} {index : Nat} {y : MethodName} {bytes : ByteArray} {maxL : Nat} {rm : Room} {as' : Array Value} (hy1 : y.name = "<init>") (hown : s.vm.findClass own = some m.cls)
    (w1 : (Jvm.Cond.methodLink own index y).before a0 Z = true) (w2 : (Jvm.Cond.instanceMethod y).before a0 Z = true) (w3 : (Jvm.Cond.initialized y.cls).before a0 Z = true) (w4 : (Jvm.Cond.code y bytes maxL none).before a0 Z = true) (hy : y.cls ≠ "java/lang/invoke/MethodHandle" ∧ y.cls ≠ "java/lang/invoke/VarHandle")
    (hM : OCon l y bytes maxL none [] rm Z as' h Q) (W : Nat) (hf : rm.frames + 1 ≤ R.frames) (hl : W + (maxL + 11) + rm.locals ≤ R.locals) {g : JFrame} (hg : g.method = m) (hsize : g.locals.size = c.maxLocals) {a : Addr} {argsL rest : List Value} (hlen : ∀ sig, parseMethodDescriptor y.desc = some sig → argsL.length = sig.parameters.length)
    (hstack : g.stack = argsL.reverse ++ .ref a :: rest) (hW : 2 * g.monitorRoom + (rest.map fun v => v.category).sum ≤ W) (hd : decode c.code g.pc = .ok (.invokespecial index, 3)) (has : (.ref a :: argsL).toArray = as') (eT : T.heap = h) (hc : cells + rm.cells ≤ R.cells) (hs : slots + rm.slots ≤ R.slots) :
    ∃ (v : Option Value) (T' : State) (L : List Loc), Stand p l e R s m args below meth c T' (locs ++ L) (cells + rm.cells) (slots + rm.slots) ∧ Q v T'.heap L ∧ Steps p.tables e below (T.setTop g) (T'.setTop { g with pc := g.pc + 3, stack := v.toList ++ rest }) := by
  obtain ⟨v, _, ⟨T1, L1, k1, n1⟩, -, X1, ⟨Lc, hQ, l1, y1, z1⟩, st⟩ := X.specialBack hx (y := y) hy1 hown (mvT hZ w1) (mvT hZ w2) (mvT hZ w4) hy (backOf (W := W) hM hZ w4 w3 hf hl) (g := g) hg hsize (Steps.refl _) (a := a) (argsL := argsL) (rest := rest) hlen hstack hW hd (fun _ _ => ⟨has, eT, hc, hs⟩)
  dsimp only [Pt.U, Pt.locs, Pt.cells, Pt.slots] at X1 l1 y1 z1 st hQ
  subst l1 y1 z1
  exact ⟨v, T1, Lc, X1, hQ, st⟩
theorem wVirtual (X : Stand p l e R s m args below meth c T locs cells slots) (hx : p.tables.exec = Jvm.exec) (hZ : Z.Warmed39 s.vm) {own C : String} {index : Nat} {y z : MethodName} {bytes : ByteArray} {maxL : Nat} {rt : Option FieldType} {rm : Room} {as' : Array Value} (hown : s.vm.findClass own = some m.cls)
    (w1 : (Jvm.Cond.methodLink own index y).before a0 Z = true) (w2 : (Jvm.Cond.declares y).before a0 Z = true) (nf : NotFace s y) (w5 : (Jvm.Cond.selects C y z).before a0 Z = true) (w6 : (Jvm.Cond.instanceMethod z).before a0 Z = true) (w3 : (Jvm.Cond.initialized z.cls).before a0 Z = true) (w4 : (Jvm.Cond.code z bytes maxL rt).before a0 Z = true)
    (hy : y.cls ≠ "java/lang/invoke/MethodHandle" ∧ y.cls ≠ "java/lang/invoke/VarHandle") (hM : OCon l z bytes maxL rt [] rm Z as' h Q) (W : Nat) (hf : rm.frames + 1 ≤ R.frames) (hl : W + (maxL + 11) + rm.locals ≤ R.locals) {b : Addr} (E : Exa Z h b C) {g : JFrame} (hg : g.method = m) (hsize : g.locals.size = c.maxLocals) {argsL rest : List Value} (hlen : ∀ sig, parseMethodDescriptor y.desc = some sig → argsL.length = sig.parameters.length)
    (hstack : g.stack = argsL.reverse ++ .ref b :: rest) (hW : 2 * g.monitorRoom + (rest.map fun v => v.category).sum ≤ W) (hd : decode c.code g.pc = .ok (.invokevirtual index, 3)) (has : (.ref b :: argsL).toArray = as') (eT : T.heap = h) (hc : cells + rm.cells ≤ R.cells) (hs : slots + rm.slots ≤ R.slots) :
    ∃ (v : Option Value) (T' : State) (L : List Loc), Stand p l e R s m args below meth c T' (locs ++ L) (cells + rm.cells) (slots + rm.slots) ∧ Q v T'.heap L ∧ Steps p.tables e below (T.setTop g) (T'.setTop { g with pc := g.pc + 3, stack := v.toList ++ rest }) := by
  obtain ⟨cq, kq, qa, qb, qc⟩ := isOf hZ eT E
  obtain ⟨v, _, ⟨T1, L1, k1, n1⟩, -, X1, ⟨Lc, hQ, l1, y1, z1⟩, st⟩ := X.virtualBack hx (y := y) (z := z) hown (mvT hZ w1) (mvT hZ w2) nf (mvT hZ w5) (mvT hZ w6) hy (backOf (W := W) hM hZ w4 w3 hf hl) qa qc (g := g) hg hsize (Steps.refl _) (argsL := argsL) (rest := rest) hlen hstack hW hd (fun _ _ => ⟨has, eT, hc, hs⟩)
  dsimp only [Pt.U, Pt.locs, Pt.cells, Pt.slots] at X1 l1 y1 z1 st hQ
  subst l1 y1 z1
  exact ⟨v, T1, Lc, X1, hQ, st⟩
end Own
end Jvm.Pilot.@@N@@
namespace Jvm.Pilot.@@N@@
open Jvm Jvm.ClassFile Sem Op Lib Jvm.Free Jvm.Stand Jvm.LawKit Jvm.RoadKit Bundle Jvm.Pilot.@@N@@.Jvm.D
def pk (x : Int32) : Int32 := if (x &&& (3 : Int32)) = (0 : Int32) then (13 : Int32) else (if (x &&& (3 : Int32)) = (1 : Int32) then (10 : Int32) else (((x.toUInt32 >>> ((2 : Int32) &&& 31).toUInt32).toInt32) &&& (255 : Int32)))
theorem own_nar (y : Int32) (h0 : 0 ≤ y.toInt) (h1 : y.toInt < 65536) : nar .char y = y := by
  show y.toUInt32.toUInt16.toUInt32.toInt32 = y
  have c := c_i2c y
  rw [← Int32.toInt_inj]
  omega
theorem own_pkb (x : Int32) : 0 ≤ (pk x).toInt ∧ (pk x).toInt ≤ 255 := by
  unfold pk
  split
  · decide
  · split
    · decide
    · exact c_and _ 255 (by decide)
theorem own_pk (x : Int32) : nar .char (pk x) = pk x ∧ ¬ pk x < 0 ∧ ¬ (255 : Int32) < pk x := by
  have b := own_pkb x
  have e0 : (0 : Int32).toInt = 0 := by decide
  have e1 : (255 : Int32).toInt = 255 := by decide
  refine ⟨own_nar _ (by omega) (by omega), ?_, ?_⟩ <;> rw [Int32.lt_iff_toInt_lt] <;> omega
def kn (l : Int32) : Int32 := if (0 : Int32) < l then (1 : Int32) else (0 : Int32)
theorem own_kn (p v : Int32) (h : v = (p &&& (2147483647 : Int32))) : kn v = (if v = (0 : Int32) then (0 : Int32) else (1 : Int32)) := by
  have m := c_mask p 2147483647 31 (by decide) (by decide)
  rw [← h] at m
  have e0 : (0 : Int32).toInt = 0 := by decide
  unfold kn
  simp only [Int32.lt_iff_toInt_lt, ← Int32.toInt_inj, e0]
  by_cases q : v.toInt = 0
  · rw [if_neg (by omega), if_pos q]
  · rw [if_pos (by omega), if_neg q]
theorem own_kp (v : Int32) (h : 1 ≤ v.toInt) : kn v = (1 : Int32) := by
  have e0 : (0 : Int32).toInt = 0 := by decide
  unfold kn
  rw [if_pos (by rw [Int32.lt_iff_toInt_lt]; omega)]
theorem own_ix (p v : Int32) (h : v = ((p &&& (2147483647 : Int32)) % (4 : Int32))) : 0 ≤ v.toInt ∧ v.toInt ≤ 3 := by
  have m := c_mask p 2147483647 31 (by decide) (by decide)
  have d := (c_irem (p &&& 2147483647) 4 4 (by decide)).1 (by omega)
  rw [h]
  omega
theorem own_back (c : Int32) (h : 0 ≤ c.toInt) : c = Int32.ofNat c.toInt.toNat := by
  have q : Int32.ofInt c.toInt = c := Int32.ofInt_toInt c
  conv => lhs; rw [← q]
  have e : c.toInt = (c.toInt.toNat : Int) := by omega
  conv => lhs; rw [e]
  exact Int32.ofInt_eq_ofNat
theorem own_inc (i : Int32) (h0 : 0 ≤ i.toInt) (h1 : i.toInt ≤ 1000) : (i + (1 : Int32)).toInt = i.toInt + 1 := by
  have a := c_iadd i 1
  have e : (1 : Int32).toInt = 1 := by decide
  have r := rng32 (i + 1)
  omega
theorem own_dec (i : Int32) (h0 : 0 ≤ i.toInt) : (i - (1 : Int32)).toInt = i.toInt - 1 := by
  have a := c_isub i 1
  have e : (1 : Int32).toInt = 1 := by decide
  have r := rng32 (i - 1)
  have r2 := rng32 i
  omega
theorem own_os {x0 x1 x2 x3 x4 : Value} {z : Slot} {v : Int32} (h : One z) : storeLocals #[.val x0, .val x1, .val x2, .val x3, .val x4, z] 5 (.int v) = some #[.val x0, .val x1, .val x2, .val x3, .val x4, .val (.int v)] := by
  rcases h with rfl | ⟨w, rfl, hw⟩
  · rfl
  · cases w <;> first | rfl | (simp [Value.category] at hw)
theorem pn_com_example_slotwright_slotwright_PlaceKnownPinLaw : plainName "com/example/slotwright/slotwright/PlaceKnownPinLaw" = true := by first | (simp [plainName, overriddenIn]; done) | decide +kernel
theorem d1_0 : decode method_2_code 0 = .ok (.iload_n 0, 1) := by decide +kernel
theorem d1_1 : decode method_2_code 1 = .ok (.iconst 3, 1) := by decide +kernel
theorem d1_2 : decode method_2_code 2 = .ok (.iand, 1) := by decide +kernel
theorem d1_3 : decode method_2_code 3 = .ok (.istore_n 1, 1) := by decide +kernel
theorem d1_4 : decode method_2_code 4 = .ok (.iload_n 1, 1) := by decide +kernel
theorem d1_5 : decode method_2_code 5 = .ok (.ifCond .ne 6, 3) := by decide +kernel
theorem d1_8 : decode method_2_code 8 = .ok (.bipush 13, 2) := by decide +kernel
theorem d1_10 : decode method_2_code 10 = .ok (.ireturn, 1) := by decide +kernel
theorem d1_11 : decode method_2_code 11 = .ok (.iload_n 1, 1) := by decide +kernel
theorem d1_12 : decode method_2_code 12 = .ok (.iconst 1, 1) := by decide +kernel
theorem d1_13 : decode method_2_code 13 = .ok (.if_icmp .ne 6, 3) := by decide +kernel
theorem d1_16 : decode method_2_code 16 = .ok (.bipush 10, 2) := by decide +kernel
theorem d1_18 : decode method_2_code 18 = .ok (.ireturn, 1) := by decide +kernel
theorem d1_19 : decode method_2_code 19 = .ok (.iload_n 0, 1) := by decide +kernel
theorem d1_20 : decode method_2_code 20 = .ok (.iconst 2, 1) := by decide +kernel
theorem d1_21 : decode method_2_code 21 = .ok (.iushr, 1) := by decide +kernel
theorem d1_22 : decode method_2_code 22 = .ok (.sipush 255, 3) := by decide +kernel
theorem d1_25 : decode method_2_code 25 = .ok (.iand, 1) := by decide +kernel
theorem d1_26 : decode method_2_code 26 = .ok (.i2c, 1) := by decide +kernel
theorem d1_27 : decode method_2_code 27 = .ok (.ireturn, 1) := by decide +kernel
def pk_b_rm : Room := { frames := 0, cells := 0, slots := 0, locals := 0 }
def pk_b_Q (Z : State) (p0 : Int32) (h0 : Heap) (n0 : Nat) (v : Option Value) (h : Heap) (L : List Loc) : Prop := (v = some (.int (pk p0))) ∧ (Fr n0 L) ∧ (h = h0)
theorem pk_b_ef (m : MethodId) (p0 : Int32) : entryFrame m #[(.int p0)] 2 = mkF m 0 #[.val (.int p0), .unset] [] := by first | (simp [entryFrame, mkF, argsToLocals, Value.category]; done) | rfl
set_option maxRecDepth 65536 in
set_option maxHeartbeats 40000000 in
theorem pk_b_c (l : Launch) (Z : State) (az : Array Value) (hw : ∀ d ∈ tables_1, d.before az Z = true) (ws : List Jvm.Cond) (p0 : Int32) (h0 : Heap) (n0 : Nat) (Z0 : n0 ≤ h0.size) :
    OCon l (⟨"com/example/slotwright/slotwright/PlaceKnownPinLaw", "pick", "(I)C"⟩ : MethodName) method_2_code 2 (some .char) ws pk_b_rm Z #[(.int p0)] h0 (pk_b_Q Z p0 h0 n0) := by
  refine ocon (plainFor_of_name pn_com_example_slotwright_slotwright_PlaceKnownPinLaw) ?_
  intro p e s m below meth c s₁ hx hby hml hown hnm hret hlk hZ X0 eh0
  have N0 := Fr.nil n0
  have K0 := Keep.refl h0 []
  refine ogoE (pk_b_ef m p0) ?_
  generalize hG : (OEnd s below (pk_b_Q Z p0 h0 n0) pk_b_rm.cells pk_b_rm.slots) = G
  show OWay p e below G s₁ (mkF m 0 #[.val (.int p0), .unset] [])
  refine ogo (fun _ z_ => XS.iloadN X0.here hx rfl (hb hby d1_0) rfl z_) ?_
  show OWay p e below G s₁ (mkF m 1 #[.val (.int p0), .unset] [(.int p0)])
  refine ogo (fun _ z_ => XS.iconst X0.here hx rfl (hb hby d1_1) z_) ?_
  show OWay p e below G s₁ (mkF m 2 #[.val (.int p0), .unset] [(.int (3 : Int32)), (.int p0)])
  refine ogo (fun _ z_ => XS.iand X0.here hx rfl (hb hby d1_2) rfl z_) ?_
  show OWay p e below G s₁ (mkF m 3 #[.val (.int p0), .unset] [(.int (p0 &&& (3 : Int32)))])
  suffices Jv1_1 : ∀ v1_1 : Int32, v1_1 = (p0 &&& (3 : Int32)) → OWay p e below G s₁ (mkF m 3 #[.val (.int p0), .unset] [(.int v1_1)]) from Jv1_1 _ rfl
  intro v1_1 hv1_1
  refine ogo (fun _ z_ => XS.istoreN X0.here hx rfl (hb hby d1_3) rfl (l' := #[.val (.int p0), .val (.int v1_1)]) rfl z_) ?_
  show OWay p e below G s₁ (mkF m 4 #[.val (.int p0), .val (.int v1_1)] [])
  refine ogo (fun _ z_ => XS.iloadN X0.here hx rfl (hb hby d1_4) rfl z_) ?_
  show OWay p e below G s₁ (mkF m 5 #[.val (.int p0), .val (.int v1_1)] [(.int v1_1)])
  by_cases c5 : v1_1 = (0 : Int32)
  · refine ogo (fun _ z_ => XS.ifNo X0.here hx rfl (hb hby d1_5) rfl ((if0 _ _).trans (teq c5).2) z_) ?_
    show OWay p e below G s₁ (mkF m 8 #[.val (.int p0), .val (.int v1_1)] [])
    refine ogo (fun _ z_ => XS.bipush X0.here hx rfl (hb hby d1_8) z_) ?_
    show OWay p e below G s₁ (mkF m 10 #[.val (.int p0), .val (.int v1_1)] [(.int (13 : Int32))])
    subst hG
    refine wRetN X0 hx (t := .char) hret hlk (by simp) (hb hby d1_10) (by decide) (by decide) eh0 ?_
    subst hv1_1
    exact ⟨(congrArg some (congrArg Value.int (show nar .char _ = pk p0 from by unfold pk; rw [if_pos c5]; rfl))), N0, rfl⟩
  · refine ogo (fun _ z_ => XS.ifYes X0.here hx rfl (pc0 := 5) (pc' := 11) rfl (hb hby d1_5) rfl ((if0 _ _).trans (feq c5).2) (by decide) (by decide) z_) ?_
    show OWay p e below G s₁ (mkF m 11 #[.val (.int p0), .val (.int v1_1)] [])
    refine ogo (fun _ z_ => XS.iloadN X0.here hx rfl (hb hby d1_11) rfl z_) ?_
    show OWay p e below G s₁ (mkF m 12 #[.val (.int p0), .val (.int v1_1)] [(.int v1_1)])
    refine ogo (fun _ z_ => XS.iconst X0.here hx rfl (hb hby d1_12) z_) ?_
    show OWay p e below G s₁ (mkF m 13 #[.val (.int p0), .val (.int v1_1)] [(.int (1 : Int32)), (.int v1_1)])
    by_cases c13 : v1_1 = (1 : Int32)
    · refine ogo (fun _ z_ => XS.icmpNo X0.here hx rfl (hb hby d1_13) rfl (teq c13).2 z_) ?_
      show OWay p e below G s₁ (mkF m 16 #[.val (.int p0), .val (.int v1_1)] [])
      refine ogo (fun _ z_ => XS.bipush X0.here hx rfl (hb hby d1_16) z_) ?_
      show OWay p e below G s₁ (mkF m 18 #[.val (.int p0), .val (.int v1_1)] [(.int (10 : Int32))])
      subst hG
      refine wRetN X0 hx (t := .char) hret hlk (by simp) (hb hby d1_18) (by decide) (by decide) eh0 ?_
      subst hv1_1
      exact ⟨(congrArg some (congrArg Value.int (show nar .char _ = pk p0 from by unfold pk; rw [if_neg c5, if_pos c13]; rfl))), N0, rfl⟩
    · refine ogo (fun _ z_ => XS.icmpYes X0.here hx rfl (pc0 := 13) (pc' := 19) rfl (hb hby d1_13) rfl (feq c13).2 (by decide) (by decide) z_) ?_
      show OWay p e below G s₁ (mkF m 19 #[.val (.int p0), .val (.int v1_1)] [])
      refine ogo (fun _ z_ => XS.iloadN X0.here hx rfl (hb hby d1_19) rfl z_) ?_
      show OWay p e below G s₁ (mkF m 20 #[.val (.int p0), .val (.int v1_1)] [(.int p0)])
      refine ogo (fun _ z_ => XS.iconst X0.here hx rfl (hb hby d1_20) z_) ?_
      show OWay p e below G s₁ (mkF m 21 #[.val (.int p0), .val (.int v1_1)] [(.int (2 : Int32)), (.int p0)])
      refine ogo (fun _ z_ => XS.iushr X0.here hx rfl (hb hby d1_21) rfl z_) ?_
      show OWay p e below G s₁ (mkF m 22 #[.val (.int p0), .val (.int v1_1)] [(.int ((p0.toUInt32 >>> ((2 : Int32) &&& 31).toUInt32).toInt32))])
      refine ogo (fun _ z_ => XS.sipush X0.here hx rfl (hb hby d1_22) z_) ?_
      show OWay p e below G s₁ (mkF m 25 #[.val (.int p0), .val (.int v1_1)] [(.int (255 : Int32)), (.int ((p0.toUInt32 >>> ((2 : Int32) &&& 31).toUInt32).toInt32))])
      refine ogo (fun _ z_ => XS.iand X0.here hx rfl (hb hby d1_25) rfl z_) ?_
      show OWay p e below G s₁ (mkF m 26 #[.val (.int p0), .val (.int v1_1)] [(.int (((p0.toUInt32 >>> ((2 : Int32) &&& 31).toUInt32).toInt32) &&& (255 : Int32)))])
      refine ogo (fun _ z_ => XS.i2c X0.here hx rfl (hb hby d1_26) rfl z_) ?_
      show OWay p e below G s₁ (mkF m 27 #[.val (.int p0), .val (.int v1_1)] [(.int ((((p0.toUInt32 >>> ((2 : Int32) &&& 31).toUInt32).toInt32) &&& (255 : Int32)).toUInt32.toUInt16.toUInt32.toInt32))])
      subst hG
      refine wRetN X0 hx (t := .char) hret hlk (by simp) (hb hby d1_27) (by decide) (by decide) eh0 ?_
      subst hv1_1
      exact ⟨(congrArg some (congrArg Value.int (show nar .char _ = pk p0 from by unfold pk; rw [if_neg c5, if_neg c13]; simp only [nar, i2c_mask]))), N0, rfl⟩
theorem pn_java_lang_Record : plainName "java/lang/Record" = true := by first | (simp [plainName, overriddenIn]; done) | decide +kernel
theorem d9_0 : decode jdk_30_method_1_code 0 = .ok (.aload_n 0, 1) := by decide +kernel
theorem d9_1 : decode jdk_30_method_1_code 1 = .ok (.invokespecial 1, 3) := by decide +kernel
theorem d9_4 : decode jdk_30_method_1_code 4 = .ok (.return_, 1) := by decide +kernel
def recinit_rm : Room := { frames := 1, cells := 0, slots := 0, locals := 12 }
def recinit_Q (Z : State) (a0 : Addr) (h0 : Heap) (n0 : Nat) (v : Option Value) (h : Heap) (L : List Loc) : Prop := (v = none) ∧ (Fr n0 L) ∧ (h = h0)
theorem recinit_ef (m : MethodId) (a0 : Addr) : entryFrame m #[(.ref a0)] 1 = mkF m 0 #[.val (.ref a0)] [] := by first | (simp [entryFrame, mkF, argsToLocals, Value.category]; done) | rfl
set_option maxRecDepth 65536 in
set_option maxHeartbeats 40000000 in
theorem recinit_c (l : Launch) (Z : State) (az : Array Value) (hw : ∀ d ∈ tables_1, d.before az Z = true) (ws : List Jvm.Cond) (a0 : Addr) (h0 : Heap) (n0 : Nat) (Z0 : n0 ≤ h0.size) :
    OCon l (⟨"java/lang/Record", "<init>", "()V"⟩ : MethodName) jdk_30_method_1_code 1 none ws recinit_rm Z #[(.ref a0)] h0 (recinit_Q Z a0 h0 n0) := by
  refine ocon (plainFor_of_name pn_java_lang_Record) ?_
  intro p e s m below meth c s₁ hx hby hml hown hnm hret hlk hZ X0 eh0
  have N0 := Fr.nil n0
  have K0 := Keep.refl h0 []
  refine ogoE (recinit_ef m a0) ?_
  generalize hG : (OEnd s below (recinit_Q Z a0 h0 n0) recinit_rm.cells recinit_rm.slots) = G
  show OWay p e below G s₁ (mkF m 0 #[.val (.ref a0)] [])
  refine ogo (fun _ z_ => XS.aloadN X0.here hx rfl (hb hby d9_0) rfl rfl z_) ?_
  show OWay p e below G s₁ (mkF m 1 #[.val (.ref a0)] [(.ref a0)])
  obtain ⟨T1, X1, eT1, st1⟩ := initO X0 hx hZ hown (hw _ (List.mem_of_getElem? (i := 46) rfl)) (hw _ (List.mem_of_getElem? (i := 17) rfl)) (hw _ (List.mem_of_getElem? (i := 18) rfl)) eh0 (g := (mkF m 1 #[.val (.ref a0)] [(.ref a0)])) rfl (by rw [hml]; rfl) rfl (hb hby d9_1) (by decide) (W := 0) (by show 2 * 0 + _ ≤ _; exact Nat.le_of_eq rfl) (by decide)
  refine ogo st1 ?_
  show OWay p e below G T1 (mkF m 4 #[.val (.ref a0)] [])
  subst hG
  refine wRetV X1 hx hret hlk (hb hby d9_4) (by decide) (by decide) eT1 ?_
  exact ⟨rfl, N0, rfl⟩
theorem pn_com_example_slotwright_slotwright_Place : plainName "com/example/slotwright/slotwright/Place" = true := by first | (simp [plainName, overriddenIn]; done) | decide +kernel
theorem d8_0 : decode prog_47_method_1_code 0 = .ok (.aload_n 0, 1) := by decide +kernel
theorem d8_1 : decode prog_47_method_1_code 1 = .ok (.invokespecial 1, 3) := by decide +kernel
theorem pd___V : parseMethodDescriptor "()V" = some ⟨[], none⟩ := by decide +kernel
theorem d8_4 : decode prog_47_method_1_code 4 = .ok (.aload_n 0, 1) := by decide +kernel
theorem d8_5 : decode prog_47_method_1_code 5 = .ok (.iload_n 1, 1) := by decide +kernel
theorem d8_6 : decode prog_47_method_1_code 6 = .ok (.putfield 7, 3) := by decide +kernel
theorem d8_9 : decode prog_47_method_1_code 9 = .ok (.aload_n 0, 1) := by decide +kernel
theorem d8_10 : decode prog_47_method_1_code 10 = .ok (.iload_n 2, 1) := by decide +kernel
theorem d8_11 : decode prog_47_method_1_code 11 = .ok (.putfield 13, 3) := by decide +kernel
theorem d8_14 : decode prog_47_method_1_code 14 = .ok (.return_, 1) := by decide +kernel
def ctor8_rm : Room := { frames := 2, cells := 0, slots := 0, locals := 24 }
def ctor8_Q (Z : State) (a0 : Addr) (p1 : Int32) (p2 : Int32) (h0 : Heap) (n0 : Nat) (v : Option Value) (h : Heap) (L : List Loc) : Prop := (v = none) ∧ (Fr n0 L) ∧ (Keep h0 h [a0]) ∧ (Fld Z h a0 "com/example/slotwright/slotwright/Place" "line" "I" (.int p1)) ∧ (Fld Z h a0 "com/example/slotwright/slotwright/Place" "column" "I" (.int p2))
theorem ctor8_ef (m : MethodId) (a0 : Addr) (p1 : Int32) (p2 : Int32) : entryFrame m #[(.ref a0), (.int p1), (.int p2)] 3 = mkF m 0 #[.val (.ref a0), .val (.int p1), .val (.int p2)] [] := by first | (simp [entryFrame, mkF, argsToLocals, Value.category]; done) | rfl
set_option maxRecDepth 65536 in
set_option maxHeartbeats 40000000 in
theorem ctor8_c (l : Launch) (Z : State) (az : Array Value) (hw : ∀ d ∈ tables_1, d.before az Z = true) (ws : List Jvm.Cond) (a0 : Addr) (p1 : Int32) (p2 : Int32) (h0 : Heap) (n0 : Nat) (Z0 : n0 ≤ h0.size) (hp0 : Exa Z h0 a0 "com/example/slotwright/slotwright/Place") (hp1 : n0 ≤ a0) (hp2 : Fld Z h0 a0 "com/example/slotwright/slotwright/Place" "line" "I" (.int (0 : Int32))) (hp3 : Fld Z h0 a0 "com/example/slotwright/slotwright/Place" "column" "I" (.int (0 : Int32))) :
    OCon l (⟨"com/example/slotwright/slotwright/Place", "<init>", "(II)V"⟩ : MethodName) prog_47_method_1_code 3 none ws ctor8_rm Z #[(.ref a0), (.int p1), (.int p2)] h0 (ctor8_Q Z a0 p1 p2 h0 n0) := by
  refine ocon (plainFor_of_name pn_com_example_slotwright_slotwright_Place) ?_
  intro p e s m below meth c s₁ hx hby hml hown hnm hret hlk hZ X0 eh0
  have N0 := Fr.nil n0
  have K0 := Keep.refl h0 [a0]
  refine ogoE (ctor8_ef m a0 p1 p2) ?_
  have g_a0 := hp1
  generalize hG : (OEnd s below (ctor8_Q Z a0 p1 p2 h0 n0) ctor8_rm.cells ctor8_rm.slots) = G
  show OWay p e below G s₁ (mkF m 0 #[.val (.ref a0), .val (.int p1), .val (.int p2)] [])
  refine ogo (fun _ z_ => XS.aloadN X0.here hx rfl (hb hby d8_0) rfl rfl z_) ?_
  show OWay p e below G s₁ (mkF m 1 #[.val (.ref a0), .val (.int p1), .val (.int p2)] [(.ref a0)])
  obtain ⟨_, T1, L1, X1, hQ1, st1⟩ := wInit X0 hx hZ (y := (⟨"java/lang/Record", "<init>", "()V"⟩ : MethodName)) rfl hown (hw _ (List.mem_of_getElem? (i := 41) rfl)) (hw _ (List.mem_of_getElem? (i := 42) rfl)) (hw _ (List.mem_of_getElem? (i := 44) rfl)) (hw _ (List.mem_of_getElem? (i := 45) rfl)) (by decide) (recinit_c l Z az hw [] a0 h0 n0 Z0) 0 (by decide) (by decide) (g := (mkF m 1 #[.val (.ref a0), .val (.int p1), .val (.int p2)] [(.ref a0)])) rfl (by rw [hml]; rfl) (a := a0) (argsL := []) (rest := []) (lenOf pd___V rfl) rfl (by show 2 * 0 + _ ≤ _; exact Nat.le_of_eq rfl) (hb hby d8_1) rfl eh0 (by decide) (by decide)
  obtain ⟨rfl, N1q, eq1⟩ := hQ1
  have N1 := Fr.app N0 N1q
  refine ogoS st1 ?_
  show OWay p e below G T1 (mkF m 4 #[.val (.ref a0), .val (.int p1), .val (.int p2)] [])
  refine ogo (fun _ z_ => XS.aloadN X1.here hx rfl (hb hby d8_4) rfl rfl z_) ?_
  show OWay p e below G T1 (mkF m 5 #[.val (.ref a0), .val (.int p1), .val (.int p2)] [(.ref a0)])
  refine ogo (fun _ z_ => XS.iloadN X1.here hx rfl (hb hby d8_5) rfl z_) ?_
  show OWay p e below G T1 (mkF m 6 #[.val (.ref a0), .val (.int p1), .val (.int p2)] [(.int p1), (.ref a0)])
  obtain ⟨T2, h2, X2, eT2, W2, st2⟩ := putF X1 hx hZ hown (host := "") (Or.inl (hw _ (List.mem_of_getElem? (i := 47) rfl))) Via.refl eq1 hp2 hp0 (Or.inr ⟨(hw _ (List.mem_of_getElem? (i := 48) rfl)), rfl, hnm⟩) (hw _ (List.mem_of_getElem? (i := 36) rfl)) (ty := .int) (by decide) rfl rfl (g := (mkF m 6 #[.val (.ref a0), .val (.int p1), .val (.int p2)] [(.int p1), (.ref a0)])) rfl rfl (hb hby d8_6)
  have K3 : Keep h0 h2 [a0] := K0.wr W2 (Or.inl (List.mem_of_getElem? (i := 0) rfl))
  have Fw2 : Fld Z h2 a0 "com/example/slotwright/slotwright/Place" "line" "I" (.int p1) := hp2.same W2
  have N2 := Fr.snoc X2 N1 g_a0
  refine ogo st2 ?_
  show OWay p e below G T2 (mkF m 9 #[.val (.ref a0), .val (.int p1), .val (.int p2)] [])
  refine ogo (fun _ z_ => XS.aloadN X2.here hx rfl (hb hby d8_9) rfl rfl z_) ?_
  show OWay p e below G T2 (mkF m 10 #[.val (.ref a0), .val (.int p1), .val (.int p2)] [(.ref a0)])
  refine ogo (fun _ z_ => XS.iloadN X2.here hx rfl (hb hby d8_10) rfl z_) ?_
  show OWay p e below G T2 (mkF m 11 #[.val (.ref a0), .val (.int p1), .val (.int p2)] [(.int p2), (.ref a0)])
  have F4 : Exa Z h2 a0 "com/example/slotwright/slotwright/Place" := (hp0.wr W2)
  have F5 : Fld Z h2 a0 "com/example/slotwright/slotwright/Place" "column" "I" (.int (0 : Int32)) := (hp3.other W2 (Or.inr (slot_ne (Or.inr (hw _ (List.mem_of_getElem? (i := 50) rfl))) (Or.inr (hw _ (List.mem_of_getElem? (i := 48) rfl))) (by decide) (t := .int) (t' := .int) (by decide) (by decide))))
  obtain ⟨T6, h6, X6, eT6, W6, st6⟩ := putF X2 hx hZ hown (host := "") (Or.inl (hw _ (List.mem_of_getElem? (i := 49) rfl))) Via.refl eT2 F5 F4 (Or.inr ⟨(hw _ (List.mem_of_getElem? (i := 50) rfl)), rfl, hnm⟩) (hw _ (List.mem_of_getElem? (i := 36) rfl)) (ty := .int) (by decide) rfl rfl (g := (mkF m 11 #[.val (.ref a0), .val (.int p1), .val (.int p2)] [(.int p2), (.ref a0)])) rfl rfl (hb hby d8_11)
  have K7 : Keep h0 h6 [a0] := K3.wr W6 (Or.inl (List.mem_of_getElem? (i := 0) rfl))
  have Fw6 : Fld Z h6 a0 "com/example/slotwright/slotwright/Place" "column" "I" (.int p2) := F5.same W6
  have N6 := Fr.snoc X6 N2 g_a0
  refine ogo st6 ?_
  show OWay p e below G T6 (mkF m 14 #[.val (.ref a0), .val (.int p1), .val (.int p2)] [])
  subst hG
  refine wRetV X6 hx hret hlk (hb hby d8_14) (by decide) (by decide) eT6 ?_
  exact ⟨rfl, N6, K7, (Fw2.other W6 (Or.inr (slot_ne (Or.inr (hw _ (List.mem_of_getElem? (i := 48) rfl))) (Or.inr (hw _ (List.mem_of_getElem? (i := 50) rfl))) (by decide) (t := .int) (t' := .int) (by decide) (by decide)))), Fw6⟩
theorem d10_0 : decode prog_47_method_4_code 0 = .ok (.aload_n 0, 1) := by decide +kernel
theorem d10_1 : decode prog_47_method_4_code 1 = .ok (.getfield 7, 3) := by decide +kernel
theorem d10_4 : decode prog_47_method_4_code 4 = .ok (.ifCond .le 7, 3) := by decide +kernel
theorem d10_7 : decode prog_47_method_4_code 7 = .ok (.iconst 1, 1) := by decide +kernel
theorem d10_8 : decode prog_47_method_4_code 8 = .ok (.goto 4, 3) := by decide +kernel
theorem d10_12 : decode prog_47_method_4_code 12 = .ok (.ireturn, 1) := by decide +kernel
theorem d10_11 : decode prog_47_method_4_code 11 = .ok (.iconst 0, 1) := by decide +kernel
def kn_b_rm : Room := { frames := 0, cells := 0, slots := 0, locals := 0 }
def kn_b_Q (Z : State) (a0 : Addr) (w : Int32) (h0 : Heap) (n0 : Nat) (v : Option Value) (h : Heap) (L : List Loc) : Prop := (v = some (.int (kn w))) ∧ (Fr n0 L) ∧ (h = h0)
theorem kn_b_ef (m : MethodId) (a0 : Addr) : entryFrame m #[(.ref a0)] 1 = mkF m 0 #[.val (.ref a0)] [] := by first | (simp [entryFrame, mkF, argsToLocals, Value.category]; done) | rfl
set_option maxRecDepth 65536 in
set_option maxHeartbeats 40000000 in
theorem kn_b_c (l : Launch) (Z : State) (az : Array Value) (hw : ∀ d ∈ tables_1, d.before az Z = true) (ws : List Jvm.Cond) (a0 : Addr) (w : Int32) (h0 : Heap) (n0 : Nat) (Z0 : n0 ≤ h0.size) (hp0 : Fld Z h0 a0 "com/example/slotwright/slotwright/Place" "line" "I" (.int w)) :
    OCon l (⟨"com/example/slotwright/slotwright/Place", "known", "()Z"⟩ : MethodName) prog_47_method_4_code 1 (some .boolean) ws kn_b_rm Z #[(.ref a0)] h0 (kn_b_Q Z a0 w h0 n0) := by
  refine ocon (plainFor_of_name pn_com_example_slotwright_slotwright_Place) ?_
  intro p e s m below meth c s₁ hx hby hml hown hnm hret hlk hZ X0 eh0
  have N0 := Fr.nil n0
  have K0 := Keep.refl h0 []
  refine ogoE (kn_b_ef m a0) ?_
  generalize hG : (OEnd s below (kn_b_Q Z a0 w h0 n0) kn_b_rm.cells kn_b_rm.slots) = G
  show OWay p e below G s₁ (mkF m 0 #[.val (.ref a0)] [])
  refine ogo (fun _ z_ => XS.aloadN X0.here hx rfl (hb hby d10_0) rfl rfl z_) ?_
  show OWay p e below G s₁ (mkF m 1 #[.val (.ref a0)] [(.ref a0)])
  obtain ⟨T1, X1, eT1, st1⟩ := getF X0 hx hZ hown (host := "") (Or.inl (hw _ (List.mem_of_getElem? (i := 47) rfl))) Via.refl eh0 hp0 (g := (mkF m 1 #[.val (.ref a0)] [(.ref a0)])) rfl rfl (hb hby d10_1)
  refine ogo st1 ?_
  show OWay p e below G T1 (mkF m 4 #[.val (.ref a0)] [(.int w)])
  by_cases c4 : (0 : Int32) < w
  · refine ogo (fun _ z_ => XS.ifNo X1.here hx rfl (hb hby d10_4) rfl ((if0 _ _).trans (tlt c4).2.2.2) z_) ?_
    show OWay p e below G T1 (mkF m 7 #[.val (.ref a0)] [])
    refine ogo (fun _ z_ => XS.iconst X1.here hx rfl (hb hby d10_7) z_) ?_
    show OWay p e below G T1 (mkF m 8 #[.val (.ref a0)] [(.int (1 : Int32))])
    refine ogo (fun _ z_ => XS.goto X1.here hx rfl (pc0 := 8) (pc' := 12) rfl (hb hby d10_8) (by decide) (by decide) z_) ?_
    show OWay p e below G T1 (mkF m 12 #[.val (.ref a0)] [(.int (1 : Int32))])
    subst hG
    refine wRetN X1 hx (t := .boolean) hret hlk (by simp) (hb hby d10_12) (by decide) (by decide) eT1 ?_
    exact ⟨(congrArg some (congrArg Value.int (show _ = kn w from by unfold kn; rw [if_pos c4]; rfl))), N0, rfl⟩
  · refine ogo (fun _ z_ => XS.ifYes X1.here hx rfl (pc0 := 4) (pc' := 11) rfl (hb hby d10_4) rfl ((if0 _ _).trans (flt c4).2.2.2) (by decide) (by decide) z_) ?_
    show OWay p e below G T1 (mkF m 11 #[.val (.ref a0)] [])
    refine ogo (fun _ z_ => XS.iconst X1.here hx rfl (hb hby d10_11) z_) ?_
    show OWay p e below G T1 (mkF m 12 #[.val (.ref a0)] [(.int (0 : Int32))])
    subst hG
    refine wRetN X1 hx (t := .boolean) hret hlk (by simp) (hb hby d10_12) (by decide) (by decide) eT1 ?_
    exact ⟨(congrArg some (congrArg Value.int (show _ = kn w from by unfold kn; rw [if_neg c4]; rfl))), N0, rfl⟩
theorem d11_0 : decode prog_47_method_3_code 0 = .ok (.iconst 1, 1) := by decide +kernel
theorem d11_1 : decode prog_47_method_3_code 1 = .ok (.istore_n 2, 1) := by decide +kernel
theorem d11_2 : decode prog_47_method_3_code 2 = .ok (.iconst 0, 1) := by decide +kernel
theorem d11_3 : decode prog_47_method_3_code 3 = .ok (.istore_n 3, 1) := by decide +kernel
theorem d11_4 : decode prog_47_method_3_code 4 = .ok (.iconst 0, 1) := by decide +kernel
theorem d11_5 : decode prog_47_method_3_code 5 = .ok (.istore 4, 2) := by decide +kernel
theorem d11_7 : decode prog_47_method_3_code 7 = .ok (.iload 4, 2) := by decide +kernel
theorem d11_9 : decode prog_47_method_3_code 9 = .ok (.iload_n 1, 1) := by decide +kernel
theorem d11_10 : decode prog_47_method_3_code 10 = .ok (.if_icmp .ge 76, 3) := by decide +kernel
theorem d11_86 : decode prog_47_method_3_code 86 = .ok (.new 8, 3) := by decide +kernel
theorem d11_89 : decode prog_47_method_3_code 89 = .ok (.dup, 1) := by decide +kernel
theorem d11_90 : decode prog_47_method_3_code 90 = .ok (.iload_n 2, 1) := by decide +kernel
theorem d11_91 : decode prog_47_method_3_code 91 = .ok (.iload_n 1, 1) := by decide +kernel
theorem d11_92 : decode prog_47_method_3_code 92 = .ok (.iload_n 3, 1) := by decide +kernel
theorem d11_93 : decode prog_47_method_3_code 93 = .ok (.isub, 1) := by decide +kernel
theorem d11_94 : decode prog_47_method_3_code 94 = .ok (.iconst 1, 1) := by decide +kernel
theorem d11_95 : decode prog_47_method_3_code 95 = .ok (.iadd, 1) := by decide +kernel
theorem d11_96 : decode prog_47_method_3_code 96 = .ok (.invokespecial 29, 3) := by decide +kernel
theorem pd__II_V : parseMethodDescriptor "(II)V" = some ⟨[.int, .int], none⟩ := by decide +kernel
theorem d11_99 : decode prog_47_method_3_code 99 = .ok (.areturn, 1) := by decide +kernel
theorem d11_13 : decode prog_47_method_3_code 13 = .ok (.aload_n 0, 1) := by decide +kernel
theorem d11_14 : decode prog_47_method_3_code 14 = .ok (.iload 4, 2) := by decide +kernel
theorem d11_16 : decode prog_47_method_3_code 16 = .ok (.invokeinterface 32 2, 5) := by decide +kernel
theorem pd__I_C : parseMethodDescriptor "(I)C" = some ⟨[.int], some .char⟩ := by decide +kernel
theorem d11_21 : decode prog_47_method_3_code 21 = .ok (.istore 5, 2) := by decide +kernel
theorem d11_23 : decode prog_47_method_3_code 23 = .ok (.iload 5, 2) := by decide +kernel
theorem d11_25 : decode prog_47_method_3_code 25 = .ok (.bipush 10, 2) := by decide +kernel
theorem d11_27 : decode prog_47_method_3_code 27 = .ok (.if_icmp .ne 31, 3) := by decide +kernel
theorem d11_30 : decode prog_47_method_3_code 30 = .ok (.iload 4, 2) := by decide +kernel
theorem d11_32 : decode prog_47_method_3_code 32 = .ok (.ifCond .le 26, 3) := by decide +kernel
theorem d11_35 : decode prog_47_method_3_code 35 = .ok (.aload_n 0, 1) := by decide +kernel
theorem d11_36 : decode prog_47_method_3_code 36 = .ok (.iload 4, 2) := by decide +kernel
theorem d11_38 : decode prog_47_method_3_code 38 = .ok (.iconst 1, 1) := by decide +kernel
theorem d11_39 : decode prog_47_method_3_code 39 = .ok (.isub, 1) := by decide +kernel
theorem d11_40 : decode prog_47_method_3_code 40 = .ok (.invokeinterface 32 2, 5) := by decide +kernel
theorem d11_45 : decode prog_47_method_3_code 45 = .ok (.bipush 13, 2) := by decide +kernel
theorem d11_47 : decode prog_47_method_3_code 47 = .ok (.if_icmp .ne 11, 3) := by decide +kernel
theorem d11_50 : decode prog_47_method_3_code 50 = .ok (.iload 4, 2) := by decide +kernel
theorem d11_52 : decode prog_47_method_3_code 52 = .ok (.iconst 1, 1) := by decide +kernel
theorem d11_53 : decode prog_47_method_3_code 53 = .ok (.iadd, 1) := by decide +kernel
theorem d11_54 : decode prog_47_method_3_code 54 = .ok (.istore_n 3, 1) := by decide +kernel
theorem d11_55 : decode prog_47_method_3_code 55 = .ok (.goto 25, 3) := by decide +kernel
theorem d11_80 : decode prog_47_method_3_code 80 = .ok (.iinc 4 1, 3) := by decide +kernel
theorem d11_83 : decode prog_47_method_3_code 83 = .ok (.goto (-76), 3) := by decide +kernel
theorem d11_58 : decode prog_47_method_3_code 58 = .ok (.iload 5, 2) := by decide +kernel
theorem d11_60 : decode prog_47_method_3_code 60 = .ok (.bipush 13, 2) := by decide +kernel
theorem d11_62 : decode prog_47_method_3_code 62 = .ok (.if_icmp .eq 10, 3) := by decide +kernel
theorem d11_72 : decode prog_47_method_3_code 72 = .ok (.iinc 2 1, 3) := by decide +kernel
theorem d11_75 : decode prog_47_method_3_code 75 = .ok (.iload 4, 2) := by decide +kernel
theorem d11_77 : decode prog_47_method_3_code 77 = .ok (.iconst 1, 1) := by decide +kernel
theorem d11_78 : decode prog_47_method_3_code 78 = .ok (.iadd, 1) := by decide +kernel
theorem d11_79 : decode prog_47_method_3_code 79 = .ok (.istore_n 3, 1) := by decide +kernel
theorem d11_65 : decode prog_47_method_3_code 65 = .ok (.iload 5, 2) := by decide +kernel
theorem d11_67 : decode prog_47_method_3_code 67 = .ok (.bipush 10, 2) := by decide +kernel
theorem d11_69 : decode prog_47_method_3_code 69 = .ok (.if_icmp .ne 11, 3) := by decide +kernel
def in_b_rm : Room := { frames := 4, cells := 1, slots := 2, locals := 53 }
def in_b_Q (Z : State) (a0 : Addr) (p1 : Int32) (t : Addr) (kb : ClassId) (c0 : Int32) (c1 : Int32) (c2 : Int32) (G1 : Int32) (fm : Value) (h0 : Heap) (n0 : Nat) (v : Option Value) (h : Heap) (L : List Loc) : Prop := ∃ b : Addr, ∃ ln : Int32, (v = some (.ref b)) ∧ (Fr n0 L) ∧ (Keep h0 h []) ∧ (n0 ≤ b) ∧ (h0.size ≤ b) ∧ (Exa Z h b "com/example/slotwright/slotwright/Place") ∧ (Fld Z h b "com/example/slotwright/slotwright/Place" "line" "I" (.int ln)) ∧ (1 ≤ ln.toInt)
theorem in_b_ef (m : MethodId) (a0 : Addr) (p1 : Int32) : entryFrame m #[(.ref a0), (.int p1)] 6 = mkF m 0 #[.val (.ref a0), .val (.int p1), .unset, .unset, .unset, .unset] [] := by first | (simp [entryFrame, mkF, argsToLocals, Value.category]; done) | rfl
set_option maxRecDepth 65536 in
set_option maxHeartbeats 40000000 in
theorem in_b_c (l : Launch) (Z : State) (az : Array Value) (hw : ∀ d ∈ tables_1, d.before az Z = true) (ws : List Jvm.Cond) (a0 : Addr) (p1 : Int32) (t : Addr) (kb : ClassId) (c0 : Int32) (c1 : Int32) (c2 : Int32) (G1 : Int32) (fm : Value) (h0 : Heap) (n0 : Nat) (Z0 : n0 ≤ h0.size) (hp0 : Exa Z h0 a0 "java/lang/String") (hp1 : Fld Z h0 a0 "java/lang/String" "value" "[B" (.ref t)) (hp2 : Fld Z h0 a0 "java/lang/String" "coder" "B" (.int (0 : Int32))) (hp3 : Arv Z h0 t kb .byte (3 : Int32) [(.int (c0).toInt8.toInt32), (.int (c1).toInt8.toInt32), (.int (c2).toInt8.toInt32)] (.int (0 : Int32))) (hp4 : Sta Z Z.heap "java/lang/String" "COMPACT_STRINGS" "Z" (.int G1)) (hp5 : Sta Z Z.heap "jdk/internal/util/Preconditions" "SIOOBE_FORMATTER" "Ljava/util/function/BiFunction;" fm) (hp6 : Old Z n0 h0) (hcp : ¬ (G1 = (0 : Int32))) (hfm : fm.isRef = true) (hch : ∀ c ∈ [c0, c1, c2], ¬ c < 0 ∧ ¬ (255 : Int32) < c) (hix : 0 ≤ p1.toInt ∧ p1.toInt ≤ 3) :
    OCon l (⟨"com/example/slotwright/slotwright/Place", "in", "(Ljava/lang/CharSequence;I)Lcom/example/slotwright/slotwright/Place;"⟩ : MethodName) prog_47_method_3_code 6 (some (.object "com/example/slotwright/slotwright/Place")) ws in_b_rm Z #[(.ref a0), (.int p1)] h0 (in_b_Q Z a0 p1 t kb c0 c1 c2 G1 fm h0 n0) := by
  refine ocon (plainFor_of_name pn_com_example_slotwright_slotwright_Place) ?_
  intro p e s m below meth c s₁ hx hby hml hown hnm hret hlk hZ X0 eh0
  have N0 := Fr.nil n0
  have K0 := Keep.refl h0 []
  refine ogoE (in_b_ef m a0 p1) ?_
  generalize hG : (OEnd s below (in_b_Q Z a0 p1 t kb c0 c1 c2 G1 fm h0 n0) in_b_rm.cells in_b_rm.slots) = G
  show OWay p e below G s₁ (mkF m 0 #[.val (.ref a0), .val (.int p1), .unset, .unset, .unset, .unset] [])
  refine ogo (fun _ z_ => XS.iconst X0.here hx rfl (hb hby d11_0) z_) ?_
  show OWay p e below G s₁ (mkF m 1 #[.val (.ref a0), .val (.int p1), .unset, .unset, .unset, .unset] [(.int (1 : Int32))])
  refine ogo (fun _ z_ => XS.istoreN X0.here hx rfl (hb hby d11_1) rfl (l' := #[.val (.ref a0), .val (.int p1), .val (.int (1 : Int32)), .unset, .unset, .unset]) rfl z_) ?_
  show OWay p e below G s₁ (mkF m 2 #[.val (.ref a0), .val (.int p1), .val (.int (1 : Int32)), .unset, .unset, .unset] [])
  refine ogo (fun _ z_ => XS.iconst X0.here hx rfl (hb hby d11_2) z_) ?_
  show OWay p e below G s₁ (mkF m 3 #[.val (.ref a0), .val (.int p1), .val (.int (1 : Int32)), .unset, .unset, .unset] [(.int (0 : Int32))])
  refine ogo (fun _ z_ => XS.istoreN X0.here hx rfl (hb hby d11_3) rfl (l' := #[.val (.ref a0), .val (.int p1), .val (.int (1 : Int32)), .val (.int (0 : Int32)), .unset, .unset]) rfl z_) ?_
  show OWay p e below G s₁ (mkF m 4 #[.val (.ref a0), .val (.int p1), .val (.int (1 : Int32)), .val (.int (0 : Int32)), .unset, .unset] [])
  refine ogo (fun _ z_ => XS.iconst X0.here hx rfl (hb hby d11_4) z_) ?_
  show OWay p e below G s₁ (mkF m 5 #[.val (.ref a0), .val (.int p1), .val (.int (1 : Int32)), .val (.int (0 : Int32)), .unset, .unset] [(.int (0 : Int32))])
  refine ogo (fun _ z_ => XS.istore X0.here hx rfl (hb hby d11_5) rfl (l' := #[.val (.ref a0), .val (.int p1), .val (.int (1 : Int32)), .val (.int (0 : Int32)), .val (.int (0 : Int32)), .unset]) rfl z_) ?_
  show OWay p e below G s₁ (mkF m 7 #[.val (.ref a0), .val (.int p1), .val (.int (1 : Int32)), .val (.int (0 : Int32)), .val (.int (0 : Int32)), .unset] [])
  suffices LOOP : ∀ (n : Nat) (TL : State) (loL : List Loc), Stand p l e in_b_rm s m #[.ref a0, .int p1] below meth c TL loL 0 0 → TL.heap = h0 → Fr n0 loL → ∀ (ln cs i : Int32) (z5 : Slot), One z5 → 0 ≤ i.toInt → i.toInt + n = p1.toInt → 1 ≤ ln.toInt → ln.toInt ≤ 1 + i.toInt → OWay p e below G TL (mkF m 7 #[.val (.ref a0), .val (.int p1), .val (.int ln), .val (.int cs), .val (.int i), z5] []) from LOOP p1.toInt.toNat s₁ _ X0 eh0 N0 1 0 0 .unset One.u (by decide) (by have e0 : (0 : Int32).toInt = 0 := (by decide); omega) (by decide) (by decide)
  intro n
  induction n with
  | zero =>
    intro TL loL XL eL NL ln cs i z5 hz5 u0 u1 u2 u3
    have c10 : ¬ i < p1 := by rw [Int32.lt_iff_toInt_lt]; omega
    show OWay p e below G TL (mkF m 7 #[.val (.ref a0), .val (.int p1), .val (.int ln), .val (.int cs), .val (.int i), z5] [])
    refine ogo (fun _ z_ => XS.iload XL.here hx rfl (hb hby d11_7) rfl z_) ?_
    show OWay p e below G TL (mkF m 9 #[.val (.ref a0), .val (.int p1), .val (.int ln), .val (.int cs), .val (.int i), z5] [(.int i)])
    refine ogo (fun _ z_ => XS.iloadN XL.here hx rfl (hb hby d11_9) rfl z_) ?_
    show OWay p e below G TL (mkF m 10 #[.val (.ref a0), .val (.int p1), .val (.int ln), .val (.int cs), .val (.int i), z5] [(.int p1), (.int i)])
    refine ogo (fun _ z_ => XS.icmpYes XL.here hx rfl (pc0 := 10) (pc' := 86) rfl (hb hby d11_10) rfl (flt c10).2.1 (by decide) (by decide) z_) ?_
    show OWay p e below G TL (mkF m 86 #[.val (.ref a0), .val (.int p1), .val (.int ln), .val (.int cs), .val (.int i), z5] [])
    obtain ⟨T1, h1, X1, eT1, E1, A1, D1, -, st1⟩ := newO XL hx hZ hown (hw _ (List.mem_of_getElem? (i := 87) rfl)) (hw _ (List.mem_of_getElem? (i := 36) rfl)) (hw _ (List.mem_of_getElem? (i := 37) rfl)) eL (g := (mkF m 86 #[.val (.ref a0), .val (.int p1), .val (.int ln), .val (.int cs), .val (.int i), z5] [])) rfl (hb hby d11_86) (by decide) (by decide)
    obtain ⟨b1, g1⟩ : ∃ z, z = h0.size := ⟨_, rfl⟩
    rw [← g1] at A1 D1 st1
    have g_b1 : n0 ≤ b1 := Nat.le_trans Z0 (Nat.le_of_eq g1.symm)
    have sz_b1 : h0.size ≤ b1 := Nat.le_trans K0.1 (Nat.le_of_eq g1.symm)
    have K2 : Keep h0 h1 [] := K0.ext E1
    have F_line_b1 : Fld Z h1 b1 "com/example/slotwright/slotwright/Place" "line" "I" (.int (0 : Int32)) := D1 (Or.inr (hw _ (List.mem_of_getElem? (i := 48) rfl))) (ty := .int) (by decide)
    have F_column_b1 : Fld Z h1 b1 "com/example/slotwright/slotwright/Place" "column" "I" (.int (0 : Int32)) := D1 (Or.inr (hw _ (List.mem_of_getElem? (i := 50) rfl))) (ty := .int) (by decide)
    refine ogo st1 ?_
    show OWay p e below G T1 (mkF m 89 #[.val (.ref a0), .val (.int p1), .val (.int ln), .val (.int cs), .val (.int i), z5] [(.ref b1)])
    refine ogo (fun _ z_ => XS.dup X1.here hx rfl (hb hby d11_89) rfl rfl z_) ?_
    show OWay p e below G T1 (mkF m 90 #[.val (.ref a0), .val (.int p1), .val (.int ln), .val (.int cs), .val (.int i), z5] [(.ref b1), (.ref b1)])
    refine ogo (fun _ z_ => XS.iloadN X1.here hx rfl (hb hby d11_90) rfl z_) ?_
    show OWay p e below G T1 (mkF m 91 #[.val (.ref a0), .val (.int p1), .val (.int ln), .val (.int cs), .val (.int i), z5] [(.int ln), (.ref b1), (.ref b1)])
    refine ogo (fun _ z_ => XS.iloadN X1.here hx rfl (hb hby d11_91) rfl z_) ?_
    show OWay p e below G T1 (mkF m 92 #[.val (.ref a0), .val (.int p1), .val (.int ln), .val (.int cs), .val (.int i), z5] [(.int p1), (.int ln), (.ref b1), (.ref b1)])
    refine ogo (fun _ z_ => XS.iloadN X1.here hx rfl (hb hby d11_92) rfl z_) ?_
    show OWay p e below G T1 (mkF m 93 #[.val (.ref a0), .val (.int p1), .val (.int ln), .val (.int cs), .val (.int i), z5] [(.int cs), (.int p1), (.int ln), (.ref b1), (.ref b1)])
    refine ogo (fun _ z_ => XS.isub X1.here hx rfl (hb hby d11_93) rfl z_) ?_
    show OWay p e below G T1 (mkF m 94 #[.val (.ref a0), .val (.int p1), .val (.int ln), .val (.int cs), .val (.int i), z5] [(.int (p1 - cs)), (.int ln), (.ref b1), (.ref b1)])
    refine ogo (fun _ z_ => XS.iconst X1.here hx rfl (hb hby d11_94) z_) ?_
    show OWay p e below G T1 (mkF m 95 #[.val (.ref a0), .val (.int p1), .val (.int ln), .val (.int cs), .val (.int i), z5] [(.int (1 : Int32)), (.int (p1 - cs)), (.int ln), (.ref b1), (.ref b1)])
    refine ogo (fun _ z_ => XS.iadd X1.here hx rfl (hb hby d11_95) rfl z_) ?_
    show OWay p e below G T1 (mkF m 96 #[.val (.ref a0), .val (.int p1), .val (.int ln), .val (.int cs), .val (.int i), z5] [(.int ((p1 - cs) + (1 : Int32))), (.int ln), (.ref b1), (.ref b1)])
    obtain ⟨_, T3, L3, X3, hQ3, st3⟩ := wInit X1 hx hZ (y := (⟨"com/example/slotwright/slotwright/Place", "<init>", "(II)V"⟩ : MethodName)) rfl hown (hw _ (List.mem_of_getElem? (i := 88) rfl)) (hw _ (List.mem_of_getElem? (i := 39) rfl)) (hw _ (List.mem_of_getElem? (i := 37) rfl)) (hw _ (List.mem_of_getElem? (i := 40) rfl)) (by decide) (ctor8_c l Z az hw [] b1 ln ((p1 - cs) + (1 : Int32)) h1 n0 (Nat.le_trans Z0 E1.1) A1 g_b1 F_line_b1 F_column_b1) 1 (by decide) (by decide) (g := (mkF m 96 #[.val (.ref a0), .val (.int p1), .val (.int ln), .val (.int cs), .val (.int i), z5] [(.int ((p1 - cs) + (1 : Int32))), (.int ln), (.ref b1), (.ref b1)])) rfl (by rw [hml]; rfl) (a := b1) (argsL := [(.int ln), (.int ((p1 - cs) + (1 : Int32)))]) (rest := [(.ref b1)]) (lenOf pd__II_V rfl) rfl (by show 2 * 0 + _ ≤ _; exact Nat.le_of_eq rfl) (hb hby d11_96) rfl eT1 (by decide) (by decide)
    obtain ⟨rfl, N3q, Kq3, P4, P5⟩ := hQ3
    have N3 := Fr.app NL N3q
    have K6 : Keep h0 T3.heap [] := K2.trans Kq3 (allS (Or.inr sz_b1) all0)
    refine ogoS st3 ?_
    show OWay p e below G T3 (mkF m 99 #[.val (.ref a0), .val (.int p1), .val (.int ln), .val (.int cs), .val (.int i), z5] [(.ref b1)])
    subst hG
    refine wRet X3 hx hret hlk rfl (Or.inr (Or.inr (Or.inr (Or.inr ⟨rfl, rfl, rfl⟩)))) (hb hby d11_99) (by decide) (by decide) rfl ?_
    exact ⟨b1, ln, rfl, N3, K6, g_b1, sz_b1, (A1.keep Kq3), P4, u2⟩
  | succ n ih =>
    intro TL loL XL eL NL ln cs i z5 hz5 u0 u1 u2 u3
    have c10 : i < p1 := by rw [Int32.lt_iff_toInt_lt]; omega
    show OWay p e below G TL (mkF m 7 #[.val (.ref a0), .val (.int p1), .val (.int ln), .val (.int cs), .val (.int i), z5] [])
    refine ogo (fun _ z_ => XS.iload XL.here hx rfl (hb hby d11_7) rfl z_) ?_
    show OWay p e below G TL (mkF m 9 #[.val (.ref a0), .val (.int p1), .val (.int ln), .val (.int cs), .val (.int i), z5] [(.int i)])
    refine ogo (fun _ z_ => XS.iloadN XL.here hx rfl (hb hby d11_9) rfl z_) ?_
    show OWay p e below G TL (mkF m 10 #[.val (.ref a0), .val (.int p1), .val (.int ln), .val (.int cs), .val (.int i), z5] [(.int p1), (.int i)])
    refine ogo (fun _ z_ => XS.icmpNo XL.here hx rfl (hb hby d11_10) rfl (tlt c10).2.1 z_) ?_
    show OWay p e below G TL (mkF m 13 #[.val (.ref a0), .val (.int p1), .val (.int ln), .val (.int cs), .val (.int i), z5] [])
    refine ogo (fun _ z_ => XS.aloadN XL.here hx rfl (hb hby d11_13) rfl rfl z_) ?_
    show OWay p e below G TL (mkF m 14 #[.val (.ref a0), .val (.int p1), .val (.int ln), .val (.int cs), .val (.int i), z5] [(.ref a0)])
    refine ogo (fun _ z_ => XS.iload XL.here hx rfl (hb hby d11_14) rfl z_) ?_
    show OWay p e below G TL (mkF m 16 #[.val (.ref a0), .val (.int p1), .val (.int ln), .val (.int cs), .val (.int i), z5] [(.int i), (.ref a0)])
    have hj7 : 0 ≤ (i).toInt ∧ (i).toInt < 3 := by
      have e0 : (0 : Int32).toInt = 0 := by decide
      omega
    have hwc : ∀ d ∈ StrChars.Road.wordsChN, d.before az Z = true := fun d hd => hw d ((by decide +kernel : ∀ d ∈ StrChars.Road.wordsChN, d ∈ tables_1) d hd)
    obtain ⟨cq7, kq7, q7a, q7b, q7c⟩ := isOf hZ eL hp0
    obtain ⟨_, _, ⟨T7, L7, k7, n7⟩, -, X7, ⟨Lc7, hQ7, l7, y7, z7⟩, st7⟩ := XL.interfaceBack hx (xi := (⟨"java/lang/CharSequence", "charAt", "(I)C"⟩ : MethodName)) (y := (⟨"java/lang/String", "charAt", "(I)C"⟩ : MethodName)) hown (mvT hZ (hw _ (List.mem_of_getElem? (i := 61) rfl))) (mvT hZ (hw _ (List.mem_of_getElem? (i := 62) rfl))) (mvT hZ (hw _ (List.mem_of_getElem? (i := 63) rfl))) (mvT hZ (hw _ (List.mem_of_getElem? (i := 64) rfl))) (mvT hZ (hw _ (List.mem_of_getElem? (i := 65) rfl))) (mvT hZ (hw _ (List.mem_of_getElem? (i := 66) rfl))) (mvT hZ (hw _ (List.mem_of_getElem? (i := 67) rfl))) (mvT hZ (hw _ (List.mem_of_getElem? (i := 68) rfl))) (by decide) (StrChars.Road.chN (W := 0) hZ hwc (kI := 4) (hw _ (List.mem_of_getElem? (i := 7) rfl)) (cs := [c0, c1, c2]) (i := (i).toInt.toNat) (j := i) hp0 hp1 hp2 hp3 (StrChars.Road.codOf rfl (fun c hc => (hch c hc).2)) (fun c hc => ⟨(hch c hc).1, fun q => (hch c hc).2 (Int32.lt_trans (by decide) q)⟩) (hp4.ext hp6.2) hcp (hp5.ext hp6.2) hfm (by show 3 ≤ 4000; decide) (by show _ < 3; omega) (own_back _ hj7.1) (by decide) (by decide)) q7a q7b q7c (g := (mkF m 16 #[.val (.ref a0), .val (.int p1), .val (.int ln), .val (.int cs), .val (.int i), z5] [(.int i), (.ref a0)])) rfl (by rw [hml]; rfl) (Steps.refl _) (argsL := [(.int i)]) (rest := []) (lenOf pd__I_C rfl) rfl (by show 2 * 0 + _ ≤ _; exact Nat.le_of_eq rfl) (hb hby d11_16) (fun _ _ => ⟨rfl, eL, (by decide : 0 + 0 ≤ in_b_rm.cells), (by decide : 0 + 0 ≤ in_b_rm.slots)⟩)
    dsimp only [Pt.U, Pt.locs, Pt.cells, Pt.slots] at X7 l7 y7 z7 st7 hQ7
    subst l7 y7 z7
    obtain ⟨rfl, rfl, eq7⟩ := hQ7
    have N7 := Fr.app NL (Fr.nil n0)
    refine ogoS st7 ?_
    show OWay p e below G T7 (mkF m 21 #[.val (.ref a0), .val (.int p1), .val (.int ln), .val (.int cs), .val (.int i), z5] [(.int ([c0, c1, c2].getD (i).toInt.toNat 0))])
    suffices Jv5_8 : ∀ v5_8 : Int32, v5_8 = ([c0, c1, c2].getD (i).toInt.toNat 0) → OWay p e below G T7 (mkF m 21 #[.val (.ref a0), .val (.int p1), .val (.int ln), .val (.int cs), .val (.int i), z5] [(.int v5_8)]) from Jv5_8 _ rfl
    intro v5_8 hv5_8
    refine ogo (fun _ z_ => XS.istore X7.here hx rfl (hb hby d11_21) rfl (l' := #[.val (.ref a0), .val (.int p1), .val (.int ln), .val (.int cs), .val (.int i), .val (.int v5_8)]) (own_os hz5) z_) ?_
    show OWay p e below G T7 (mkF m 23 #[.val (.ref a0), .val (.int p1), .val (.int ln), .val (.int cs), .val (.int i), .val (.int v5_8)] [])
    refine ogo (fun _ z_ => XS.iload X7.here hx rfl (hb hby d11_23) rfl z_) ?_
    show OWay p e below G T7 (mkF m 25 #[.val (.ref a0), .val (.int p1), .val (.int ln), .val (.int cs), .val (.int i), .val (.int v5_8)] [(.int v5_8)])
    refine ogo (fun _ z_ => XS.bipush X7.here hx rfl (hb hby d11_25) z_) ?_
    show OWay p e below G T7 (mkF m 27 #[.val (.ref a0), .val (.int p1), .val (.int ln), .val (.int cs), .val (.int i), .val (.int v5_8)] [(.int (10 : Int32)), (.int v5_8)])
    by_cases c27 : v5_8 = (10 : Int32)
    · refine ogo (fun _ z_ => XS.icmpNo X7.here hx rfl (hb hby d11_27) rfl (teq c27).2 z_) ?_
      show OWay p e below G T7 (mkF m 30 #[.val (.ref a0), .val (.int p1), .val (.int ln), .val (.int cs), .val (.int i), .val (.int v5_8)] [])
      refine ogo (fun _ z_ => XS.iload X7.here hx rfl (hb hby d11_30) rfl z_) ?_
      show OWay p e below G T7 (mkF m 32 #[.val (.ref a0), .val (.int p1), .val (.int ln), .val (.int cs), .val (.int i), .val (.int v5_8)] [(.int i)])
      by_cases c32 : (0 : Int32) < i
      · refine ogo (fun _ z_ => XS.ifNo X7.here hx rfl (hb hby d11_32) rfl ((if0 _ _).trans (tlt c32).2.2.2) z_) ?_
        show OWay p e below G T7 (mkF m 35 #[.val (.ref a0), .val (.int p1), .val (.int ln), .val (.int cs), .val (.int i), .val (.int v5_8)] [])
        refine ogo (fun _ z_ => XS.aloadN X7.here hx rfl (hb hby d11_35) rfl rfl z_) ?_
        show OWay p e below G T7 (mkF m 36 #[.val (.ref a0), .val (.int p1), .val (.int ln), .val (.int cs), .val (.int i), .val (.int v5_8)] [(.ref a0)])
        refine ogo (fun _ z_ => XS.iload X7.here hx rfl (hb hby d11_36) rfl z_) ?_
        show OWay p e below G T7 (mkF m 38 #[.val (.ref a0), .val (.int p1), .val (.int ln), .val (.int cs), .val (.int i), .val (.int v5_8)] [(.int i), (.ref a0)])
        refine ogo (fun _ z_ => XS.iconst X7.here hx rfl (hb hby d11_38) z_) ?_
        show OWay p e below G T7 (mkF m 39 #[.val (.ref a0), .val (.int p1), .val (.int ln), .val (.int cs), .val (.int i), .val (.int v5_8)] [(.int (1 : Int32)), (.int i), (.ref a0)])
        refine ogo (fun _ z_ => XS.isub X7.here hx rfl (hb hby d11_39) rfl z_) ?_
        show OWay p e below G T7 (mkF m 40 #[.val (.ref a0), .val (.int p1), .val (.int ln), .val (.int cs), .val (.int i), .val (.int v5_8)] [(.int (i - (1 : Int32))), (.ref a0)])
        have hj9 : 0 ≤ ((i - (1 : Int32))).toInt ∧ ((i - (1 : Int32))).toInt < 3 := by
          have e0 : (0 : Int32).toInt = 0 := by decide
          have d := own_dec i (by omega)
          rw [Int32.lt_iff_toInt_lt] at c32
          omega
        have hwc : ∀ d ∈ StrChars.Road.wordsChN, d.before az Z = true := fun d hd => hw d ((by decide +kernel : ∀ d ∈ StrChars.Road.wordsChN, d ∈ tables_1) d hd)
        obtain ⟨cq9, kq9, q9a, q9b, q9c⟩ := isOf hZ eq7 hp0
        obtain ⟨_, _, ⟨T9, L9, k9, n9⟩, -, X9, ⟨Lc9, hQ9, l9, y9, z9⟩, st9⟩ := X7.interfaceBack hx (xi := (⟨"java/lang/CharSequence", "charAt", "(I)C"⟩ : MethodName)) (y := (⟨"java/lang/String", "charAt", "(I)C"⟩ : MethodName)) hown (mvT hZ (hw _ (List.mem_of_getElem? (i := 61) rfl))) (mvT hZ (hw _ (List.mem_of_getElem? (i := 62) rfl))) (mvT hZ (hw _ (List.mem_of_getElem? (i := 63) rfl))) (mvT hZ (hw _ (List.mem_of_getElem? (i := 64) rfl))) (mvT hZ (hw _ (List.mem_of_getElem? (i := 65) rfl))) (mvT hZ (hw _ (List.mem_of_getElem? (i := 66) rfl))) (mvT hZ (hw _ (List.mem_of_getElem? (i := 67) rfl))) (mvT hZ (hw _ (List.mem_of_getElem? (i := 68) rfl))) (by decide) (StrChars.Road.chN (W := 0) hZ hwc (kI := 4) (hw _ (List.mem_of_getElem? (i := 7) rfl)) (cs := [c0, c1, c2]) (i := ((i - (1 : Int32))).toInt.toNat) (j := (i - (1 : Int32))) hp0 hp1 hp2 hp3 (StrChars.Road.codOf rfl (fun c hc => (hch c hc).2)) (fun c hc => ⟨(hch c hc).1, fun q => (hch c hc).2 (Int32.lt_trans (by decide) q)⟩) (hp4.ext hp6.2) hcp (hp5.ext hp6.2) hfm (by show 3 ≤ 4000; decide) (by show _ < 3; omega) (own_back _ hj9.1) (by decide) (by decide)) q9a q9b q9c (g := (mkF m 40 #[.val (.ref a0), .val (.int p1), .val (.int ln), .val (.int cs), .val (.int i), .val (.int v5_8)] [(.int (i - (1 : Int32))), (.ref a0)])) rfl (by rw [hml]; rfl) (Steps.refl _) (argsL := [(.int (i - (1 : Int32)))]) (rest := []) (lenOf pd__I_C rfl) rfl (by show 2 * 0 + _ ≤ _; exact Nat.le_of_eq rfl) (hb hby d11_40) (fun _ _ => ⟨rfl, eq7, (by decide : 0 + 0 ≤ in_b_rm.cells), (by decide : 0 + 0 ≤ in_b_rm.slots)⟩)
        dsimp only [Pt.U, Pt.locs, Pt.cells, Pt.slots] at X9 l9 y9 z9 st9 hQ9
        subst l9 y9 z9
        obtain ⟨rfl, rfl, eq9⟩ := hQ9
        have N9 := Fr.app N7 (Fr.nil n0)
        refine ogoS st9 ?_
        show OWay p e below G T9 (mkF m 45 #[.val (.ref a0), .val (.int p1), .val (.int ln), .val (.int cs), .val (.int i), .val (.int v5_8)] [(.int ([c0, c1, c2].getD ((i - (1 : Int32))).toInt.toNat 0))])
        refine ogo (fun _ z_ => XS.bipush X9.here hx rfl (hb hby d11_45) z_) ?_
        show OWay p e below G T9 (mkF m 47 #[.val (.ref a0), .val (.int p1), .val (.int ln), .val (.int cs), .val (.int i), .val (.int v5_8)] [(.int (13 : Int32)), (.int ([c0, c1, c2].getD ((i - (1 : Int32))).toInt.toNat 0))])
        by_cases c47 : ([c0, c1, c2].getD ((i - (1 : Int32))).toInt.toNat 0) = (13 : Int32)
        · refine ogo (fun _ z_ => XS.icmpNo X9.here hx rfl (hb hby d11_47) rfl (teq c47).2 z_) ?_
          show OWay p e below G T9 (mkF m 50 #[.val (.ref a0), .val (.int p1), .val (.int ln), .val (.int cs), .val (.int i), .val (.int v5_8)] [])
          refine ogo (fun _ z_ => XS.iload X9.here hx rfl (hb hby d11_50) rfl z_) ?_
          show OWay p e below G T9 (mkF m 52 #[.val (.ref a0), .val (.int p1), .val (.int ln), .val (.int cs), .val (.int i), .val (.int v5_8)] [(.int i)])
          refine ogo (fun _ z_ => XS.iconst X9.here hx rfl (hb hby d11_52) z_) ?_
          show OWay p e below G T9 (mkF m 53 #[.val (.ref a0), .val (.int p1), .val (.int ln), .val (.int cs), .val (.int i), .val (.int v5_8)] [(.int (1 : Int32)), (.int i)])
          refine ogo (fun _ z_ => XS.iadd X9.here hx rfl (hb hby d11_53) rfl z_) ?_
          show OWay p e below G T9 (mkF m 54 #[.val (.ref a0), .val (.int p1), .val (.int ln), .val (.int cs), .val (.int i), .val (.int v5_8)] [(.int (i + (1 : Int32)))])
          suffices Jv3_10 : ∀ v3_10 : Int32, v3_10 = (i + (1 : Int32)) → OWay p e below G T9 (mkF m 54 #[.val (.ref a0), .val (.int p1), .val (.int ln), .val (.int cs), .val (.int i), .val (.int v5_8)] [(.int v3_10)]) from Jv3_10 _ rfl
          intro v3_10 hv3_10
          refine ogo (fun _ z_ => XS.istoreN X9.here hx rfl (hb hby d11_54) rfl (l' := #[.val (.ref a0), .val (.int p1), .val (.int ln), .val (.int v3_10), .val (.int i), .val (.int v5_8)]) rfl z_) ?_
          show OWay p e below G T9 (mkF m 55 #[.val (.ref a0), .val (.int p1), .val (.int ln), .val (.int v3_10), .val (.int i), .val (.int v5_8)] [])
          refine ogo (fun _ z_ => XS.goto X9.here hx rfl (pc0 := 55) (pc' := 80) rfl (hb hby d11_55) (by decide) (by decide) z_) ?_
          show OWay p e below G T9 (mkF m 80 #[.val (.ref a0), .val (.int p1), .val (.int ln), .val (.int v3_10), .val (.int i), .val (.int v5_8)] [])
          refine ogo (fun _ z_ => XS.iinc X9.here hx rfl (hb hby d11_80) rfl (l' := #[.val (.ref a0), .val (.int p1), .val (.int ln), .val (.int v3_10), .val (.int (i + (1 : Int32))), .val (.int v5_8)]) rfl z_) ?_
          show OWay p e below G T9 (mkF m 83 #[.val (.ref a0), .val (.int p1), .val (.int ln), .val (.int v3_10), .val (.int (i + (1 : Int32))), .val (.int v5_8)] [])
          refine ogo (fun _ z_ => XS.goto X9.here hx rfl (pc0 := 83) (pc' := 7) rfl (hb hby d11_83) (by decide) (by decide) z_) ?_
          show OWay p e below G T9 (mkF m 7 #[.val (.ref a0), .val (.int p1), .val (.int ln), .val (.int v3_10), .val (.int (i + (1 : Int32))), .val (.int v5_8)] [])
          have hi1 := own_inc i (by omega) (by omega)
          have hl1 := own_inc ln (by omega) (by omega)
          exact ih T9 _ X9 eq9 N9 ln v3_10 (i + (1 : Int32)) (.val (.int v5_8)) (One.val rfl) (by omega) (by omega) (by omega) (by omega)
        · refine ogo (fun _ z_ => XS.icmpYes X9.here hx rfl (pc0 := 47) (pc' := 58) rfl (hb hby d11_47) rfl (feq c47).2 (by decide) (by decide) z_) ?_
          show OWay p e below G T9 (mkF m 58 #[.val (.ref a0), .val (.int p1), .val (.int ln), .val (.int cs), .val (.int i), .val (.int v5_8)] [])
          refine ogo (fun _ z_ => XS.iload X9.here hx rfl (hb hby d11_58) rfl z_) ?_
          show OWay p e below G T9 (mkF m 60 #[.val (.ref a0), .val (.int p1), .val (.int ln), .val (.int cs), .val (.int i), .val (.int v5_8)] [(.int v5_8)])
          refine ogo (fun _ z_ => XS.bipush X9.here hx rfl (hb hby d11_60) z_) ?_
          show OWay p e below G T9 (mkF m 62 #[.val (.ref a0), .val (.int p1), .val (.int ln), .val (.int cs), .val (.int i), .val (.int v5_8)] [(.int (13 : Int32)), (.int v5_8)])
          by_cases c62 : v5_8 = (13 : Int32)
          · refine ogo (fun _ z_ => XS.icmpYes X9.here hx rfl (pc0 := 62) (pc' := 72) rfl (hb hby d11_62) rfl (teq c62).1 (by decide) (by decide) z_) ?_
            show OWay p e below G T9 (mkF m 72 #[.val (.ref a0), .val (.int p1), .val (.int ln), .val (.int cs), .val (.int i), .val (.int v5_8)] [])
            refine ogo (fun _ z_ => XS.iinc X9.here hx rfl (hb hby d11_72) rfl (l' := #[.val (.ref a0), .val (.int p1), .val (.int (ln + (1 : Int32))), .val (.int cs), .val (.int i), .val (.int v5_8)]) rfl z_) ?_
            show OWay p e below G T9 (mkF m 75 #[.val (.ref a0), .val (.int p1), .val (.int (ln + (1 : Int32))), .val (.int cs), .val (.int i), .val (.int v5_8)] [])
            refine ogo (fun _ z_ => XS.iload X9.here hx rfl (hb hby d11_75) rfl z_) ?_
            show OWay p e below G T9 (mkF m 77 #[.val (.ref a0), .val (.int p1), .val (.int (ln + (1 : Int32))), .val (.int cs), .val (.int i), .val (.int v5_8)] [(.int i)])
            refine ogo (fun _ z_ => XS.iconst X9.here hx rfl (hb hby d11_77) z_) ?_
            show OWay p e below G T9 (mkF m 78 #[.val (.ref a0), .val (.int p1), .val (.int (ln + (1 : Int32))), .val (.int cs), .val (.int i), .val (.int v5_8)] [(.int (1 : Int32)), (.int i)])
            refine ogo (fun _ z_ => XS.iadd X9.here hx rfl (hb hby d11_78) rfl z_) ?_
            show OWay p e below G T9 (mkF m 79 #[.val (.ref a0), .val (.int p1), .val (.int (ln + (1 : Int32))), .val (.int cs), .val (.int i), .val (.int v5_8)] [(.int (i + (1 : Int32)))])
            suffices Jv3_11 : ∀ v3_11 : Int32, v3_11 = (i + (1 : Int32)) → OWay p e below G T9 (mkF m 79 #[.val (.ref a0), .val (.int p1), .val (.int (ln + (1 : Int32))), .val (.int cs), .val (.int i), .val (.int v5_8)] [(.int v3_11)]) from Jv3_11 _ rfl
            intro v3_11 hv3_11
            refine ogo (fun _ z_ => XS.istoreN X9.here hx rfl (hb hby d11_79) rfl (l' := #[.val (.ref a0), .val (.int p1), .val (.int (ln + (1 : Int32))), .val (.int v3_11), .val (.int i), .val (.int v5_8)]) rfl z_) ?_
            show OWay p e below G T9 (mkF m 80 #[.val (.ref a0), .val (.int p1), .val (.int (ln + (1 : Int32))), .val (.int v3_11), .val (.int i), .val (.int v5_8)] [])
            refine ogo (fun _ z_ => XS.iinc X9.here hx rfl (hb hby d11_80) rfl (l' := #[.val (.ref a0), .val (.int p1), .val (.int (ln + (1 : Int32))), .val (.int v3_11), .val (.int (i + (1 : Int32))), .val (.int v5_8)]) rfl z_) ?_
            show OWay p e below G T9 (mkF m 83 #[.val (.ref a0), .val (.int p1), .val (.int (ln + (1 : Int32))), .val (.int v3_11), .val (.int (i + (1 : Int32))), .val (.int v5_8)] [])
            refine ogo (fun _ z_ => XS.goto X9.here hx rfl (pc0 := 83) (pc' := 7) rfl (hb hby d11_83) (by decide) (by decide) z_) ?_
            show OWay p e below G T9 (mkF m 7 #[.val (.ref a0), .val (.int p1), .val (.int (ln + (1 : Int32))), .val (.int v3_11), .val (.int (i + (1 : Int32))), .val (.int v5_8)] [])
            have hi1 := own_inc i (by omega) (by omega)
            have hl1 := own_inc ln (by omega) (by omega)
            exact ih T9 _ X9 eq9 N9 (ln + (1 : Int32)) v3_11 (i + (1 : Int32)) (.val (.int v5_8)) (One.val rfl) (by omega) (by omega) (by omega) (by omega)
          · refine ogo (fun _ z_ => XS.icmpNo X9.here hx rfl (hb hby d11_62) rfl (feq c62).1 z_) ?_
            show OWay p e below G T9 (mkF m 65 #[.val (.ref a0), .val (.int p1), .val (.int ln), .val (.int cs), .val (.int i), .val (.int v5_8)] [])
            refine ogo (fun _ z_ => XS.iload X9.here hx rfl (hb hby d11_65) rfl z_) ?_
            show OWay p e below G T9 (mkF m 67 #[.val (.ref a0), .val (.int p1), .val (.int ln), .val (.int cs), .val (.int i), .val (.int v5_8)] [(.int v5_8)])
            refine ogo (fun _ z_ => XS.bipush X9.here hx rfl (hb hby d11_67) z_) ?_
            show OWay p e below G T9 (mkF m 69 #[.val (.ref a0), .val (.int p1), .val (.int ln), .val (.int cs), .val (.int i), .val (.int v5_8)] [(.int (10 : Int32)), (.int v5_8)])
            refine ogo (fun _ z_ => XS.icmpNo X9.here hx rfl (hb hby d11_69) rfl (teq c27).2 z_) ?_
            show OWay p e below G T9 (mkF m 72 #[.val (.ref a0), .val (.int p1), .val (.int ln), .val (.int cs), .val (.int i), .val (.int v5_8)] [])
            refine ogo (fun _ z_ => XS.iinc X9.here hx rfl (hb hby d11_72) rfl (l' := #[.val (.ref a0), .val (.int p1), .val (.int (ln + (1 : Int32))), .val (.int cs), .val (.int i), .val (.int v5_8)]) rfl z_) ?_
            show OWay p e below G T9 (mkF m 75 #[.val (.ref a0), .val (.int p1), .val (.int (ln + (1 : Int32))), .val (.int cs), .val (.int i), .val (.int v5_8)] [])
            refine ogo (fun _ z_ => XS.iload X9.here hx rfl (hb hby d11_75) rfl z_) ?_
            show OWay p e below G T9 (mkF m 77 #[.val (.ref a0), .val (.int p1), .val (.int (ln + (1 : Int32))), .val (.int cs), .val (.int i), .val (.int v5_8)] [(.int i)])
            refine ogo (fun _ z_ => XS.iconst X9.here hx rfl (hb hby d11_77) z_) ?_
            show OWay p e below G T9 (mkF m 78 #[.val (.ref a0), .val (.int p1), .val (.int (ln + (1 : Int32))), .val (.int cs), .val (.int i), .val (.int v5_8)] [(.int (1 : Int32)), (.int i)])
            refine ogo (fun _ z_ => XS.iadd X9.here hx rfl (hb hby d11_78) rfl z_) ?_
            show OWay p e below G T9 (mkF m 79 #[.val (.ref a0), .val (.int p1), .val (.int (ln + (1 : Int32))), .val (.int cs), .val (.int i), .val (.int v5_8)] [(.int (i + (1 : Int32)))])
            suffices Jv3_12 : ∀ v3_12 : Int32, v3_12 = (i + (1 : Int32)) → OWay p e below G T9 (mkF m 79 #[.val (.ref a0), .val (.int p1), .val (.int (ln + (1 : Int32))), .val (.int cs), .val (.int i), .val (.int v5_8)] [(.int v3_12)]) from Jv3_12 _ rfl
            intro v3_12 hv3_12
            refine ogo (fun _ z_ => XS.istoreN X9.here hx rfl (hb hby d11_79) rfl (l' := #[.val (.ref a0), .val (.int p1), .val (.int (ln + (1 : Int32))), .val (.int v3_12), .val (.int i), .val (.int v5_8)]) rfl z_) ?_
            show OWay p e below G T9 (mkF m 80 #[.val (.ref a0), .val (.int p1), .val (.int (ln + (1 : Int32))), .val (.int v3_12), .val (.int i), .val (.int v5_8)] [])
            refine ogo (fun _ z_ => XS.iinc X9.here hx rfl (hb hby d11_80) rfl (l' := #[.val (.ref a0), .val (.int p1), .val (.int (ln + (1 : Int32))), .val (.int v3_12), .val (.int (i + (1 : Int32))), .val (.int v5_8)]) rfl z_) ?_
            show OWay p e below G T9 (mkF m 83 #[.val (.ref a0), .val (.int p1), .val (.int (ln + (1 : Int32))), .val (.int v3_12), .val (.int (i + (1 : Int32))), .val (.int v5_8)] [])
            refine ogo (fun _ z_ => XS.goto X9.here hx rfl (pc0 := 83) (pc' := 7) rfl (hb hby d11_83) (by decide) (by decide) z_) ?_
            show OWay p e below G T9 (mkF m 7 #[.val (.ref a0), .val (.int p1), .val (.int (ln + (1 : Int32))), .val (.int v3_12), .val (.int (i + (1 : Int32))), .val (.int v5_8)] [])
            have hi1 := own_inc i (by omega) (by omega)
            have hl1 := own_inc ln (by omega) (by omega)
            exact ih T9 _ X9 eq9 N9 (ln + (1 : Int32)) v3_12 (i + (1 : Int32)) (.val (.int v5_8)) (One.val rfl) (by omega) (by omega) (by omega) (by omega)
      · refine ogo (fun _ z_ => XS.ifYes X7.here hx rfl (pc0 := 32) (pc' := 58) rfl (hb hby d11_32) rfl ((if0 _ _).trans (flt c32).2.2.2) (by decide) (by decide) z_) ?_
        show OWay p e below G T7 (mkF m 58 #[.val (.ref a0), .val (.int p1), .val (.int ln), .val (.int cs), .val (.int i), .val (.int v5_8)] [])
        refine ogo (fun _ z_ => XS.iload X7.here hx rfl (hb hby d11_58) rfl z_) ?_
        show OWay p e below G T7 (mkF m 60 #[.val (.ref a0), .val (.int p1), .val (.int ln), .val (.int cs), .val (.int i), .val (.int v5_8)] [(.int v5_8)])
        refine ogo (fun _ z_ => XS.bipush X7.here hx rfl (hb hby d11_60) z_) ?_
        show OWay p e below G T7 (mkF m 62 #[.val (.ref a0), .val (.int p1), .val (.int ln), .val (.int cs), .val (.int i), .val (.int v5_8)] [(.int (13 : Int32)), (.int v5_8)])
        by_cases c62 : v5_8 = (13 : Int32)
        · refine ogo (fun _ z_ => XS.icmpYes X7.here hx rfl (pc0 := 62) (pc' := 72) rfl (hb hby d11_62) rfl (teq c62).1 (by decide) (by decide) z_) ?_
          show OWay p e below G T7 (mkF m 72 #[.val (.ref a0), .val (.int p1), .val (.int ln), .val (.int cs), .val (.int i), .val (.int v5_8)] [])
          refine ogo (fun _ z_ => XS.iinc X7.here hx rfl (hb hby d11_72) rfl (l' := #[.val (.ref a0), .val (.int p1), .val (.int (ln + (1 : Int32))), .val (.int cs), .val (.int i), .val (.int v5_8)]) rfl z_) ?_
          show OWay p e below G T7 (mkF m 75 #[.val (.ref a0), .val (.int p1), .val (.int (ln + (1 : Int32))), .val (.int cs), .val (.int i), .val (.int v5_8)] [])
          refine ogo (fun _ z_ => XS.iload X7.here hx rfl (hb hby d11_75) rfl z_) ?_
          show OWay p e below G T7 (mkF m 77 #[.val (.ref a0), .val (.int p1), .val (.int (ln + (1 : Int32))), .val (.int cs), .val (.int i), .val (.int v5_8)] [(.int i)])
          refine ogo (fun _ z_ => XS.iconst X7.here hx rfl (hb hby d11_77) z_) ?_
          show OWay p e below G T7 (mkF m 78 #[.val (.ref a0), .val (.int p1), .val (.int (ln + (1 : Int32))), .val (.int cs), .val (.int i), .val (.int v5_8)] [(.int (1 : Int32)), (.int i)])
          refine ogo (fun _ z_ => XS.iadd X7.here hx rfl (hb hby d11_78) rfl z_) ?_
          show OWay p e below G T7 (mkF m 79 #[.val (.ref a0), .val (.int p1), .val (.int (ln + (1 : Int32))), .val (.int cs), .val (.int i), .val (.int v5_8)] [(.int (i + (1 : Int32)))])
          suffices Jv3_13 : ∀ v3_13 : Int32, v3_13 = (i + (1 : Int32)) → OWay p e below G T7 (mkF m 79 #[.val (.ref a0), .val (.int p1), .val (.int (ln + (1 : Int32))), .val (.int cs), .val (.int i), .val (.int v5_8)] [(.int v3_13)]) from Jv3_13 _ rfl
          intro v3_13 hv3_13
          refine ogo (fun _ z_ => XS.istoreN X7.here hx rfl (hb hby d11_79) rfl (l' := #[.val (.ref a0), .val (.int p1), .val (.int (ln + (1 : Int32))), .val (.int v3_13), .val (.int i), .val (.int v5_8)]) rfl z_) ?_
          show OWay p e below G T7 (mkF m 80 #[.val (.ref a0), .val (.int p1), .val (.int (ln + (1 : Int32))), .val (.int v3_13), .val (.int i), .val (.int v5_8)] [])
          refine ogo (fun _ z_ => XS.iinc X7.here hx rfl (hb hby d11_80) rfl (l' := #[.val (.ref a0), .val (.int p1), .val (.int (ln + (1 : Int32))), .val (.int v3_13), .val (.int (i + (1 : Int32))), .val (.int v5_8)]) rfl z_) ?_
          show OWay p e below G T7 (mkF m 83 #[.val (.ref a0), .val (.int p1), .val (.int (ln + (1 : Int32))), .val (.int v3_13), .val (.int (i + (1 : Int32))), .val (.int v5_8)] [])
          refine ogo (fun _ z_ => XS.goto X7.here hx rfl (pc0 := 83) (pc' := 7) rfl (hb hby d11_83) (by decide) (by decide) z_) ?_
          show OWay p e below G T7 (mkF m 7 #[.val (.ref a0), .val (.int p1), .val (.int (ln + (1 : Int32))), .val (.int v3_13), .val (.int (i + (1 : Int32))), .val (.int v5_8)] [])
          have hi1 := own_inc i (by omega) (by omega)
          have hl1 := own_inc ln (by omega) (by omega)
          exact ih T7 _ X7 eq7 N7 (ln + (1 : Int32)) v3_13 (i + (1 : Int32)) (.val (.int v5_8)) (One.val rfl) (by omega) (by omega) (by omega) (by omega)
        · refine ogo (fun _ z_ => XS.icmpNo X7.here hx rfl (hb hby d11_62) rfl (feq c62).1 z_) ?_
          show OWay p e below G T7 (mkF m 65 #[.val (.ref a0), .val (.int p1), .val (.int ln), .val (.int cs), .val (.int i), .val (.int v5_8)] [])
          refine ogo (fun _ z_ => XS.iload X7.here hx rfl (hb hby d11_65) rfl z_) ?_
          show OWay p e below G T7 (mkF m 67 #[.val (.ref a0), .val (.int p1), .val (.int ln), .val (.int cs), .val (.int i), .val (.int v5_8)] [(.int v5_8)])
          refine ogo (fun _ z_ => XS.bipush X7.here hx rfl (hb hby d11_67) z_) ?_
          show OWay p e below G T7 (mkF m 69 #[.val (.ref a0), .val (.int p1), .val (.int ln), .val (.int cs), .val (.int i), .val (.int v5_8)] [(.int (10 : Int32)), (.int v5_8)])
          refine ogo (fun _ z_ => XS.icmpNo X7.here hx rfl (hb hby d11_69) rfl (teq c27).2 z_) ?_
          show OWay p e below G T7 (mkF m 72 #[.val (.ref a0), .val (.int p1), .val (.int ln), .val (.int cs), .val (.int i), .val (.int v5_8)] [])
          refine ogo (fun _ z_ => XS.iinc X7.here hx rfl (hb hby d11_72) rfl (l' := #[.val (.ref a0), .val (.int p1), .val (.int (ln + (1 : Int32))), .val (.int cs), .val (.int i), .val (.int v5_8)]) rfl z_) ?_
          show OWay p e below G T7 (mkF m 75 #[.val (.ref a0), .val (.int p1), .val (.int (ln + (1 : Int32))), .val (.int cs), .val (.int i), .val (.int v5_8)] [])
          refine ogo (fun _ z_ => XS.iload X7.here hx rfl (hb hby d11_75) rfl z_) ?_
          show OWay p e below G T7 (mkF m 77 #[.val (.ref a0), .val (.int p1), .val (.int (ln + (1 : Int32))), .val (.int cs), .val (.int i), .val (.int v5_8)] [(.int i)])
          refine ogo (fun _ z_ => XS.iconst X7.here hx rfl (hb hby d11_77) z_) ?_
          show OWay p e below G T7 (mkF m 78 #[.val (.ref a0), .val (.int p1), .val (.int (ln + (1 : Int32))), .val (.int cs), .val (.int i), .val (.int v5_8)] [(.int (1 : Int32)), (.int i)])
          refine ogo (fun _ z_ => XS.iadd X7.here hx rfl (hb hby d11_78) rfl z_) ?_
          show OWay p e below G T7 (mkF m 79 #[.val (.ref a0), .val (.int p1), .val (.int (ln + (1 : Int32))), .val (.int cs), .val (.int i), .val (.int v5_8)] [(.int (i + (1 : Int32)))])
          suffices Jv3_14 : ∀ v3_14 : Int32, v3_14 = (i + (1 : Int32)) → OWay p e below G T7 (mkF m 79 #[.val (.ref a0), .val (.int p1), .val (.int (ln + (1 : Int32))), .val (.int cs), .val (.int i), .val (.int v5_8)] [(.int v3_14)]) from Jv3_14 _ rfl
          intro v3_14 hv3_14
          refine ogo (fun _ z_ => XS.istoreN X7.here hx rfl (hb hby d11_79) rfl (l' := #[.val (.ref a0), .val (.int p1), .val (.int (ln + (1 : Int32))), .val (.int v3_14), .val (.int i), .val (.int v5_8)]) rfl z_) ?_
          show OWay p e below G T7 (mkF m 80 #[.val (.ref a0), .val (.int p1), .val (.int (ln + (1 : Int32))), .val (.int v3_14), .val (.int i), .val (.int v5_8)] [])
          refine ogo (fun _ z_ => XS.iinc X7.here hx rfl (hb hby d11_80) rfl (l' := #[.val (.ref a0), .val (.int p1), .val (.int (ln + (1 : Int32))), .val (.int v3_14), .val (.int (i + (1 : Int32))), .val (.int v5_8)]) rfl z_) ?_
          show OWay p e below G T7 (mkF m 83 #[.val (.ref a0), .val (.int p1), .val (.int (ln + (1 : Int32))), .val (.int v3_14), .val (.int (i + (1 : Int32))), .val (.int v5_8)] [])
          refine ogo (fun _ z_ => XS.goto X7.here hx rfl (pc0 := 83) (pc' := 7) rfl (hb hby d11_83) (by decide) (by decide) z_) ?_
          show OWay p e below G T7 (mkF m 7 #[.val (.ref a0), .val (.int p1), .val (.int (ln + (1 : Int32))), .val (.int v3_14), .val (.int (i + (1 : Int32))), .val (.int v5_8)] [])
          have hi1 := own_inc i (by omega) (by omega)
          have hl1 := own_inc ln (by omega) (by omega)
          exact ih T7 _ X7 eq7 N7 (ln + (1 : Int32)) v3_14 (i + (1 : Int32)) (.val (.int v5_8)) (One.val rfl) (by omega) (by omega) (by omega) (by omega)
    · refine ogo (fun _ z_ => XS.icmpYes X7.here hx rfl (pc0 := 27) (pc' := 58) rfl (hb hby d11_27) rfl (feq c27).2 (by decide) (by decide) z_) ?_
      show OWay p e below G T7 (mkF m 58 #[.val (.ref a0), .val (.int p1), .val (.int ln), .val (.int cs), .val (.int i), .val (.int v5_8)] [])
      refine ogo (fun _ z_ => XS.iload X7.here hx rfl (hb hby d11_58) rfl z_) ?_
      show OWay p e below G T7 (mkF m 60 #[.val (.ref a0), .val (.int p1), .val (.int ln), .val (.int cs), .val (.int i), .val (.int v5_8)] [(.int v5_8)])
      refine ogo (fun _ z_ => XS.bipush X7.here hx rfl (hb hby d11_60) z_) ?_
      show OWay p e below G T7 (mkF m 62 #[.val (.ref a0), .val (.int p1), .val (.int ln), .val (.int cs), .val (.int i), .val (.int v5_8)] [(.int (13 : Int32)), (.int v5_8)])
      by_cases c62 : v5_8 = (13 : Int32)
      · refine ogo (fun _ z_ => XS.icmpYes X7.here hx rfl (pc0 := 62) (pc' := 72) rfl (hb hby d11_62) rfl (teq c62).1 (by decide) (by decide) z_) ?_
        show OWay p e below G T7 (mkF m 72 #[.val (.ref a0), .val (.int p1), .val (.int ln), .val (.int cs), .val (.int i), .val (.int v5_8)] [])
        refine ogo (fun _ z_ => XS.iinc X7.here hx rfl (hb hby d11_72) rfl (l' := #[.val (.ref a0), .val (.int p1), .val (.int (ln + (1 : Int32))), .val (.int cs), .val (.int i), .val (.int v5_8)]) rfl z_) ?_
        show OWay p e below G T7 (mkF m 75 #[.val (.ref a0), .val (.int p1), .val (.int (ln + (1 : Int32))), .val (.int cs), .val (.int i), .val (.int v5_8)] [])
        refine ogo (fun _ z_ => XS.iload X7.here hx rfl (hb hby d11_75) rfl z_) ?_
        show OWay p e below G T7 (mkF m 77 #[.val (.ref a0), .val (.int p1), .val (.int (ln + (1 : Int32))), .val (.int cs), .val (.int i), .val (.int v5_8)] [(.int i)])
        refine ogo (fun _ z_ => XS.iconst X7.here hx rfl (hb hby d11_77) z_) ?_
        show OWay p e below G T7 (mkF m 78 #[.val (.ref a0), .val (.int p1), .val (.int (ln + (1 : Int32))), .val (.int cs), .val (.int i), .val (.int v5_8)] [(.int (1 : Int32)), (.int i)])
        refine ogo (fun _ z_ => XS.iadd X7.here hx rfl (hb hby d11_78) rfl z_) ?_
        show OWay p e below G T7 (mkF m 79 #[.val (.ref a0), .val (.int p1), .val (.int (ln + (1 : Int32))), .val (.int cs), .val (.int i), .val (.int v5_8)] [(.int (i + (1 : Int32)))])
        suffices Jv3_15 : ∀ v3_15 : Int32, v3_15 = (i + (1 : Int32)) → OWay p e below G T7 (mkF m 79 #[.val (.ref a0), .val (.int p1), .val (.int (ln + (1 : Int32))), .val (.int cs), .val (.int i), .val (.int v5_8)] [(.int v3_15)]) from Jv3_15 _ rfl
        intro v3_15 hv3_15
        refine ogo (fun _ z_ => XS.istoreN X7.here hx rfl (hb hby d11_79) rfl (l' := #[.val (.ref a0), .val (.int p1), .val (.int (ln + (1 : Int32))), .val (.int v3_15), .val (.int i), .val (.int v5_8)]) rfl z_) ?_
        show OWay p e below G T7 (mkF m 80 #[.val (.ref a0), .val (.int p1), .val (.int (ln + (1 : Int32))), .val (.int v3_15), .val (.int i), .val (.int v5_8)] [])
        refine ogo (fun _ z_ => XS.iinc X7.here hx rfl (hb hby d11_80) rfl (l' := #[.val (.ref a0), .val (.int p1), .val (.int (ln + (1 : Int32))), .val (.int v3_15), .val (.int (i + (1 : Int32))), .val (.int v5_8)]) rfl z_) ?_
        show OWay p e below G T7 (mkF m 83 #[.val (.ref a0), .val (.int p1), .val (.int (ln + (1 : Int32))), .val (.int v3_15), .val (.int (i + (1 : Int32))), .val (.int v5_8)] [])
        refine ogo (fun _ z_ => XS.goto X7.here hx rfl (pc0 := 83) (pc' := 7) rfl (hb hby d11_83) (by decide) (by decide) z_) ?_
        show OWay p e below G T7 (mkF m 7 #[.val (.ref a0), .val (.int p1), .val (.int (ln + (1 : Int32))), .val (.int v3_15), .val (.int (i + (1 : Int32))), .val (.int v5_8)] [])
        have hi1 := own_inc i (by omega) (by omega)
        have hl1 := own_inc ln (by omega) (by omega)
        exact ih T7 _ X7 eq7 N7 (ln + (1 : Int32)) v3_15 (i + (1 : Int32)) (.val (.int v5_8)) (One.val rfl) (by omega) (by omega) (by omega) (by omega)
      · refine ogo (fun _ z_ => XS.icmpNo X7.here hx rfl (hb hby d11_62) rfl (feq c62).1 z_) ?_
        show OWay p e below G T7 (mkF m 65 #[.val (.ref a0), .val (.int p1), .val (.int ln), .val (.int cs), .val (.int i), .val (.int v5_8)] [])
        refine ogo (fun _ z_ => XS.iload X7.here hx rfl (hb hby d11_65) rfl z_) ?_
        show OWay p e below G T7 (mkF m 67 #[.val (.ref a0), .val (.int p1), .val (.int ln), .val (.int cs), .val (.int i), .val (.int v5_8)] [(.int v5_8)])
        refine ogo (fun _ z_ => XS.bipush X7.here hx rfl (hb hby d11_67) z_) ?_
        show OWay p e below G T7 (mkF m 69 #[.val (.ref a0), .val (.int p1), .val (.int ln), .val (.int cs), .val (.int i), .val (.int v5_8)] [(.int (10 : Int32)), (.int v5_8)])
        refine ogo (fun _ z_ => XS.icmpYes X7.here hx rfl (pc0 := 69) (pc' := 80) rfl (hb hby d11_69) rfl (feq c27).2 (by decide) (by decide) z_) ?_
        show OWay p e below G T7 (mkF m 80 #[.val (.ref a0), .val (.int p1), .val (.int ln), .val (.int cs), .val (.int i), .val (.int v5_8)] [])
        refine ogo (fun _ z_ => XS.iinc X7.here hx rfl (hb hby d11_80) rfl (l' := #[.val (.ref a0), .val (.int p1), .val (.int ln), .val (.int cs), .val (.int (i + (1 : Int32))), .val (.int v5_8)]) rfl z_) ?_
        show OWay p e below G T7 (mkF m 83 #[.val (.ref a0), .val (.int p1), .val (.int ln), .val (.int cs), .val (.int (i + (1 : Int32))), .val (.int v5_8)] [])
        refine ogo (fun _ z_ => XS.goto X7.here hx rfl (pc0 := 83) (pc' := 7) rfl (hb hby d11_83) (by decide) (by decide) z_) ?_
        show OWay p e below G T7 (mkF m 7 #[.val (.ref a0), .val (.int p1), .val (.int ln), .val (.int cs), .val (.int (i + (1 : Int32))), .val (.int v5_8)] [])
        have hi1 := own_inc i (by omega) (by omega)
        have hl1 := own_inc ln (by omega) (by omega)
        exact ih T7 _ X7 eq7 N7 ln cs (i + (1 : Int32)) (.val (.int v5_8)) (One.val rfl) (by omega) (by omega) (by omega) (by omega)
theorem pd___C_V : parseMethodDescriptor "([C)V" = some ⟨[(.array .char)], none⟩ := by decide +kernel
theorem pd___Z : parseMethodDescriptor "()Z" = some ⟨[], some .boolean⟩ := by decide +kernel
theorem pd__Ljava_lang_CharSequence_I_Lcom_example_slotwright_slotwright_Place_ : parseMethodDescriptor "(Ljava/lang/CharSequence;I)Lcom/example/slotwright/slotwright/Place;" = some ⟨[(.object "java/lang/CharSequence"), .int], some (.object "com/example/slotwright/slotwright/Place")⟩ := by decide +kernel
def law_Q (Z : State) (p0 : Int32) (p1 : Int32) (p2 : Int32) (p3 : Int32) (G1 : Int32) (fm : Value) (eN : Addr) (h0 : Heap) (n0 : Nat) (v : Option Value) (h : Heap) (L : List Loc) : Prop := v = some (.int 1) ∧ Fr n0 L
theorem law_ef (m : MethodId) (p0 : Int32) (p1 : Int32) (p2 : Int32) (p3 : Int32) : entryFrame m #[(.int p0), (.int p1), (.int p2), (.int p3)] maxLocals = mkF m 0 #[.val (.int p0), .val (.int p1), .val (.int p2), .val (.int p3), .unset, .unset, .unset, .unset, .unset, .unset, .unset] [] := by first | (simp [entryFrame, mkF, argsToLocals, Value.category, maxLocals]; done) | rfl
set_option maxRecDepth 65536 in
set_option maxHeartbeats 40000000 in
theorem law_c (l : Launch) (Z : State) (az : Array Value) (hw : ∀ d ∈ tables_1, d.before az Z = true) (ws : List Jvm.Cond) (p0 : Int32) (p1 : Int32) (p2 : Int32) (p3 : Int32) (G1 : Int32) (fm : Value) (eN : Addr) (h0 : Heap) (n0 : Nat) (Z0 : n0 ≤ h0.size) (hp0 : Sta Z Z.heap "java/lang/String" "COMPACT_STRINGS" "Z" (.int G1)) (hp1 : Sta Z Z.heap "jdk/internal/util/Preconditions" "SIOOBE_FORMATTER" "Ljava/util/function/BiFunction;" fm) (hp2 : Old Z n0 h0) (hp3 : Sta Z Z.heap "com/example/slotwright/slotwright/Place" "NONE" "Lcom/example/slotwright/slotwright/Place;" (.ref eN)) (hp4 : Exa Z Z.heap eN "com/example/slotwright/slotwright/Place") (hp5 : Fld Z Z.heap eN "com/example/slotwright/slotwright/Place" "line" "I" (.int (0 : Int32))) (hcp : ¬ (G1 = (0 : Int32))) (hfm : fm.isRef = true) :
    OCon l x code maxLocals ret ws room_1 Z #[(.int p0), (.int p1), (.int p2), (.int p3)] h0 (law_Q Z p0 p1 p2 p3 G1 fm eN h0 n0) := by
  refine ocon (plainFor_of_name pn_com_example_slotwright_slotwright_PlaceKnownPinLaw) ?_
  intro p e s m below meth c s₁ hx hby hml hown hnm hret hlk hZ X0 eh0
  have N0 := Fr.nil n0
  have K0 := Keep.refl h0 []
  refine ogoE (law_ef m p0 p1 p2 p3) ?_
  generalize hG : (OEnd s below (law_Q Z p0 p1 p2 p3 G1 fm eN h0 n0) room_1.cells room_1.slots) = G
  show OWay p e below G s₁ (mkF m 0 #[.val (.int p0), .val (.int p1), .val (.int p2), .val (.int p3), .unset, .unset, .unset, .unset, .unset, .unset, .unset] [])
  refine ogo (fun _ z_ => XS.iloadN X0.here hx rfl (hb hby at_0) rfl z_) ?_
  show OWay p e below G s₁ (mkF m 1 #[.val (.int p0), .val (.int p1), .val (.int p2), .val (.int p3), .unset, .unset, .unset, .unset, .unset, .unset, .unset] [(.int p0)])
  refine ogo (fun _ z_ => X0.ldcInt hx hown (mvT hZ (hw _ (List.mem_of_getElem? (i := 0) rfl))) (g := (mkF m 1 #[.val (.int p0), .val (.int p1), .val (.int p2), .val (.int p3), .unset, .unset, .unset, .unset, .unset, .unset, .unset] [(.int p0)])) rfl (hb hby at_1) _ z_) ?_
  show OWay p e below G s₁ (mkF m 3 #[.val (.int p0), .val (.int p1), .val (.int p2), .val (.int p3), .unset, .unset, .unset, .unset, .unset, .unset, .unset] [(.int (2147483647 : Int32)), (.int p0)])
  refine ogo (fun _ z_ => XS.iand X0.here hx rfl (hb hby at_3) rfl z_) ?_
  show OWay p e below G s₁ (mkF m 4 #[.val (.int p0), .val (.int p1), .val (.int p2), .val (.int p3), .unset, .unset, .unset, .unset, .unset, .unset, .unset] [(.int (p0 &&& (2147483647 : Int32)))])
  suffices Jv4_1 : ∀ v4_1 : Int32, v4_1 = (p0 &&& (2147483647 : Int32)) → OWay p e below G s₁ (mkF m 4 #[.val (.int p0), .val (.int p1), .val (.int p2), .val (.int p3), .unset, .unset, .unset, .unset, .unset, .unset, .unset] [(.int v4_1)]) from Jv4_1 _ rfl
  intro v4_1 hv4_1
  refine ogo (fun _ z_ => XS.istore X0.here hx rfl (hb hby at_4) rfl (l' := #[.val (.int p0), .val (.int p1), .val (.int p2), .val (.int p3), .val (.int v4_1), .unset, .unset, .unset, .unset, .unset, .unset]) rfl z_) ?_
  show OWay p e below G s₁ (mkF m 6 #[.val (.int p0), .val (.int p1), .val (.int p2), .val (.int p3), .val (.int v4_1), .unset, .unset, .unset, .unset, .unset, .unset] [])
  refine ogo (fun _ z_ => XS.iconst X0.here hx rfl (hb hby at_6) z_) ?_
  show OWay p e below G s₁ (mkF m 7 #[.val (.int p0), .val (.int p1), .val (.int p2), .val (.int p3), .val (.int v4_1), .unset, .unset, .unset, .unset, .unset, .unset] [(.int (3 : Int32))])
  obtain ⟨T2, h2, k2, X2, eT2, E2, A2, st2⟩ := newP X0 hx hZ (hw _ (List.mem_of_getElem? (i := 1) rfl)) eh0 (g := (mkF m 7 #[.val (.int p0), .val (.int p1), .val (.int p2), .val (.int p3), .val (.int v4_1), .unset, .unset, .unset, .unset, .unset, .unset] [(.int (3 : Int32))])) rfl (hb hby at_7) rfl (by decide) (cap := 3) (by decide) (by decide) (by decide) (by decide)
  obtain ⟨b2, g2⟩ : ∃ z, z = h0.size := ⟨_, rfl⟩
  rw [← g2] at A2 st2
  have g_b2 : n0 ≤ b2 := Nat.le_trans Z0 (Nat.le_of_eq g2.symm)
  have sz_b2 : h0.size ≤ b2 := Nat.le_trans K0.1 (Nat.le_of_eq g2.symm)
  have K3 : Keep h0 h2 [] := K0.ext E2
  have V_b2 : Arv Z h2 b2 k2 .char (3 : Int32) [(.int (0 : Int32)), (.int (0 : Int32)), (.int (0 : Int32))] (.int (0 : Int32)) := (Arv.new A2 (by decide)).pad (pad_rep [] (.int (0 : Int32)) 3)
  refine ogo st2 ?_
  show OWay p e below G T2 (mkF m 9 #[.val (.int p0), .val (.int p1), .val (.int p2), .val (.int p3), .val (.int v4_1), .unset, .unset, .unset, .unset, .unset, .unset] [(.ref b2)])
  refine ogo (fun _ z_ => XS.astore X2.here hx rfl (hb hby at_9) rfl rfl (l' := #[.val (.int p0), .val (.int p1), .val (.int p2), .val (.int p3), .val (.int v4_1), .val (.ref b2), .unset, .unset, .unset, .unset, .unset]) rfl z_) ?_
  show OWay p e below G T2 (mkF m 11 #[.val (.int p0), .val (.int p1), .val (.int p2), .val (.int p3), .val (.int v4_1), .val (.ref b2), .unset, .unset, .unset, .unset, .unset] [])
  refine ogo (fun _ z_ => XS.aload X2.here hx rfl (hb hby at_11) rfl rfl z_) ?_
  show OWay p e below G T2 (mkF m 13 #[.val (.int p0), .val (.int p1), .val (.int p2), .val (.int p3), .val (.int v4_1), .val (.ref b2), .unset, .unset, .unset, .unset, .unset] [(.ref b2)])
  refine ogo (fun _ z_ => XS.iconst X2.here hx rfl (hb hby at_13) z_) ?_
  show OWay p e below G T2 (mkF m 14 #[.val (.int p0), .val (.int p1), .val (.int p2), .val (.int p3), .val (.int v4_1), .val (.ref b2), .unset, .unset, .unset, .unset, .unset] [(.int (0 : Int32)), (.ref b2)])
  refine ogo (fun _ z_ => XS.iloadN X2.here hx rfl (hb hby at_14) rfl z_) ?_
  show OWay p e below G T2 (mkF m 15 #[.val (.int p0), .val (.int p1), .val (.int p2), .val (.int p3), .val (.int v4_1), .val (.ref b2), .unset, .unset, .unset, .unset, .unset] [(.int p2), (.int (0 : Int32)), (.ref b2)])
  obtain ⟨_, T4, L4, X4, hQ4, st4⟩ := wStatic X2 hx hZ (y := (⟨"com/example/slotwright/slotwright/PlaceKnownPinLaw", "pick", "(I)C"⟩ : MethodName)) hown (hw _ (List.mem_of_getElem? (i := 2) rfl)) (hw _ (List.mem_of_getElem? (i := 3) rfl)) (hw _ (List.mem_of_getElem? (i := 4) rfl)) (hw _ (List.mem_of_getElem? (i := 5) rfl)) (by decide) (pk_b_c l Z az hw [] p2 h2 n0 (Nat.le_trans Z0 E2.1)) 2 (by decide) (by decide) (g := (mkF m 15 #[.val (.int p0), .val (.int p1), .val (.int p2), .val (.int p3), .val (.int v4_1), .val (.ref b2), .unset, .unset, .unset, .unset, .unset] [(.int p2), (.int (0 : Int32)), (.ref b2)])) rfl (by rw [hml]; rfl) (argsL := [(.int p2)]) (rest := [(.int (0 : Int32)), (.ref b2)]) (lenOf pd__I_C rfl) rfl (by show 2 * 0 + _ ≤ _; exact Nat.le_of_eq rfl) (hb hby at_15) rfl eT2 (by decide) (by decide)
  obtain ⟨rfl, N4q, eq4⟩ := hQ4
  have N4 := Fr.app N0 N4q
  refine ogo st4 ?_
  show OWay p e below G T4 (mkF m 18 #[.val (.int p0), .val (.int p1), .val (.int p2), .val (.int p3), .val (.int v4_1), .val (.ref b2), .unset, .unset, .unset, .unset, .unset] [(.int (pk p2)), (.int (0 : Int32)), (.ref b2)])
  obtain ⟨cl_o5, Ar_o5, q_o5, S_o5, N_o5, H_o5, G_o5⟩ := id V_b2
  have hin_o5 : ¬ ((0 : Int32) < 0 ∨ cl_o5.slots.size ≤ ((0 : Int32)).toNatClampNeg) := inb_of S_o5 ⟨by decide, by decide⟩
  obtain ⟨T6, h6, X6, eT6, W6, st6⟩ := stC X4 hx hZ eq4 Ar_o5 (j := (0 : Int32)) hin_o5 (g := (mkF m 18 #[.val (.int p0), .val (.int p1), .val (.int p2), .val (.int p3), .val (.int v4_1), .val (.ref b2), .unset, .unset, .unset, .unset, .unset] [(.int (pk p2)), (.int (0 : Int32)), (.ref b2)])) rfl rfl (hb hby at_18)
  have K7 : Keep h0 h6 [] := K3.wr W6 (Or.inr sz_b2)
  have V_6 : Arv Z h6 b2 k2 .char (3 : Int32) [(.int (nar .char (pk p2))), (.int (0 : Int32)), (.int (0 : Int32))] (.int (0 : Int32)) := Arv.set Ar_o5 q_o5 S_o5 N_o5 H_o5 G_o5 (fits_nar_char _) W6 0 rfl (Nat.le_of_ble_eq_true rfl)
  have N6 := Fr.snoc X6 N4 g_b2
  refine ogo st6 ?_
  show OWay p e below G T6 (mkF m 19 #[.val (.int p0), .val (.int p1), .val (.int p2), .val (.int p3), .val (.int v4_1), .val (.ref b2), .unset, .unset, .unset, .unset, .unset] [])
  refine ogo (fun _ z_ => XS.aload X6.here hx rfl (hb hby at_19) rfl rfl z_) ?_
  show OWay p e below G T6 (mkF m 21 #[.val (.int p0), .val (.int p1), .val (.int p2), .val (.int p3), .val (.int v4_1), .val (.ref b2), .unset, .unset, .unset, .unset, .unset] [(.ref b2)])
  refine ogo (fun _ z_ => XS.iconst X6.here hx rfl (hb hby at_21) z_) ?_
  show OWay p e below G T6 (mkF m 22 #[.val (.int p0), .val (.int p1), .val (.int p2), .val (.int p3), .val (.int v4_1), .val (.ref b2), .unset, .unset, .unset, .unset, .unset] [(.int (1 : Int32)), (.ref b2)])
  refine ogo (fun _ z_ => XS.iloadN X6.here hx rfl (hb hby at_22) rfl z_) ?_
  show OWay p e below G T6 (mkF m 23 #[.val (.int p0), .val (.int p1), .val (.int p2), .val (.int p3), .val (.int v4_1), .val (.ref b2), .unset, .unset, .unset, .unset, .unset] [(.int p2), (.int (1 : Int32)), (.ref b2)])
  refine ogo (fun _ z_ => XS.bipush X6.here hx rfl (hb hby at_23) z_) ?_
  show OWay p e below G T6 (mkF m 25 #[.val (.int p0), .val (.int p1), .val (.int p2), .val (.int p3), .val (.int v4_1), .val (.ref b2), .unset, .unset, .unset, .unset, .unset] [(.int (10 : Int32)), (.int p2), (.int (1 : Int32)), (.ref b2)])
  refine ogo (fun _ z_ => XS.iushr X6.here hx rfl (hb hby at_25) rfl z_) ?_
  show OWay p e below G T6 (mkF m 26 #[.val (.int p0), .val (.int p1), .val (.int p2), .val (.int p3), .val (.int v4_1), .val (.ref b2), .unset, .unset, .unset, .unset, .unset] [(.int ((p2.toUInt32 >>> ((10 : Int32) &&& 31).toUInt32).toInt32)), (.int (1 : Int32)), (.ref b2)])
  obtain ⟨_, T8, L8, X8, hQ8, st8⟩ := wStatic X6 hx hZ (y := (⟨"com/example/slotwright/slotwright/PlaceKnownPinLaw", "pick", "(I)C"⟩ : MethodName)) hown (hw _ (List.mem_of_getElem? (i := 2) rfl)) (hw _ (List.mem_of_getElem? (i := 3) rfl)) (hw _ (List.mem_of_getElem? (i := 4) rfl)) (hw _ (List.mem_of_getElem? (i := 5) rfl)) (by decide) (pk_b_c l Z az hw [] ((p2.toUInt32 >>> ((10 : Int32) &&& 31).toUInt32).toInt32) h6 n0 (Nat.le_trans (Nat.le_trans Z0 E2.1) (Keep.of_wr W6).1)) 2 (by decide) (by decide) (g := (mkF m 26 #[.val (.int p0), .val (.int p1), .val (.int p2), .val (.int p3), .val (.int v4_1), .val (.ref b2), .unset, .unset, .unset, .unset, .unset] [(.int ((p2.toUInt32 >>> ((10 : Int32) &&& 31).toUInt32).toInt32)), (.int (1 : Int32)), (.ref b2)])) rfl (by rw [hml]; rfl) (argsL := [(.int ((p2.toUInt32 >>> ((10 : Int32) &&& 31).toUInt32).toInt32))]) (rest := [(.int (1 : Int32)), (.ref b2)]) (lenOf pd__I_C rfl) rfl (by show 2 * 0 + _ ≤ _; exact Nat.le_of_eq rfl) (hb hby at_26) rfl eT6 (by decide) (by decide)
  obtain ⟨rfl, N8q, eq8⟩ := hQ8
  have N8 := Fr.app N6 N8q
  refine ogo st8 ?_
  show OWay p e below G T8 (mkF m 29 #[.val (.int p0), .val (.int p1), .val (.int p2), .val (.int p3), .val (.int v4_1), .val (.ref b2), .unset, .unset, .unset, .unset, .unset] [(.int (pk ((p2.toUInt32 >>> ((10 : Int32) &&& 31).toUInt32).toInt32))), (.int (1 : Int32)), (.ref b2)])
  obtain ⟨cl_o9, Ar_o9, q_o9, S_o9, N_o9, H_o9, G_o9⟩ := id V_6
  have hin_o9 : ¬ ((1 : Int32) < 0 ∨ cl_o9.slots.size ≤ ((1 : Int32)).toNatClampNeg) := inb_of S_o9 ⟨by decide, by decide⟩
  obtain ⟨T10, h10, X10, eT10, W10, st10⟩ := stC X8 hx hZ eq8 Ar_o9 (j := (1 : Int32)) hin_o9 (g := (mkF m 29 #[.val (.int p0), .val (.int p1), .val (.int p2), .val (.int p3), .val (.int v4_1), .val (.ref b2), .unset, .unset, .unset, .unset, .unset] [(.int (pk ((p2.toUInt32 >>> ((10 : Int32) &&& 31).toUInt32).toInt32))), (.int (1 : Int32)), (.ref b2)])) rfl rfl (hb hby at_29)
  have K11 : Keep h0 h10 [] := K7.wr W10 (Or.inr sz_b2)
  have V_10 : Arv Z h10 b2 k2 .char (3 : Int32) [(.int (nar .char (pk p2))), (.int (nar .char (pk ((p2.toUInt32 >>> ((10 : Int32) &&& 31).toUInt32).toInt32)))), (.int (0 : Int32))] (.int (0 : Int32)) := Arv.set Ar_o9 q_o9 S_o9 N_o9 H_o9 G_o9 (fits_nar_char _) W10 1 rfl (Nat.le_of_ble_eq_true rfl)
  have N10 := Fr.snoc X10 N8 g_b2
  refine ogo st10 ?_
  show OWay p e below G T10 (mkF m 30 #[.val (.int p0), .val (.int p1), .val (.int p2), .val (.int p3), .val (.int v4_1), .val (.ref b2), .unset, .unset, .unset, .unset, .unset] [])
  refine ogo (fun _ z_ => XS.aload X10.here hx rfl (hb hby at_30) rfl rfl z_) ?_
  show OWay p e below G T10 (mkF m 32 #[.val (.int p0), .val (.int p1), .val (.int p2), .val (.int p3), .val (.int v4_1), .val (.ref b2), .unset, .unset, .unset, .unset, .unset] [(.ref b2)])
  refine ogo (fun _ z_ => XS.iconst X10.here hx rfl (hb hby at_32) z_) ?_
  show OWay p e below G T10 (mkF m 33 #[.val (.int p0), .val (.int p1), .val (.int p2), .val (.int p3), .val (.int v4_1), .val (.ref b2), .unset, .unset, .unset, .unset, .unset] [(.int (2 : Int32)), (.ref b2)])
  refine ogo (fun _ z_ => XS.iloadN X10.here hx rfl (hb hby at_33) rfl z_) ?_
  show OWay p e below G T10 (mkF m 34 #[.val (.int p0), .val (.int p1), .val (.int p2), .val (.int p3), .val (.int v4_1), .val (.ref b2), .unset, .unset, .unset, .unset, .unset] [(.int p2), (.int (2 : Int32)), (.ref b2)])
  refine ogo (fun _ z_ => XS.bipush X10.here hx rfl (hb hby at_34) z_) ?_
  show OWay p e below G T10 (mkF m 36 #[.val (.int p0), .val (.int p1), .val (.int p2), .val (.int p3), .val (.int v4_1), .val (.ref b2), .unset, .unset, .unset, .unset, .unset] [(.int (20 : Int32)), (.int p2), (.int (2 : Int32)), (.ref b2)])
  refine ogo (fun _ z_ => XS.iushr X10.here hx rfl (hb hby at_36) rfl z_) ?_
  show OWay p e below G T10 (mkF m 37 #[.val (.int p0), .val (.int p1), .val (.int p2), .val (.int p3), .val (.int v4_1), .val (.ref b2), .unset, .unset, .unset, .unset, .unset] [(.int ((p2.toUInt32 >>> ((20 : Int32) &&& 31).toUInt32).toInt32)), (.int (2 : Int32)), (.ref b2)])
  obtain ⟨_, T12, L12, X12, hQ12, st12⟩ := wStatic X10 hx hZ (y := (⟨"com/example/slotwright/slotwright/PlaceKnownPinLaw", "pick", "(I)C"⟩ : MethodName)) hown (hw _ (List.mem_of_getElem? (i := 2) rfl)) (hw _ (List.mem_of_getElem? (i := 3) rfl)) (hw _ (List.mem_of_getElem? (i := 4) rfl)) (hw _ (List.mem_of_getElem? (i := 5) rfl)) (by decide) (pk_b_c l Z az hw [] ((p2.toUInt32 >>> ((20 : Int32) &&& 31).toUInt32).toInt32) h10 n0 (Nat.le_trans (Nat.le_trans (Nat.le_trans Z0 E2.1) (Keep.of_wr W6).1) (Keep.of_wr W10).1)) 2 (by decide) (by decide) (g := (mkF m 37 #[.val (.int p0), .val (.int p1), .val (.int p2), .val (.int p3), .val (.int v4_1), .val (.ref b2), .unset, .unset, .unset, .unset, .unset] [(.int ((p2.toUInt32 >>> ((20 : Int32) &&& 31).toUInt32).toInt32)), (.int (2 : Int32)), (.ref b2)])) rfl (by rw [hml]; rfl) (argsL := [(.int ((p2.toUInt32 >>> ((20 : Int32) &&& 31).toUInt32).toInt32))]) (rest := [(.int (2 : Int32)), (.ref b2)]) (lenOf pd__I_C rfl) rfl (by show 2 * 0 + _ ≤ _; exact Nat.le_of_eq rfl) (hb hby at_37) rfl eT10 (by decide) (by decide)
  obtain ⟨rfl, N12q, eq12⟩ := hQ12
  have N12 := Fr.app N10 N12q
  refine ogo st12 ?_
  show OWay p e below G T12 (mkF m 40 #[.val (.int p0), .val (.int p1), .val (.int p2), .val (.int p3), .val (.int v4_1), .val (.ref b2), .unset, .unset, .unset, .unset, .unset] [(.int (pk ((p2.toUInt32 >>> ((20 : Int32) &&& 31).toUInt32).toInt32))), (.int (2 : Int32)), (.ref b2)])
  obtain ⟨cl_o13, Ar_o13, q_o13, S_o13, N_o13, H_o13, G_o13⟩ := id V_10
  have hin_o13 : ¬ ((2 : Int32) < 0 ∨ cl_o13.slots.size ≤ ((2 : Int32)).toNatClampNeg) := inb_of S_o13 ⟨by decide, by decide⟩
  obtain ⟨T14, h14, X14, eT14, W14, st14⟩ := stC X12 hx hZ eq12 Ar_o13 (j := (2 : Int32)) hin_o13 (g := (mkF m 40 #[.val (.int p0), .val (.int p1), .val (.int p2), .val (.int p3), .val (.int v4_1), .val (.ref b2), .unset, .unset, .unset, .unset, .unset] [(.int (pk ((p2.toUInt32 >>> ((20 : Int32) &&& 31).toUInt32).toInt32))), (.int (2 : Int32)), (.ref b2)])) rfl rfl (hb hby at_40)
  have K15 : Keep h0 h14 [] := K11.wr W14 (Or.inr sz_b2)
  have V_14 : Arv Z h14 b2 k2 .char (3 : Int32) [(.int (nar .char (pk p2))), (.int (nar .char (pk ((p2.toUInt32 >>> ((10 : Int32) &&& 31).toUInt32).toInt32)))), (.int (nar .char (pk ((p2.toUInt32 >>> ((20 : Int32) &&& 31).toUInt32).toInt32))))] (.int (0 : Int32)) := Arv.set Ar_o13 q_o13 S_o13 N_o13 H_o13 G_o13 (fits_nar_char _) W14 2 rfl (Nat.le_of_ble_eq_true rfl)
  have N14 := Fr.snoc X14 N12 g_b2
  refine ogo st14 ?_
  show OWay p e below G T14 (mkF m 41 #[.val (.int p0), .val (.int p1), .val (.int p2), .val (.int p3), .val (.int v4_1), .val (.ref b2), .unset, .unset, .unset, .unset, .unset] [])
  obtain ⟨T16, h16, X16, eT16, E16, A16, D16, -, st16⟩ := newO X14 hx hZ hown (hw _ (List.mem_of_getElem? (i := 6) rfl)) (hw _ (List.mem_of_getElem? (i := 7) rfl)) (hw _ (List.mem_of_getElem? (i := 8) rfl)) eT14 (g := (mkF m 41 #[.val (.int p0), .val (.int p1), .val (.int p2), .val (.int p3), .val (.int v4_1), .val (.ref b2), .unset, .unset, .unset, .unset, .unset] [])) rfl (hb hby at_41) (by decide) (by decide)
  obtain ⟨b16, g16⟩ : ∃ z, z = h14.size := ⟨_, rfl⟩
  rw [← g16] at A16 D16 st16
  have g_b16 : n0 ≤ b16 := Nat.le_trans (Nat.le_trans (Nat.le_trans (Nat.le_trans (Nat.le_trans Z0 E2.1) (Keep.of_wr W6).1) (Keep.of_wr W10).1) (Keep.of_wr W14).1) (Nat.le_of_eq g16.symm)
  have sz_b16 : h0.size ≤ b16 := Nat.le_trans K15.1 (Nat.le_of_eq g16.symm)
  have K17 : Keep h0 h16 [] := K15.ext E16
  have F_coder_b16 : Fld Z h16 b16 "java/lang/String" "coder" "B" (.int (0 : Int32)) := D16 (Or.inr (hw _ (List.mem_of_getElem? (i := 32) rfl))) (ty := .byte) (by decide)
  have F_value_b16 : Fld Z h16 b16 "java/lang/String" "value" "[B" .null := D16 (Or.inr (hw _ (List.mem_of_getElem? (i := 34) rfl))) (ty := (.array .byte)) (by decide)
  refine ogo st16 ?_
  show OWay p e below G T16 (mkF m 44 #[.val (.int p0), .val (.int p1), .val (.int p2), .val (.int p3), .val (.int v4_1), .val (.ref b2), .unset, .unset, .unset, .unset, .unset] [(.ref b16)])
  refine ogo (fun _ z_ => XS.dup X16.here hx rfl (hb hby at_44) rfl rfl z_) ?_
  show OWay p e below G T16 (mkF m 45 #[.val (.int p0), .val (.int p1), .val (.int p2), .val (.int p3), .val (.int v4_1), .val (.ref b2), .unset, .unset, .unset, .unset, .unset] [(.ref b16), (.ref b16)])
  refine ogo (fun _ z_ => XS.aload X16.here hx rfl (hb hby at_45) rfl rfl z_) ?_
  show OWay p e below G T16 (mkF m 47 #[.val (.int p0), .val (.int p1), .val (.int p2), .val (.int p3), .val (.int v4_1), .val (.ref b2), .unset, .unset, .unset, .unset, .unset] [(.ref b2), (.ref b16), (.ref b16)])
  have F19 : Arv Z h16 b2 k2 .char (3 : Int32) [(.int (nar .char (pk p2))), (.int (nar .char (pk ((p2.toUInt32 >>> ((10 : Int32) &&& 31).toUInt32).toInt32)))), (.int (nar .char (pk ((p2.toUInt32 >>> ((20 : Int32) &&& 31).toUInt32).toInt32))))] (.int (0 : Int32)) := (V_14.ext E16)
  have F20 : Old Z n0 h16 := (((((hp2.ext E2).wr W6 g_b2).wr W10 g_b2).wr W14 g_b2).ext E16)
  have hws : ∀ d ∈ StrChars.Road.words, d.before az Z = true := fun d hd => hw d ((by decide +kernel : ∀ d ∈ StrChars.Road.words, d ∈ tables_1) d hd)
  have hlat : ∀ c ∈ [(nar .char (pk p2)), (nar .char (pk ((p2.toUInt32 >>> ((10 : Int32) &&& 31).toUInt32).toInt32))), (nar .char (pk ((p2.toUInt32 >>> ((20 : Int32) &&& 31).toUInt32).toInt32)))], ¬ c < 0 ∧ ¬ (255 : Int32) < c := by
    intro c hc
    simp only [List.mem_cons, List.not_mem_nil, or_false] at hc
    rcases hc with rfl | rfl | rfl
    · rw [(own_pk _).1]; exact (own_pk _).2
    · rw [(own_pk _).1]; exact (own_pk _).2
    · rw [(own_pk _).1]; exact (own_pk _).2
  obtain ⟨_, _, ⟨T18, L18, k18, n18⟩, -, X18, ⟨Lc18, hQ18, l18, y18, z18⟩, st18⟩ := X16.specialBack hx (y := (⟨"java/lang/String", "<init>", "([C)V"⟩ : MethodName)) rfl hown (mvT hZ (hw _ (List.mem_of_getElem? (i := 9) rfl))) (mvT hZ (hw _ (List.mem_of_getElem? (i := 10) rfl))) (mvT hZ (hw _ (List.mem_of_getElem? (i := 11) rfl))) (by decide) (StrChars.Road.backV (W := 1) hZ hws (kI := 4) (hw _ (List.mem_of_getElem? (i := 7) rfl)) (cs := [(nar .char (pk p2)), (nar .char (pk ((p2.toUInt32 >>> ((10 : Int32) &&& 31).toUInt32).toInt32))), (nar .char (pk ((p2.toUInt32 >>> ((20 : Int32) &&& 31).toUInt32).toInt32)))]) (bs := [((nar .char (pk p2))).toInt8.toInt32, ((nar .char (pk ((p2.toUInt32 >>> ((10 : Int32) &&& 31).toUInt32).toInt32)))).toInt8.toInt32, ((nar .char (pk ((p2.toUInt32 >>> ((20 : Int32) &&& 31).toUInt32).toInt32)))).toInt8.toInt32]) (n := 3) g_b16 (Nat.le_trans (Nat.le_trans (Nat.le_trans (Nat.le_trans (Nat.le_trans Z0 E2.1) (Keep.of_wr W6).1) (Keep.of_wr W10).1) (Keep.of_wr W14).1) E16.1) A16 F_value_b16 F_coder_b16 F19 (hp0.ext F20.2) hcp rfl rfl (by decide) (by decide) hlat rfl (by decide) (by decide)) (g := (mkF m 47 #[.val (.int p0), .val (.int p1), .val (.int p2), .val (.int p3), .val (.int v4_1), .val (.ref b2), .unset, .unset, .unset, .unset, .unset] [(.ref b2), (.ref b16), (.ref b16)])) rfl (by rw [hml]; rfl) (Steps.refl _) (a := b16) (argsL := [(.ref b2)]) (rest := [(.ref b16)]) (lenOf pd___C_V rfl) rfl (by show 2 * 0 + _ ≤ _; exact Nat.le_of_eq rfl) (hb hby at_47) (fun _ _ => ⟨rfl, eT16, (by decide : 2 + 1 ≤ room_1.cells), (by decide : 7 + 3 ≤ room_1.slots)⟩)
  dsimp only [Pt.U, Pt.locs, Pt.cells, Pt.slots] at X18 l18 y18 z18 st18 hQ18
  subst l18 y18 z18
  obtain ⟨rfl, N18q, Kq18, Eq18, Cq18, t18, kb18, gt18, st_18, nt18, Vq18, Aq18⟩ := hQ18
  have N18 := Fr.app N14 N18q
  have K21 : Keep h0 T18.heap [] := K17.trans Kq18 (allS (Or.inr sz_b16) all0)
  have g_t18 := gt18
  have sz_t18 : h0.size ≤ t18 := Nat.le_trans K17.1 st_18
  refine ogoS st18 ?_
  show OWay p e below G T18 (mkF m 50 #[.val (.int p0), .val (.int p1), .val (.int p2), .val (.int p3), .val (.int v4_1), .val (.ref b2), .unset, .unset, .unset, .unset, .unset] [(.ref b16)])
  refine ogo (fun _ z_ => XS.astore X18.here hx rfl (hb hby at_50) rfl rfl (l' := #[.val (.int p0), .val (.int p1), .val (.int p2), .val (.int p3), .val (.int v4_1), .val (.ref b2), .val (.ref b16), .unset, .unset, .unset, .unset]) rfl z_) ?_
  show OWay p e below G T18 (mkF m 52 #[.val (.int p0), .val (.int p1), .val (.int p2), .val (.int p3), .val (.int v4_1), .val (.ref b2), .val (.ref b16), .unset, .unset, .unset, .unset] [])
  refine ogo (fun _ z_ => XS.iloadN X18.here hx rfl (hb hby at_52) rfl z_) ?_
  show OWay p e below G T18 (mkF m 53 #[.val (.int p0), .val (.int p1), .val (.int p2), .val (.int p3), .val (.int v4_1), .val (.ref b2), .val (.ref b16), .unset, .unset, .unset, .unset] [(.int p3)])
  refine ogo (fun _ z_ => X18.ldcInt hx hown (mvT hZ (hw _ (List.mem_of_getElem? (i := 0) rfl))) (g := (mkF m 53 #[.val (.int p0), .val (.int p1), .val (.int p2), .val (.int p3), .val (.int v4_1), .val (.ref b2), .val (.ref b16), .unset, .unset, .unset, .unset] [(.int p3)])) rfl (hb hby at_53) _ z_) ?_
  show OWay p e below G T18 (mkF m 55 #[.val (.int p0), .val (.int p1), .val (.int p2), .val (.int p3), .val (.int v4_1), .val (.ref b2), .val (.ref b16), .unset, .unset, .unset, .unset] [(.int (2147483647 : Int32)), (.int p3)])
  refine ogo (fun _ z_ => XS.iand X18.here hx rfl (hb hby at_55) rfl z_) ?_
  show OWay p e below G T18 (mkF m 56 #[.val (.int p0), .val (.int p1), .val (.int p2), .val (.int p3), .val (.int v4_1), .val (.ref b2), .val (.ref b16), .unset, .unset, .unset, .unset] [(.int (p3 &&& (2147483647 : Int32)))])
  refine ogo (fun _ z_ => XS.iconst X18.here hx rfl (hb hby at_56) z_) ?_
  show OWay p e below G T18 (mkF m 57 #[.val (.int p0), .val (.int p1), .val (.int p2), .val (.int p3), .val (.int v4_1), .val (.ref b2), .val (.ref b16), .unset, .unset, .unset, .unset] [(.int (4 : Int32)), (.int (p3 &&& (2147483647 : Int32)))])
  refine ogo (fun _ z_ => iremM X18 hx rfl (hb hby at_57) rfl (by decide) z_) ?_
  show OWay p e below G T18 (mkF m 58 #[.val (.int p0), .val (.int p1), .val (.int p2), .val (.int p3), .val (.int v4_1), .val (.ref b2), .val (.ref b16), .unset, .unset, .unset, .unset] [(.int ((p3 &&& (2147483647 : Int32)) % (4 : Int32)))])
  suffices Jv7_22 : ∀ v7_22 : Int32, v7_22 = ((p3 &&& (2147483647 : Int32)) % (4 : Int32)) → OWay p e below G T18 (mkF m 58 #[.val (.int p0), .val (.int p1), .val (.int p2), .val (.int p3), .val (.int v4_1), .val (.ref b2), .val (.ref b16), .unset, .unset, .unset, .unset] [(.int v7_22)]) from Jv7_22 _ rfl
  intro v7_22 hv7_22
  refine ogo (fun _ z_ => XS.istore X18.here hx rfl (hb hby at_58) rfl (l' := #[.val (.int p0), .val (.int p1), .val (.int p2), .val (.int p3), .val (.int v4_1), .val (.ref b2), .val (.ref b16), .val (.int v7_22), .unset, .unset, .unset]) rfl z_) ?_
  show OWay p e below G T18 (mkF m 60 #[.val (.int p0), .val (.int p1), .val (.int p2), .val (.int p3), .val (.int v4_1), .val (.ref b2), .val (.ref b16), .val (.int v7_22), .unset, .unset, .unset] [])
  obtain ⟨T23, h23, X23, eT23, E23, A23, D23, -, st23⟩ := newO X18 hx hZ hown (hw _ (List.mem_of_getElem? (i := 35) rfl)) (hw _ (List.mem_of_getElem? (i := 36) rfl)) (hw _ (List.mem_of_getElem? (i := 37) rfl)) rfl (g := (mkF m 60 #[.val (.int p0), .val (.int p1), .val (.int p2), .val (.int p3), .val (.int v4_1), .val (.ref b2), .val (.ref b16), .val (.int v7_22), .unset, .unset, .unset] [])) rfl (hb hby at_60) (by decide) (by decide)
  obtain ⟨b23, g23⟩ : ∃ z, z = T18.heap.size := ⟨_, rfl⟩
  rw [← g23] at A23 D23 st23
  have g_b23 : n0 ≤ b23 := Nat.le_trans (Nat.le_trans (Nat.le_trans (Nat.le_trans (Nat.le_trans (Nat.le_trans (Nat.le_trans Z0 E2.1) (Keep.of_wr W6).1) (Keep.of_wr W10).1) (Keep.of_wr W14).1) E16.1) Kq18.1) (Nat.le_of_eq g23.symm)
  have sz_b23 : h0.size ≤ b23 := Nat.le_trans K21.1 (Nat.le_of_eq g23.symm)
  have K24 : Keep h0 h23 [] := K21.ext E23
  have F_line_b23 : Fld Z h23 b23 "com/example/slotwright/slotwright/Place" "line" "I" (.int (0 : Int32)) := D23 (Or.inr (hw _ (List.mem_of_getElem? (i := 48) rfl))) (ty := .int) (by decide)
  have F_column_b23 : Fld Z h23 b23 "com/example/slotwright/slotwright/Place" "column" "I" (.int (0 : Int32)) := D23 (Or.inr (hw _ (List.mem_of_getElem? (i := 50) rfl))) (ty := .int) (by decide)
  refine ogo st23 ?_
  show OWay p e below G T23 (mkF m 63 #[.val (.int p0), .val (.int p1), .val (.int p2), .val (.int p3), .val (.int v4_1), .val (.ref b2), .val (.ref b16), .val (.int v7_22), .unset, .unset, .unset] [(.ref b23)])
  refine ogo (fun _ z_ => XS.dup X23.here hx rfl (hb hby at_63) rfl rfl z_) ?_
  show OWay p e below G T23 (mkF m 64 #[.val (.int p0), .val (.int p1), .val (.int p2), .val (.int p3), .val (.int v4_1), .val (.ref b2), .val (.ref b16), .val (.int v7_22), .unset, .unset, .unset] [(.ref b23), (.ref b23)])
  refine ogo (fun _ z_ => XS.iload X23.here hx rfl (hb hby at_64) rfl z_) ?_
  show OWay p e below G T23 (mkF m 66 #[.val (.int p0), .val (.int p1), .val (.int p2), .val (.int p3), .val (.int v4_1), .val (.ref b2), .val (.ref b16), .val (.int v7_22), .unset, .unset, .unset] [(.int v4_1), (.ref b23), (.ref b23)])
  refine ogo (fun _ z_ => XS.iloadN X23.here hx rfl (hb hby at_66) rfl z_) ?_
  show OWay p e below G T23 (mkF m 67 #[.val (.int p0), .val (.int p1), .val (.int p2), .val (.int p3), .val (.int v4_1), .val (.ref b2), .val (.ref b16), .val (.int v7_22), .unset, .unset, .unset] [(.int p1), (.int v4_1), (.ref b23), (.ref b23)])
  obtain ⟨_, T25, L25, X25, hQ25, st25⟩ := wInit X23 hx hZ (y := (⟨"com/example/slotwright/slotwright/Place", "<init>", "(II)V"⟩ : MethodName)) rfl hown (hw _ (List.mem_of_getElem? (i := 38) rfl)) (hw _ (List.mem_of_getElem? (i := 39) rfl)) (hw _ (List.mem_of_getElem? (i := 37) rfl)) (hw _ (List.mem_of_getElem? (i := 40) rfl)) (by decide) (ctor8_c l Z az hw [] b23 v4_1 p1 h23 n0 (Nat.le_trans (Nat.le_trans (Nat.le_trans (Nat.le_trans (Nat.le_trans (Nat.le_trans (Nat.le_trans Z0 E2.1) (Keep.of_wr W6).1) (Keep.of_wr W10).1) (Keep.of_wr W14).1) E16.1) Kq18.1) E23.1) A23 g_b23 F_line_b23 F_column_b23) 1 (by decide) (by decide) (g := (mkF m 67 #[.val (.int p0), .val (.int p1), .val (.int p2), .val (.int p3), .val (.int v4_1), .val (.ref b2), .val (.ref b16), .val (.int v7_22), .unset, .unset, .unset] [(.int p1), (.int v4_1), (.ref b23), (.ref b23)])) rfl (by rw [hml]; rfl) (a := b23) (argsL := [(.int v4_1), (.int p1)]) (rest := [(.ref b23)]) (lenOf pd__II_V rfl) rfl (by show 2 * 0 + _ ≤ _; exact Nat.le_of_eq rfl) (hb hby at_67) rfl eT23 (by decide) (by decide)
  obtain ⟨rfl, N25q, Kq25, P26, P27⟩ := hQ25
  have N25 := Fr.app N18 N25q
  have K28 : Keep h0 T25.heap [] := K24.trans Kq25 (allS (Or.inr sz_b23) all0)
  refine ogoS st25 ?_
  show OWay p e below G T25 (mkF m 70 #[.val (.int p0), .val (.int p1), .val (.int p2), .val (.int p3), .val (.int v4_1), .val (.ref b2), .val (.ref b16), .val (.int v7_22), .unset, .unset, .unset] [(.ref b23)])
  refine ogo (fun _ z_ => XS.astore X25.here hx rfl (hb hby at_70) rfl rfl (l' := #[.val (.int p0), .val (.int p1), .val (.int p2), .val (.int p3), .val (.int v4_1), .val (.ref b2), .val (.ref b16), .val (.int v7_22), .val (.ref b23), .unset, .unset]) rfl z_) ?_
  show OWay p e below G T25 (mkF m 72 #[.val (.int p0), .val (.int p1), .val (.int p2), .val (.int p3), .val (.int v4_1), .val (.ref b2), .val (.ref b16), .val (.int v7_22), .val (.ref b23), .unset, .unset] [])
  refine ogo (fun _ z_ => XS.iload X25.here hx rfl (hb hby at_72) rfl z_) ?_
  show OWay p e below G T25 (mkF m 74 #[.val (.int p0), .val (.int p1), .val (.int p2), .val (.int p3), .val (.int v4_1), .val (.ref b2), .val (.ref b16), .val (.int v7_22), .val (.ref b23), .unset, .unset] [(.int v4_1)])
  have J30 : ∀ (us0_29 : Int32), us0_29 = (if v4_1 = (0 : Int32) then (0 : Int32) else (1 : Int32)) → OWay p e below G T25 (mkF m 82 #[.val (.int p0), .val (.int p1), .val (.int p2), .val (.int p3), .val (.int v4_1), .val (.ref b2), .val (.ref b16), .val (.int v7_22), .val (.ref b23), .unset, .unset] [(.int us0_29)]) := by
    intro us0_29 hus0_29
    refine ogo (fun _ z_ => XS.istore X25.here hx rfl (hb hby at_82) rfl (l' := #[.val (.int p0), .val (.int p1), .val (.int p2), .val (.int p3), .val (.int v4_1), .val (.ref b2), .val (.ref b16), .val (.int v7_22), .val (.ref b23), .val (.int us0_29), .unset]) rfl z_) ?_
    show OWay p e below G T25 (mkF m 84 #[.val (.int p0), .val (.int p1), .val (.int p2), .val (.int p3), .val (.int v4_1), .val (.ref b2), .val (.ref b16), .val (.int v7_22), .val (.ref b23), .val (.int us0_29), .unset] [])
    refine ogo (fun _ z_ => XS.aload X25.here hx rfl (hb hby at_84) rfl rfl z_) ?_
    show OWay p e below G T25 (mkF m 86 #[.val (.int p0), .val (.int p1), .val (.int p2), .val (.int p3), .val (.int v4_1), .val (.ref b2), .val (.ref b16), .val (.int v7_22), .val (.ref b23), .val (.int us0_29), .unset] [(.ref b23)])
    have F32 : Exa Z T25.heap b23 "com/example/slotwright/slotwright/Place" := (A23.keep Kq25)
    obtain ⟨_, T31, L31, X31, hQ31, st31⟩ := wVirtual X25 hx hZ (y := (⟨"com/example/slotwright/slotwright/Place", "known", "()Z"⟩ : MethodName)) (z := (⟨"com/example/slotwright/slotwright/Place", "known", "()Z"⟩ : MethodName)) hown (hw _ (List.mem_of_getElem? (i := 51) rfl)) (hw _ (List.mem_of_getElem? (i := 52) rfl)) (notFace_of_selects (args := #[]) (mvT hZ (hw _ (List.mem_of_getElem? (i := 54) rfl)))) (hw _ (List.mem_of_getElem? (i := 54) rfl)) (hw _ (List.mem_of_getElem? (i := 53) rfl)) (hw _ (List.mem_of_getElem? (i := 37) rfl)) (hw _ (List.mem_of_getElem? (i := 55) rfl)) (by decide) (kn_b_c l Z az hw [] b23 v4_1 T25.heap n0 (Nat.le_trans (Nat.le_trans (Nat.le_trans (Nat.le_trans (Nat.le_trans (Nat.le_trans (Nat.le_trans (Nat.le_trans Z0 E2.1) (Keep.of_wr W6).1) (Keep.of_wr W10).1) (Keep.of_wr W14).1) E16.1) Kq18.1) E23.1) Kq25.1) P26) 0 (by decide) (by decide) F32 (g := (mkF m 86 #[.val (.int p0), .val (.int p1), .val (.int p2), .val (.int p3), .val (.int v4_1), .val (.ref b2), .val (.ref b16), .val (.int v7_22), .val (.ref b23), .val (.int us0_29), .unset] [(.ref b23)])) rfl (by rw [hml]; rfl) (argsL := []) (rest := []) (lenOf pd___Z rfl) rfl (by show 2 * 0 + _ ≤ _; exact Nat.le_of_eq rfl) (hb hby at_86) rfl rfl (by decide) (by decide)
    obtain ⟨rfl, N31q, eq31⟩ := hQ31
    have N31 := Fr.app N25 N31q
    refine ogoS st31 ?_
    show OWay p e below G T31 (mkF m 89 #[.val (.int p0), .val (.int p1), .val (.int p2), .val (.int p3), .val (.int v4_1), .val (.ref b2), .val (.ref b16), .val (.int v7_22), .val (.ref b23), .val (.int us0_29), .unset] [(.int (kn v4_1))])
    refine ogo (fun _ z_ => XS.iload X31.here hx rfl (hb hby at_89) rfl z_) ?_
    show OWay p e below G T31 (mkF m 91 #[.val (.int p0), .val (.int p1), .val (.int p2), .val (.int p3), .val (.int v4_1), .val (.ref b2), .val (.ref b16), .val (.int v7_22), .val (.ref b23), .val (.int us0_29), .unset] [(.int us0_29), (.int (kn v4_1))])
    refine ogo (fun _ z_ => XS.icmpYes X31.here hx rfl (pc0 := 91) (pc' := 96) rfl (hb hby at_91) rfl (teq (by rw [hus0_29]; exact own_kn p0 _ hv4_1)).1 (by decide) (by decide) z_) ?_
    show OWay p e below G T31 (mkF m 96 #[.val (.int p0), .val (.int p1), .val (.int p2), .val (.int p3), .val (.int v4_1), .val (.ref b2), .val (.ref b16), .val (.int v7_22), .val (.ref b23), .val (.int us0_29), .unset] [])
    have F33 : Old Z n0 T25.heap := (((F20.keep Kq18 (allS g_b16 all0)).ext E23).keep Kq25 (allS g_b23 all0))
    obtain ⟨T34, X34, eT34, st34⟩ := getS2 X31 hx hZ hown (host := "") (Or.inl (hw _ (List.mem_of_getElem? (i := 56) rfl))) Via.refl eq31 (hp3.ext F33.2) (g := (mkF m 96 #[.val (.int p0), .val (.int p1), .val (.int p2), .val (.int p3), .val (.int v4_1), .val (.ref b2), .val (.ref b16), .val (.int v7_22), .val (.ref b23), .val (.int us0_29), .unset] [])) rfl (hb hby at_96)
    refine ogo st34 ?_
    show OWay p e below G T34 (mkF m 99 #[.val (.int p0), .val (.int p1), .val (.int p2), .val (.int p3), .val (.int v4_1), .val (.ref b2), .val (.ref b16), .val (.int v7_22), .val (.ref b23), .val (.int us0_29), .unset] [(.ref eN)])
    obtain ⟨_, T35, L35, X35, hQ35, st35⟩ := wVirtual X34 hx hZ (y := (⟨"com/example/slotwright/slotwright/Place", "known", "()Z"⟩ : MethodName)) (z := (⟨"com/example/slotwright/slotwright/Place", "known", "()Z"⟩ : MethodName)) hown (hw _ (List.mem_of_getElem? (i := 51) rfl)) (hw _ (List.mem_of_getElem? (i := 52) rfl)) (notFace_of_selects (args := #[]) (mvT hZ (hw _ (List.mem_of_getElem? (i := 54) rfl)))) (hw _ (List.mem_of_getElem? (i := 54) rfl)) (hw _ (List.mem_of_getElem? (i := 53) rfl)) (hw _ (List.mem_of_getElem? (i := 37) rfl)) (hw _ (List.mem_of_getElem? (i := 55) rfl)) (by decide) (kn_b_c l Z az hw [] eN (0 : Int32) T25.heap n0 (Nat.le_trans (Nat.le_trans (Nat.le_trans (Nat.le_trans (Nat.le_trans (Nat.le_trans (Nat.le_trans (Nat.le_trans Z0 E2.1) (Keep.of_wr W6).1) (Keep.of_wr W10).1) (Keep.of_wr W14).1) E16.1) Kq18.1) E23.1) Kq25.1) (hp5.ext F33.2)) 0 (by decide) (by decide) (hp4.ext F33.2) (g := (mkF m 99 #[.val (.int p0), .val (.int p1), .val (.int p2), .val (.int p3), .val (.int v4_1), .val (.ref b2), .val (.ref b16), .val (.int v7_22), .val (.ref b23), .val (.int us0_29), .unset] [(.ref eN)])) rfl (by rw [hml]; rfl) (argsL := []) (rest := []) (lenOf pd___Z rfl) rfl (by show 2 * 0 + _ ≤ _; exact Nat.le_of_eq rfl) (hb hby at_99) rfl eT34 (by decide) (by decide)
    obtain ⟨rfl, N35q, eq35⟩ := hQ35
    have N35 := Fr.app N31 N35q
    refine ogoS st35 ?_
    show OWay p e below G T35 (mkF m 102 #[.val (.int p0), .val (.int p1), .val (.int p2), .val (.int p3), .val (.int v4_1), .val (.ref b2), .val (.ref b16), .val (.int v7_22), .val (.ref b23), .val (.int us0_29), .unset] [(.int (kn (0 : Int32)))])
    refine ogo (fun _ z_ => XS.ifYes X35.here hx rfl (pc0 := 102) (pc' := 107) rfl (hb hby at_102) rfl ((if0 _ _).trans (teq (by decide)).1) (by decide) (by decide) z_) ?_
    show OWay p e below G T35 (mkF m 107 #[.val (.int p0), .val (.int p1), .val (.int p2), .val (.int p3), .val (.int v4_1), .val (.ref b2), .val (.ref b16), .val (.int v7_22), .val (.ref b23), .val (.int us0_29), .unset] [])
    refine ogo (fun _ z_ => XS.aload X35.here hx rfl (hb hby at_107) rfl rfl z_) ?_
    show OWay p e below G T35 (mkF m 109 #[.val (.int p0), .val (.int p1), .val (.int p2), .val (.int p3), .val (.int v4_1), .val (.ref b2), .val (.ref b16), .val (.int v7_22), .val (.ref b23), .val (.int us0_29), .unset] [(.ref b16)])
    refine ogo (fun _ z_ => XS.iload X35.here hx rfl (hb hby at_109) rfl z_) ?_
    show OWay p e below G T35 (mkF m 111 #[.val (.int p0), .val (.int p1), .val (.int p2), .val (.int p3), .val (.int v4_1), .val (.ref b2), .val (.ref b16), .val (.int v7_22), .val (.ref b23), .val (.int us0_29), .unset] [(.int v7_22), (.ref b16)])
    have F36 : Exa Z T25.heap b16 "java/lang/String" := (((A16.keep Kq18).ext E23).keep Kq25)
    have F37 : Fld Z T25.heap b16 "java/lang/String" "value" "[B" (.ref t18) := ((Vq18.ext E23).keep Kq25 (ninS (Nat.ne_of_lt (Nat.lt_of_lt_of_le Cq18.lt (Nat.le_of_eq g23.symm))) nin0))
    have F38 : Fld Z T25.heap b16 "java/lang/String" "coder" "B" (.int (0 : Int32)) := ((Cq18.ext E23).keep Kq25 (ninS (Nat.ne_of_lt (Nat.lt_of_lt_of_le Cq18.lt (Nat.le_of_eq g23.symm))) nin0))
    have F39 : Arv Z T25.heap t18 kb18 .byte (3 : Int32) [(.int ((nar .char (pk p2))).toInt8.toInt32), (.int ((nar .char (pk ((p2.toUInt32 >>> ((10 : Int32) &&& 31).toUInt32).toInt32)))).toInt8.toInt32), (.int ((nar .char (pk ((p2.toUInt32 >>> ((20 : Int32) &&& 31).toUInt32).toInt32)))).toInt8.toInt32)] (.int (0 : Int32)) := ((Aq18.ext E23).keep Kq25 (ninS (Nat.ne_of_lt (Nat.lt_of_lt_of_le Aq18.lt (Nat.le_of_eq g23.symm))) nin0))
    obtain ⟨_, T40, L40, X40, hQ40, st40⟩ := wStatic X35 hx hZ (y := (⟨"com/example/slotwright/slotwright/Place", "in", "(Ljava/lang/CharSequence;I)Lcom/example/slotwright/slotwright/Place;"⟩ : MethodName)) hown (hw _ (List.mem_of_getElem? (i := 58) rfl)) (hw _ (List.mem_of_getElem? (i := 59) rfl)) (hw _ (List.mem_of_getElem? (i := 37) rfl)) (hw _ (List.mem_of_getElem? (i := 60) rfl)) (by decide) (in_b_c l Z az hw [] b16 v7_22 t18 kb18 (nar .char (pk p2)) (nar .char (pk ((p2.toUInt32 >>> ((10 : Int32) &&& 31).toUInt32).toInt32))) (nar .char (pk ((p2.toUInt32 >>> ((20 : Int32) &&& 31).toUInt32).toInt32))) G1 fm T25.heap n0 (Nat.le_trans (Nat.le_trans (Nat.le_trans (Nat.le_trans (Nat.le_trans (Nat.le_trans (Nat.le_trans (Nat.le_trans Z0 E2.1) (Keep.of_wr W6).1) (Keep.of_wr W10).1) (Keep.of_wr W14).1) E16.1) Kq18.1) E23.1) Kq25.1) F36 F37 F38 F39 hp0 hp1 F33 hcp hfm hlat (own_ix p3 _ hv7_22)) 0 (by decide) (by decide) (g := (mkF m 111 #[.val (.int p0), .val (.int p1), .val (.int p2), .val (.int p3), .val (.int v4_1), .val (.ref b2), .val (.ref b16), .val (.int v7_22), .val (.ref b23), .val (.int us0_29), .unset] [(.int v7_22), (.ref b16)])) rfl (by rw [hml]; rfl) (argsL := [(.ref b16), (.int v7_22)]) (rest := []) (lenOf pd__Ljava_lang_CharSequence_I_Lcom_example_slotwright_slotwright_Place_ rfl) rfl (by show 2 * 0 + _ ≤ _; exact Nat.le_of_eq rfl) (hb hby at_111) rfl eq35 (by decide) (by decide)
    obtain ⟨b_41, ln_42, rfl, N40q, Kq40, P43, P44, P45, P46, pos_47⟩ := hQ40
    have N40 := Fr.app N35 N40q
    have K48 : Keep h0 T40.heap [] := K28.trans Kq40 all0
    have g_b_41 := P43
    have sz_b_41 : h0.size ≤ b_41 := Nat.le_trans K28.1 P44
    refine ogo st40 ?_
    show OWay p e below G T40 (mkF m 114 #[.val (.int p0), .val (.int p1), .val (.int p2), .val (.int p3), .val (.int v4_1), .val (.ref b2), .val (.ref b16), .val (.int v7_22), .val (.ref b23), .val (.int us0_29), .unset] [(.ref b_41)])
    have hpos := pos_47
    refine ogo (fun _ z_ => XS.astore X40.here hx rfl (hb hby at_114) rfl rfl (l' := #[.val (.int p0), .val (.int p1), .val (.int p2), .val (.int p3), .val (.int v4_1), .val (.ref b2), .val (.ref b16), .val (.int v7_22), .val (.ref b23), .val (.int us0_29), .val (.ref b_41)]) rfl z_) ?_
    show OWay p e below G T40 (mkF m 116 #[.val (.int p0), .val (.int p1), .val (.int p2), .val (.int p3), .val (.int v4_1), .val (.ref b2), .val (.ref b16), .val (.int v7_22), .val (.ref b23), .val (.int us0_29), .val (.ref b_41)] [])
    refine ogo (fun _ z_ => XS.aload X40.here hx rfl (hb hby at_116) rfl rfl z_) ?_
    show OWay p e below G T40 (mkF m 118 #[.val (.int p0), .val (.int p1), .val (.int p2), .val (.int p3), .val (.int v4_1), .val (.ref b2), .val (.ref b16), .val (.int v7_22), .val (.ref b23), .val (.int us0_29), .val (.ref b_41)] [(.ref b_41)])
    obtain ⟨_, T49, L49, X49, hQ49, st49⟩ := wVirtual X40 hx hZ (y := (⟨"com/example/slotwright/slotwright/Place", "known", "()Z"⟩ : MethodName)) (z := (⟨"com/example/slotwright/slotwright/Place", "known", "()Z"⟩ : MethodName)) hown (hw _ (List.mem_of_getElem? (i := 51) rfl)) (hw _ (List.mem_of_getElem? (i := 52) rfl)) (notFace_of_selects (args := #[]) (mvT hZ (hw _ (List.mem_of_getElem? (i := 54) rfl)))) (hw _ (List.mem_of_getElem? (i := 54) rfl)) (hw _ (List.mem_of_getElem? (i := 53) rfl)) (hw _ (List.mem_of_getElem? (i := 37) rfl)) (hw _ (List.mem_of_getElem? (i := 55) rfl)) (by decide) (kn_b_c l Z az hw [] b_41 ln_42 T40.heap n0 (Nat.le_trans (Nat.le_trans (Nat.le_trans (Nat.le_trans (Nat.le_trans (Nat.le_trans (Nat.le_trans (Nat.le_trans (Nat.le_trans Z0 E2.1) (Keep.of_wr W6).1) (Keep.of_wr W10).1) (Keep.of_wr W14).1) E16.1) Kq18.1) E23.1) Kq25.1) Kq40.1) P46) 0 (by decide) (by decide) P45 (g := (mkF m 118 #[.val (.int p0), .val (.int p1), .val (.int p2), .val (.int p3), .val (.int v4_1), .val (.ref b2), .val (.ref b16), .val (.int v7_22), .val (.ref b23), .val (.int us0_29), .val (.ref b_41)] [(.ref b_41)])) rfl (by rw [hml]; rfl) (argsL := []) (rest := []) (lenOf pd___Z rfl) rfl (by show 2 * 0 + _ ≤ _; exact Nat.le_of_eq rfl) (hb hby at_118) rfl rfl (by decide) (by decide)
    obtain ⟨rfl, N49q, eq49⟩ := hQ49
    have N49 := Fr.app N40 N49q
    refine ogoS st49 ?_
    show OWay p e below G T49 (mkF m 121 #[.val (.int p0), .val (.int p1), .val (.int p2), .val (.int p3), .val (.int v4_1), .val (.ref b2), .val (.ref b16), .val (.int v7_22), .val (.ref b23), .val (.int us0_29), .val (.ref b_41)] [(.int (kn ln_42))])
    refine ogoE (g' := (mkF m 121 #[.val (.int p0), .val (.int p1), .val (.int p2), .val (.int p3), .val (.int v4_1), .val (.ref b2), .val (.ref b16), .val (.int v7_22), .val (.ref b23), .val (.int us0_29), .val (.ref b_41)] [(.int (1 : Int32))])) (by rw [show (kn ln_42) = (1 : Int32) from own_kp _ hpos]) ?_
    subst hG
    refine wRetN X49 hx (t := .boolean) hret hlk (by simp) (hb hby at_121) (by decide) (by decide) eq49 ?_
    exact ⟨rfl, N49⟩
  by_cases c74 : v4_1 = (0 : Int32)
  · refine ogo (fun _ z_ => XS.ifYes X25.here hx rfl (pc0 := 74) (pc' := 81) rfl (hb hby at_74) rfl ((if0 _ _).trans (teq c74).1) (by decide) (by decide) z_) ?_
    show OWay p e below G T25 (mkF m 81 #[.val (.int p0), .val (.int p1), .val (.int p2), .val (.int p3), .val (.int v4_1), .val (.ref b2), .val (.ref b16), .val (.int v7_22), .val (.ref b23), .unset, .unset] [])
    refine ogo (fun _ z_ => XS.iconst X25.here hx rfl (hb hby at_81) z_) ?_
    show OWay p e below G T25 (mkF m 82 #[.val (.int p0), .val (.int p1), .val (.int p2), .val (.int p3), .val (.int v4_1), .val (.ref b2), .val (.ref b16), .val (.int v7_22), .val (.ref b23), .unset, .unset] [(.int (0 : Int32))])
    exact J30 _ ((if_pos c74).trans rfl).symm
  · refine ogo (fun _ z_ => XS.ifNo X25.here hx rfl (hb hby at_74) rfl ((if0 _ _).trans (feq c74).1) z_) ?_
    show OWay p e below G T25 (mkF m 77 #[.val (.int p0), .val (.int p1), .val (.int p2), .val (.int p3), .val (.int v4_1), .val (.ref b2), .val (.ref b16), .val (.int v7_22), .val (.ref b23), .unset, .unset] [])
    refine ogo (fun _ z_ => XS.iconst X25.here hx rfl (hb hby at_77) z_) ?_
    show OWay p e below G T25 (mkF m 78 #[.val (.int p0), .val (.int p1), .val (.int p2), .val (.int p3), .val (.int v4_1), .val (.ref b2), .val (.ref b16), .val (.int v7_22), .val (.ref b23), .unset, .unset] [(.int (1 : Int32))])
    refine ogo (fun _ z_ => XS.goto X25.here hx rfl (pc0 := 78) (pc' := 82) rfl (hb hby at_78) (by decide) (by decide) z_) ?_
    show OWay p e below G T25 (mkF m 82 #[.val (.int p0), .val (.int p1), .val (.int p2), .val (.int p3), .val (.int v4_1), .val (.ref b2), .val (.ref b16), .val (.int v7_22), .val (.ref b23), .unset, .unset] [(.int (1 : Int32))])
    exact J30 _ ((if_neg c74).trans rfl).symm
set_option maxRecDepth 65536 in
set_option maxHeartbeats 40000000 in
theorem comes_1 {Post : Tables → Env → Array Value → State → Outcome → State → Prop} (hpost : ∀ tb e args s v u, (limb_1_1.after args s (.returned v) u = true ∧ limb_1_2.after args s (.returned v) u = true ∧ True) → FrameEnd s (.returned v) u (Jvm.fieldLocs frame_1_writes args s ++ Jvm.arrayLocs frame_1_arrays args s ++ Jvm.staticLocs frame_1_statics s) 24 128 → Post tb e args s (.returned v) u) :
    ArmFor flags0 classFile x code maxLocals ret World_1 tables_1 room_1 Calls_1 rest_1 Pre_1 Post := by
  intro l hfl _ _ p e ha hc hk s m args below hf hA hF happ hP
  obtain ⟨hcalls, hrest, hpre⟩ := hP
  obtain ⟨-, -, -, hnamed, -, -, -, hat⟩ := (Spec.applies_iff hf).mp happ
  obtain ⟨hg, hn⟩ := and_e (Cond.before_iff.mp (show (Jvm.Cond.and given_1 narrow_1).before args s = true from hpre))
  obtain ⟨g1, g2⟩ := and_e hg
  obtain ⟨g3, g4⟩ := and_e g2
  obtain ⟨g5, g6⟩ := and_e g4
  obtain ⟨g7, g8⟩ := and_e g6
  obtain ⟨w0, w1, w2, w3, rfl⟩ : ∃ w0 w1 w2 w3 : Value, args = #[w0, w1, w2, w3] := by
    have hs : args.size = 4 := by simpa [Cond.value, given_1] using g1
    obtain ⟨L⟩ := args
    match L, hs with
    | [w0, w1, w2, w3], _ => exact ⟨w0, w1, w2, w3, rfl⟩
  have hw := fun d (hd : d ∈ tables_1) => atoms_spec (ws := Jvm.Cond.code x code maxLocals ret :: tables_1) hat d (List.mem_cons_of_mem _ hd)
  have hfit : Fit s := fun {y c} hc i hi => by
    obtain ⟨ha, rfl⟩ := Array.getElem?_eq_some_iff.mp hc
    have q := List.all_eq_true.mp ((Array.all_eq_true_iff_forall_mem.mp hF) _ (Array.getElem_mem ha)) i (List.mem_range.mpr hi)
    simpa [Array.getElem?_eq_getElem hi] using q
  obtain ⟨hsets, hown0⟩ := atoms_of _ (rest_1_c_eq ▸ (show rest_1_c.before _ s = true from hrest))
  have hr0 := Cond.before_iff.mp hown0
  obtain ⟨i0, ei0⟩ := is_v g3
  obtain rfl : w0 = (.int i0) := Option.some.inj ei0
  obtain ⟨i1, ei1⟩ := is_v g5
  obtain rfl : w1 = (.int i1) := Option.some.inj ei1
  obtain ⟨i2, ei2⟩ := is_v g7
  obtain rfl : w2 = (.int i2) := Option.some.inj ei2
  obtain ⟨i3, ei3⟩ := is_v g8
  obtain rfl : w3 = (.int i3) := Option.some.inj ei3
  obtain ⟨m0, hn⟩ := and_e hn
  have m1 := hn
  have n3 := not_v (Cond.before_iff.mp (hsets _ (List.mem_of_getElem? (i := 2) rfl)))
  obtain ⟨iC, eC⟩ := is_v (Cond.before_iff.mp (hsets _ (List.mem_of_getElem? (i := 1) rfl)))
  have SC : Sta s s.heap "java/lang/String" "COMPACT_STRINGS" "Z" (.int iC) := Sta.start eC (Or.inl (hsets _ (List.mem_of_getElem? (i := 0) rfl)))
  have cC : ¬ (iC = (0 : Int32)) := gotF (Cond.eq_ints eC (Term.int_eval (0))) n3
  obtain ⟨vF, eF, rF⟩ := isR_v (Cond.before_iff.mp (hsets _ (List.mem_of_getElem? (i := 8) rfl)))
  have SF := Sta.start eF (Or.inl (hsets _ (List.mem_of_getElem? (i := 7) rfl)))
  obtain ⟨eN, qN⟩ := exa_v m0
  have EN := Exa.start qN m0
  have FN := own_fld m1 qN (Term.int_eval _)
  have SN := Sta.start qN (Or.inr ⟨(hw _ (List.mem_of_getElem? (i := 37) rfl)), (hw _ (List.mem_of_getElem? (i := 57) rfl))⟩)
  obtain ⟨n, o, h1, h2, h3, _, L, rfl, ⟨rfl, N⟩, hq⟩ := law_c l s _ hw tables_1 i0 i1 i2 i3 iC vF eN s.heap s.heap.size (Nat.le_refl _) SC SF (Old.start s) SN EN FN cC rF p e ha hc hk s m _ below hf ((Spec.applies_iff_loose hf).mp happ).1 ⟨rfl, State.Warmed39.refl s, rfl⟩ trivial
  refine ⟨n, _, h1, h2, h3, hpost _ _ _ _ _ _ ⟨Cond.after_iff.mpr rfl, Cond.after_iff.mpr (eq_i res_at (Term.int_eval (1)) rfl), trivial⟩ ⟨hq.1, hq.2.1, (hq.2.2.sift fun y hy => Or.inr (N y hy)).mono (by decide) (by decide)⟩⟩
theorem main_1_1 : Claimed_1_1 := comes_1 fun _ _ _ _ _ _ h hF => ⟨h.1, hF⟩
theorem main_1_2 : Claimed_1_2 := comes_1 fun _ _ _ _ _ _ h hF => ⟨h.2.1, hF⟩
end Jvm.Pilot.@@N@@
namespace Jvm.Pilot.@@N@@
open Jvm Jvm.ClassFile Sem Op Lib Jvm.Free Jvm.Stand Jvm.Pilot.@@N@@.Jvm.D
/-! MADE BY PROGRAM (witnessworld.py) out of the Statement's table words and the real class files: 21 classes; the members and pool entries that the words name. The judged class is class 1, her method 2. -/
namespace start1
open Jvm.ClassFile
def u (s : String) : CpInfo := .utf8 (stringToUtf16 s)
/-- a pool by its gaps: so many unusable entries, then the entry; so many at the end -/
def gap : Nat → List CpInfo → List CpInfo
  | 0, r => r
  | n + 1, r => .unusable :: gap n r
def poolList (es : List (Nat × CpInfo)) (last : Nat) : List CpInfo := es.foldr (fun e r => gap e.1 (e.2 :: r)) (gap last [])
def pool (es : List (Nat × CpInfo)) (last : Nat) : Array CpInfo := ⟨poolList es last⟩
def fileOf (pool : Array CpInfo) (this : Nat) (attrs : Array Attribute := #[]) (ms : Array MethodInfo := #[]) (fl : Nat := 33) (sup : Nat := 0) (ifs : Array Nat := #[]) (fds : Array FieldInfo := #[]) : ClassFile where
  minorVersion := 0
  majorVersion := 65
  constantPool := pool
  accessFlags := fl
  thisClass := this
  superClass := sup
  interfaces := ifs
  fields := fds
  methods := ms
  attributes := attrs
def plain (name : String) (sup : Option ClassId) : Class where
  name := name
  kind := .ordinary
  loader := none
  accessFlags := 33
  super := sup
  interfaces := #[]
  cf := none
  fields := #[]
  methods := #[]
  instanceTypes := #[]
  staticTypes := #[]
  resolved := #[]
  callSites := []
  init := .initialized
  statics := none
  mirror := none

def pool0 : Array CpInfo := pool [(5, u "<init>"), (0, u "()V"), (1, .class_ 10), (1, u "java/lang/Object")] 113

def k0c0 : Code := { maxStack := 0, maxLocals := 1, code := object_method_1_code, exceptionTable := #[], attributes := #[] }
def k0m0 : Method := { name := "<init>", desc := "()V", sig := { parameters := [], returnType := none }, accessFlags := 1, code := some k0c0 }
/-- java/lang/Object -/
def k0 : Class := { plain "java/lang/Object" none with
  accessFlags := 33
  interfaces := #[]
  cf := some (fileOf pool0 8 #[] #[{ accessFlags := 1, nameIndex := 5, descriptorIndex := 6, attributes := #[] }] 33 0 #[] #[])
  fields := #[]
  methods := #[k0m0]
  instanceTypes := #[]
  staticTypes := #[]
  resolved := Array.replicate 124 none
  statics := none }

def pool1 : Array CpInfo := pool [(2, .class_ 4), (1, u "java/lang/Object"), (0, u "<init>"), (0, u "()V"), (0, .integer 2147483647), (0, .methodref 9 10), (0, .class_ 11), (0, .nameAndType 12 13), (0, u "com/example/slotwright/slotwright/PlaceKnownPinLaw"), (0, u "pick"), (0, u "(I)C"), (0, .class_ 15), (0, u "java/lang/String"), (0, .methodref 14 17), (0, .nameAndType 5 18), (0, u "([C)V"), (0, .class_ 20), (0, u "com/example/slotwright/slotwright/Place"), (0, .methodref 19 22), (0, .nameAndType 5 23), (0, u "(II)V"), (0, .methodref 19 25), (0, .nameAndType 26 27), (0, u "known"), (0, u "()Z"), (0, .fieldref 19 29), (0, .nameAndType 30 31), (0, u "NONE"), (0, u "Lcom/example/slotwright/slotwright/Place;"), (0, .methodref 19 33), (0, .nameAndType 34 35), (0, u "in"), (0, u "(Ljava/lang/CharSequence;I)Lcom/example/slotwright/slotwright/Place;"), (3, u "law"), (0, u "(IIII)Z")] 4

def k1m0 : Method := { name := "<init>", desc := "()V", sig := { parameters := [], returnType := none }, accessFlags := 1, code := none }
def k1c1 : Code := { maxStack := 2, maxLocals := 2, code := method_2_code, exceptionTable := #[], attributes := #[] }
def k1m1 : Method := { name := "pick", desc := "(I)C", sig := { parameters := [.int], returnType := some .char }, accessFlags := 10, code := some k1c1 }
def k1c2 : Code := { maxStack := 4, maxLocals := 11, code := code, exceptionTable := #[], attributes := #[] }
def k1m2 : Method := { name := "law", desc := "(IIII)Z", sig := { parameters := [.int, .int, .int, .int], returnType := some .boolean }, accessFlags := 9, code := some k1c2 }
/-- com/example/slotwright/slotwright/PlaceKnownPinLaw -/
def k1 : Class := { plain "com/example/slotwright/slotwright/PlaceKnownPinLaw" (some 0) with
  accessFlags := 49
  interfaces := #[]
  cf := some (fileOf pool1 9 #[] #[{ accessFlags := 1, nameIndex := 5, descriptorIndex := 6, attributes := #[] }, { accessFlags := 10, nameIndex := 12, descriptorIndex := 13, attributes := #[] }, { accessFlags := 9, nameIndex := 39, descriptorIndex := 40, attributes := #[] }] 49 2 #[] #[])
  fields := #[]
  methods := #[k1m0, k1m1, k1m2]
  instanceTypes := #[]
  staticTypes := #[]
  resolved := Array.replicate 45 none
  statics := none }

def pool2 : Array CpInfo := pool [(1, .class_ 2), (0, u "java/io/Serializable"), (0, .class_ 4), (0, u "java/lang/Object")] 2

/-- java/io/Serializable -/
def k2 : Class := { plain "java/io/Serializable" (some 0) with
  accessFlags := 1537
  interfaces := #[]
  cf := some (fileOf pool2 1 #[] #[] 1537 3 #[] #[])
  fields := #[]
  methods := #[]
  instanceTypes := #[]
  staticTypes := #[]
  resolved := Array.replicate 7 none
  statics := none }

def pool3 : Array CpInfo := pool [(1, .class_ 2), (0, u "java/lang/Comparable"), (0, .class_ 4), (0, u "java/lang/Object")] 7

/-- java/lang/Comparable -/
def k3 : Class := { plain "java/lang/Comparable" (some 0) with
  accessFlags := 1537
  interfaces := #[]
  cf := some (fileOf pool3 1 #[] #[] 1537 3 #[] #[])
  fields := #[]
  methods := #[]
  instanceTypes := #[]
  staticTypes := #[]
  resolved := Array.replicate 12 none
  statics := none }

def pool4 : Array CpInfo := pool [(2, .class_ 4), (1, u "java/lang/CharSequence"), (40, u "charAt"), (0, u "(I)C"), (0, .class_ 48), (0, u "java/lang/CharSequence$1CodePointIterator"), (10, .class_ 60), (0, u "java/lang/CharSequence$1CharIterator"), (5, .class_ 67), (0, u "java/lang/Object")] 63

def k4m0 : Method := { name := "charAt", desc := "(I)C", sig := { parameters := [.int], returnType := some .char }, accessFlags := 1025, code := none }
/-- java/lang/CharSequence -/
def k4 : Class := { plain "java/lang/CharSequence" (some 0) with
  accessFlags := 1537
  interfaces := #[]
  cf := some (fileOf pool4 2 #[.nestMembers #[47, 59]] #[{ accessFlags := 1025, nameIndex := 45, descriptorIndex := 46, attributes := #[] }] 1537 66 #[] #[])
  fields := #[]
  methods := #[k4m0]
  instanceTypes := #[]
  staticTypes := #[]
  resolved := Array.replicate 131 none
  statics := none }

def pool5 : Array CpInfo := pool [(1, .class_ 2), (0, u "java/lang/constant/Constable"), (0, .class_ 4), (0, u "java/lang/Object")] 6

/-- java/lang/constant/Constable -/
def k5 : Class := { plain "java/lang/constant/Constable" (some 0) with
  accessFlags := 1537
  interfaces := #[]
  cf := some (fileOf pool5 1 #[] #[] 1537 3 #[] #[])
  fields := #[]
  methods := #[]
  instanceTypes := #[]
  staticTypes := #[]
  resolved := Array.replicate 11 none
  statics := none }

def pool6 : Array CpInfo := pool [(1, .class_ 2), (0, u "java/lang/constant/ConstantDesc"), (0, .class_ 4), (0, u "java/lang/Object")] 32

/-- java/lang/constant/ConstantDesc -/
def k6 : Class := { plain "java/lang/constant/ConstantDesc" (some 0) with
  accessFlags := 1537
  interfaces := #[]
  cf := some (fileOf pool6 1 #[] #[] 1537 3 #[] #[])
  fields := #[]
  methods := #[]
  instanceTypes := #[]
  staticTypes := #[]
  resolved := Array.replicate 37 none
  statics := none }

def pool7 : Array CpInfo := pool [(1, .methodref 2 3), (0, .class_ 4), (0, .nameAndType 5 6), (0, u "java/lang/Object"), (0, u "<init>"), (0, u "()V"), (2, .fieldref 10 11), (0, .class_ 12), (0, .nameAndType 13 14), (0, u "java/lang/String"), (0, u "value"), (0, u "[B"), (0, .fieldref 10 16), (0, .nameAndType 17 18), (0, u "coder"), (0, u "B"), (2, u "hash"), (0, u "I"), (2, u "hashIsZero"), (0, u "Z"), (0, .methodref 10 28), (0, .nameAndType 5 29), (0, u "([CIILjava/lang/Void;)V"), (8, .fieldref 10 39), (0, .nameAndType 40 26), (0, u "COMPACT_STRINGS"), (1, .class_ 44), (1, u "java/lang/StringUTF16"), (0, u "compress"), (1, .methodref 42 48), (0, .nameAndType 49 50), (0, u "coderFromArrayLen"), (0, u "([BI)B"), (56, .class_ 109), (1, u "java/lang/StringLatin1"), (32, u "()Z"), (34, .methodref 42 178), (0, .nameAndType 45 179), (0, u "([CII)[B"), (183, u "([BI)C"), (27, u "(II)V"), (35, u "(I)C"), (64, .methodref 10 493), (0, .nameAndType 494 142), (0, u "isLatin1"), (0, .methodref 107 496), (0, .nameAndType 497 363), (0, u "charAt"), (3, u "checkIndex"), (73, .class_ 576), (0, u "java/lang/CharSequence"), (22, u "CASE_INSENSITIVE_ORDER"), (0, u "Ljava/util/Comparator;"), (409, u "([C)V"), (42, .fieldref 1054 1055), (0, .class_ 1056), (0, .nameAndType 1057 1058), (0, u "jdk/internal/util/Preconditions"), (0, u "SIOOBE_FORMATTER"), (0, u "Ljava/util/function/BiFunction;"), (0, .methodref 1054 1060), (0, .nameAndType 501 1061), (0, u "(IILjava/util/function/BiFunction;)I"), (39, u "serialPersistentFields"), (0, u "[Ljava/io/ObjectStreamField;"), (0, .class_ 1104), (0, u "java/lang/String$CaseInsensitiveComparator"), (1, .class_ 1107), (0, u "java/io/Serializable"), (0, .class_ 1109), (0, u "java/lang/Comparable"), (0, .class_ 1111), (0, u "java/lang/constant/Constable"), (0, .class_ 1113), (0, u "java/lang/constant/ConstantDesc"), (2, u "serialVersionUID"), (0, u "J"), (3, u "REPL"), (0, u "C"), (2, u "LATIN1"), (1, u "UTF16")] 323

def k7m0 : Method := { name := "<init>", desc := "()V", sig := { parameters := [], returnType := none }, accessFlags := 1, code := none }
def k7c1 : Code := { maxStack := 5, maxLocals := 2, code := jdk_42_method_3_code, exceptionTable := #[], attributes := #[] }
def k7m1 : Method := { name := "<init>", desc := "([C)V", sig := { parameters := [(.array .char)], returnType := none }, accessFlags := 1, code := some k7c1 }
def k7c2 : Code := { maxStack := 2, maxLocals := 2, code := jdk_42_method_56_code, exceptionTable := #[], attributes := #[] }
def k7m2 : Method := { name := "charAt", desc := "(I)C", sig := { parameters := [.int], returnType := some .char }, accessFlags := 1, code := some k7c2 }
def k7c3 : Code := { maxStack := 4, maxLocals := 6, code := jdk_42_method_149_code, exceptionTable := #[], attributes := #[] }
def k7m3 : Method := { name := "<init>", desc := "([CIILjava/lang/Void;)V", sig := { parameters := [(.array .char), .int, .int, (.object "java/lang/Void")], returnType := none }, accessFlags := 2, code := some k7c3 }
def k7c4 : Code := { maxStack := 1, maxLocals := 1, code := jdk_42_method_154_code, exceptionTable := #[], attributes := #[] }
def k7m4 : Method := { name := "isLatin1", desc := "()Z", sig := { parameters := [], returnType := some .boolean }, accessFlags := 0, code := some k7c4 }
def k7c5 : Code := { maxStack := 3, maxLocals := 2, code := jdk_42_method_155_code, exceptionTable := #[], attributes := #[] }
def k7m5 : Method := { name := "checkIndex", desc := "(II)V", sig := { parameters := [.int, .int], returnType := none }, accessFlags := 8, code := some k7c5 }
/-- java/lang/String -/
def k7 : Class := { plain "java/lang/String" (some 0) with
  accessFlags := 49
  interfaces := #[2, 3, 4, 5, 6]
  cf := some (fileOf pool7 10 #[.nestMembers #[1103]] #[{ accessFlags := 1, nameIndex := 5, descriptorIndex := 6, attributes := #[] }, { accessFlags := 1, nameIndex := 5, descriptorIndex := 1010, attributes := #[] }, { accessFlags := 1, nameIndex := 497, descriptorIndex := 427, attributes := #[] }, { accessFlags := 2, nameIndex := 5, descriptorIndex := 29, attributes := #[] }, { accessFlags := 0, nameIndex := 494, descriptorIndex := 142, attributes := #[] }, { accessFlags := 8, nameIndex := 501, descriptorIndex := 391, attributes := #[] }] 49 2 #[1106, 1108, 575, 1110, 1112] #[{ accessFlags := 18, nameIndex := 13, descriptorIndex := 14, attributes := #[] }, { accessFlags := 18, nameIndex := 17, descriptorIndex := 18, attributes := #[] }, { accessFlags := 2, nameIndex := 21, descriptorIndex := 22, attributes := #[] }, { accessFlags := 2, nameIndex := 25, descriptorIndex := 26, attributes := #[] }, { accessFlags := 26, nameIndex := 1116, descriptorIndex := 1117, attributes := #[] }, { accessFlags := 24, nameIndex := 40, descriptorIndex := 26, attributes := #[] }, { accessFlags := 26, nameIndex := 1101, descriptorIndex := 1102, attributes := #[] }, { accessFlags := 26, nameIndex := 1121, descriptorIndex := 1122, attributes := #[] }, { accessFlags := 25, nameIndex := 599, descriptorIndex := 600, attributes := #[] }, { accessFlags := 24, nameIndex := 1125, descriptorIndex := 18, attributes := #[] }, { accessFlags := 24, nameIndex := 1127, descriptorIndex := 18, attributes := #[] }])
  fields := #[{ name := "value", type := (.array .byte), accessFlags := 18, slot := 0, constantValue := 0 }, { name := "coder", type := .byte, accessFlags := 18, slot := 1, constantValue := 0 }, { name := "hash", type := .int, accessFlags := 2, slot := 2, constantValue := 0 }, { name := "hashIsZero", type := .boolean, accessFlags := 2, slot := 3, constantValue := 0 }, { name := "serialVersionUID", type := .long, accessFlags := 26, slot := 0, constantValue := 0 }, { name := "COMPACT_STRINGS", type := .boolean, accessFlags := 24, slot := 1, constantValue := 0 }, { name := "serialPersistentFields", type := (.array (.object "java/io/ObjectStreamField")), accessFlags := 26, slot := 2, constantValue := 0 }, { name := "REPL", type := .char, accessFlags := 26, slot := 3, constantValue := 0 }, { name := "CASE_INSENSITIVE_ORDER", type := (.object "java/util/Comparator"), accessFlags := 25, slot := 4, constantValue := 0 }, { name := "LATIN1", type := .byte, accessFlags := 24, slot := 5, constantValue := 0 }, { name := "UTF16", type := .byte, accessFlags := 24, slot := 6, constantValue := 0 }]
  methods := #[k7m0, k7m1, k7m2, k7m3, k7m4, k7m5]
  instanceTypes := #[(.array .byte), .byte, .int, .boolean]
  staticTypes := #[.long, .boolean, (.array (.object "java/io/ObjectStreamField")), .char, (.object "java/util/Comparator"), .byte, .byte]
  resolved := Array.replicate 1451 none
  statics := some 0 }

def pool8 : Array CpInfo := pool [(6, .class_ 8), (1, u "java/lang/Object"), (0, u "<init>"), (0, u "()V"), (1, .class_ 14), (1, u "java/lang/StringUTF16"), (31, u "$assertionsDisabled"), (0, u "Z"), (13, u "HI_BYTE_SHIFT"), (0, u "I"), (2, u "LO_BYTE_SHIFT"), (49, .methodref 12 116), (0, .nameAndType 117 118), (0, u "compress"), (0, u "([CI[BII)I"), (3, u "([CII)[B"), (138, u "coderFromArrayLen"), (0, u "([BI)B"), (106, .class_ 371), (1, u "java/lang/StringUTF16$LinesSpliterator"), (58, u "MAX_LENGTH"), (196, .class_ 628), (0, u "java/lang/StringUTF16$CodePointsSpliterator"), (0, .class_ 630), (0, u "java/lang/StringUTF16$CharsSpliterator")] 4

def k8m0 : Method := { name := "<init>", desc := "()V", sig := { parameters := [], returnType := none }, accessFlags := 0, code := none }
def k8c1 : Code := { maxStack := 2, maxLocals := 2, code := jdk_52_method_15_code, exceptionTable := #[], attributes := #[] }
def k8m1 : Method := { name := "coderFromArrayLen", desc := "([BI)B", sig := { parameters := [(.array .byte), .int], returnType := some .byte }, accessFlags := 8, code := some k8c1 }
def k8c2 : Code := { maxStack := 5, maxLocals := 6, code := jdk_52_method_16_code, exceptionTable := #[], attributes := #[] }
def k8m2 : Method := { name := "compress", desc := "([CII)[B", sig := { parameters := [(.array .char), .int, .int], returnType := some (.array .byte) }, accessFlags := 9, code := some k8c2 }
def k8c3 : Code := { maxStack := 3, maxLocals := 7, code := jdk_52_method_21_code, exceptionTable := #[], attributes := #[] }
def k8m3 : Method := { name := "compress", desc := "([CI[BII)I", sig := { parameters := [(.array .char), .int, (.array .byte), .int, .int], returnType := some .int }, accessFlags := 9, code := some k8c3 }
/-- java/lang/StringUTF16 -/
def k8 : Class := { plain "java/lang/StringUTF16" (some 0) with
  accessFlags := 48
  interfaces := #[]
  cf := some (fileOf pool8 12 #[.nestMembers #[627, 629, 369]] #[{ accessFlags := 0, nameIndex := 9, descriptorIndex := 10, attributes := #[] }, { accessFlags := 8, nameIndex := 261, descriptorIndex := 262, attributes := #[] }, { accessFlags := 9, nameIndex := 117, descriptorIndex := 122, attributes := #[] }, { accessFlags := 9, nameIndex := 117, descriptorIndex := 118, attributes := #[] }] 48 6 #[] #[{ accessFlags := 26, nameIndex := 61, descriptorIndex := 62, attributes := #[] }, { accessFlags := 26, nameIndex := 65, descriptorIndex := 62, attributes := #[] }, { accessFlags := 24, nameIndex := 430, descriptorIndex := 62, attributes := #[] }, { accessFlags := 4120, nameIndex := 46, descriptorIndex := 47, attributes := #[] }])
  fields := #[{ name := "HI_BYTE_SHIFT", type := .int, accessFlags := 26, slot := 0, constantValue := 0 }, { name := "LO_BYTE_SHIFT", type := .int, accessFlags := 26, slot := 1, constantValue := 0 }, { name := "MAX_LENGTH", type := .int, accessFlags := 24, slot := 2, constantValue := 0 }, { name := "$assertionsDisabled", type := .boolean, accessFlags := 4120, slot := 3, constantValue := 0 }]
  methods := #[k8m0, k8m1, k8m2, k8m3]
  instanceTypes := #[]
  staticTypes := #[.int, .int, .int, .boolean]
  resolved := Array.replicate 635 none
  statics := none }

def pool9 : Array CpInfo := pool [(1, .methodref 2 3), (0, .class_ 4), (0, .nameAndType 5 6), (0, u "java/lang/Object"), (0, u "<init>"), (0, u "()V"), (0, .class_ 8), (0, u "java/lang/Record")] 13

def k9c0 : Code := { maxStack := 1, maxLocals := 1, code := jdk_30_method_1_code, exceptionTable := #[], attributes := #[] }
def k9m0 : Method := { name := "<init>", desc := "()V", sig := { parameters := [], returnType := none }, accessFlags := 4, code := some k9c0 }
/-- java/lang/Record -/
def k9 : Class := { plain "java/lang/Record" (some 0) with
  accessFlags := 1057
  interfaces := #[]
  cf := some (fileOf pool9 7 #[] #[{ accessFlags := 4, nameIndex := 5, descriptorIndex := 6, attributes := #[] }] 1057 2 #[] #[])
  fields := #[]
  methods := #[k9m0]
  instanceTypes := #[]
  staticTypes := #[]
  resolved := Array.replicate 22 none
  statics := none }

def pool10 : Array CpInfo := pool [(1, .methodref 2 3), (0, .class_ 4), (0, .nameAndType 5 6), (0, u "java/lang/Record"), (0, u "<init>"), (0, u "()V"), (0, .fieldref 8 9), (0, .class_ 10), (0, .nameAndType 11 12), (0, u "com/example/slotwright/slotwright/Place"), (0, u "line"), (0, u "I"), (0, .fieldref 8 14), (0, .nameAndType 15 12), (0, u "column"), (11, u "NONE"), (0, u "Lcom/example/slotwright/slotwright/Place;"), (0, .methodref 8 30), (0, .nameAndType 5 31), (0, u "(II)V"), (0, .interfaceMethodref 33 34), (0, .class_ 35), (0, .nameAndType 36 37), (0, u "java/lang/CharSequence"), (0, u "charAt"), (0, u "(I)C"), (18, u "in"), (0, u "(Ljava/lang/CharSequence;I)Lcom/example/slotwright/slotwright/Place;"), (0, u "known"), (0, u "()Z")] 33

def k10c0 : Code := { maxStack := 2, maxLocals := 3, code := prog_47_method_1_code, exceptionTable := #[], attributes := #[] }
def k10m0 : Method := { name := "<init>", desc := "(II)V", sig := { parameters := [.int, .int], returnType := none }, accessFlags := 0, code := some k10c0 }
def k10c1 : Code := { maxStack := 5, maxLocals := 6, code := prog_47_method_3_code, exceptionTable := #[], attributes := #[] }
def k10m1 : Method := { name := "in", desc := "(Ljava/lang/CharSequence;I)Lcom/example/slotwright/slotwright/Place;", sig := { parameters := [(.object "java/lang/CharSequence"), .int], returnType := some (.object "com/example/slotwright/slotwright/Place") }, accessFlags := 8, code := some k10c1 }
def k10c2 : Code := { maxStack := 1, maxLocals := 1, code := prog_47_method_4_code, exceptionTable := #[], attributes := #[] }
def k10m2 : Method := { name := "known", desc := "()Z", sig := { parameters := [], returnType := some .boolean }, accessFlags := 0, code := some k10c2 }
/-- com/example/slotwright/slotwright/Place -/
def k10 : Class := { plain "com/example/slotwright/slotwright/Place" (some 9) with
  accessFlags := 48
  interfaces := #[]
  cf := some (fileOf pool10 8 #[] #[{ accessFlags := 0, nameIndex := 5, descriptorIndex := 31, attributes := #[] }, { accessFlags := 8, nameIndex := 56, descriptorIndex := 57, attributes := #[] }, { accessFlags := 0, nameIndex := 58, descriptorIndex := 59, attributes := #[] }] 48 2 #[] #[{ accessFlags := 18, nameIndex := 11, descriptorIndex := 12, attributes := #[] }, { accessFlags := 18, nameIndex := 15, descriptorIndex := 12, attributes := #[] }, { accessFlags := 24, nameIndex := 27, descriptorIndex := 28, attributes := #[] }])
  fields := #[{ name := "line", type := .int, accessFlags := 18, slot := 0, constantValue := 0 }, { name := "column", type := .int, accessFlags := 18, slot := 1, constantValue := 0 }, { name := "NONE", type := (.object "com/example/slotwright/slotwright/Place"), accessFlags := 24, slot := 0, constantValue := 0 }]
  methods := #[k10m0, k10m1, k10m2]
  instanceTypes := #[.int, .int]
  staticTypes := #[(.object "com/example/slotwright/slotwright/Place")]
  resolved := Array.replicate 93 none
  statics := some 1 }

def pool11 : Array CpInfo := pool [(1, .class_ 2), (0, u "java/lang/String"), (1, .class_ 6), (1, u "java/lang/Object"), (0, u "<init>"), (0, u "()V"), (0, .methodref 1 10), (0, .nameAndType 11 12), (0, u "checkIndex"), (0, u "(II)V"), (1, .class_ 16), (1, u "java/lang/StringLatin1"), (36, u "([BI)C"), (67, u "$assertionsDisabled"), (0, u "Z"), (98, .class_ 223), (1, u "java/lang/StringLatin1$LinesSpliterator"), (28, u "charAt"), (137, .class_ 391), (0, u "java/lang/StringLatin1$CharsSpliterator")] 3

def k11m0 : Method := { name := "<init>", desc := "()V", sig := { parameters := [], returnType := none }, accessFlags := 0, code := none }
def k11c1 : Code := { maxStack := 2, maxLocals := 2, code := jdk_43_method_2_code, exceptionTable := #[], attributes := #[] }
def k11m1 : Method := { name := "charAt", desc := "([BI)C", sig := { parameters := [(.array .byte), .int], returnType := some .char }, accessFlags := 9, code := some k11c1 }
/-- java/lang/StringLatin1 -/
def k11 : Class := { plain "java/lang/StringLatin1" (some 0) with
  accessFlags := 48
  interfaces := #[]
  cf := some (fileOf pool11 14 #[.nestMembers #[390, 221]] #[{ accessFlags := 0, nameIndex := 7, descriptorIndex := 8, attributes := #[] }, { accessFlags := 9, nameIndex := 252, descriptorIndex := 53, attributes := #[] }] 48 4 #[] #[{ accessFlags := 4120, nameIndex := 121, descriptorIndex := 122, attributes := #[] }])
  fields := #[{ name := "$assertionsDisabled", type := .boolean, accessFlags := 4120, slot := 0, constantValue := 0 }]
  methods := #[k11m0, k11m1]
  instanceTypes := #[]
  staticTypes := #[.boolean]
  resolved := Array.replicate 395 none
  statics := none }

def pool12 : Array CpInfo := pool [(2, .class_ 4), (1, u "java/lang/Object"), (0, u "<init>"), (0, u "()V"), (17, .class_ 26), (1, u "jdk/internal/util/Preconditions"), (6, u "checkIndex"), (21, .class_ 56), (0, u "jdk/internal/util/Preconditions$4"), (57, .class_ 115), (0, u "jdk/internal/util/Preconditions$1"), (7, u "SIOOBE_FORMATTER"), (0, u "Ljava/util/function/BiFunction;"), (0, .class_ 126), (0, u "jdk/internal/util/Preconditions$2"), (3, u "AIOOBE_FORMATTER"), (0, .class_ 132), (0, u "jdk/internal/util/Preconditions$3"), (3, u "IOOBE_FORMATTER"), (41, u "(IILjava/util/function/BiFunction;)I")] 15

def k12m0 : Method := { name := "<init>", desc := "()V", sig := { parameters := [], returnType := none }, accessFlags := 1, code := none }
def k12c1 : Code := { maxStack := 3, maxLocals := 3, code := jdk_41_method_11_code, exceptionTable := #[], attributes := #[] }
def k12m1 : Method := { name := "checkIndex", desc := "(IILjava/util/function/BiFunction;)I", sig := { parameters := [.int, .int, (.object "java/util/function/BiFunction")], returnType := some .int }, accessFlags := 9, code := some k12c1 }
/-- jdk/internal/util/Preconditions -/
def k12 : Class := { plain "jdk/internal/util/Preconditions" (some 0) with
  accessFlags := 33
  interfaces := #[]
  cf := some (fileOf pool12 24 #[.nestMembers #[55, 131, 125, 114]] #[{ accessFlags := 1, nameIndex := 5, descriptorIndex := 6, attributes := #[] }, { accessFlags := 9, nameIndex := 33, descriptorIndex := 178, attributes := #[] }] 33 2 #[] #[{ accessFlags := 25, nameIndex := 123, descriptorIndex := 124, attributes := #[] }, { accessFlags := 25, nameIndex := 130, descriptorIndex := 124, attributes := #[] }, { accessFlags := 25, nameIndex := 136, descriptorIndex := 124, attributes := #[] }])
  fields := #[{ name := "SIOOBE_FORMATTER", type := (.object "java/util/function/BiFunction"), accessFlags := 25, slot := 0, constantValue := 0 }, { name := "AIOOBE_FORMATTER", type := (.object "java/util/function/BiFunction"), accessFlags := 25, slot := 1, constantValue := 0 }, { name := "IOOBE_FORMATTER", type := (.object "java/util/function/BiFunction"), accessFlags := 25, slot := 2, constantValue := 0 }]
  methods := #[k12m0, k12m1]
  instanceTypes := #[]
  staticTypes := #[(.object "java/util/function/BiFunction"), (.object "java/util/function/BiFunction"), (.object "java/util/function/BiFunction")]
  resolved := Array.replicate 194 none
  statics := some 2 }

def pool13 : Array CpInfo := pool [(9, u "<init>"), (6, .class_ 18), (1, u "java/lang/Object"), (0, u "()V"), (1, .class_ 23), (1, u "jdk/internal/util/ArraysSupport"), (0, u "LOG2_ARRAY_LONG_INDEX_SCALE"), (0, u "I"), (2, u "U"), (0, u "Ljdk/internal/misc/Unsafe;"), (8, u "BIG_ENDIAN"), (0, u "Z"), (8, u "LOG2_BYTE_BIT_SIZE"), (4, u "LOG2_ARRAY_INT_INDEX_SCALE"), (54, u "JLA"), (0, u "Ljdk/internal/access/JavaLangAccess;"), (11, u "LOG2_ARRAY_BOOLEAN_INDEX_SCALE"), (9, u "LOG2_ARRAY_BYTE_INDEX_SCALE"), (5, u "LOG2_ARRAY_CHAR_INDEX_SCALE"), (5, u "LOG2_ARRAY_SHORT_INDEX_SCALE"), (18, u "LOG2_ARRAY_FLOAT_INDEX_SCALE"), (24, u "LOG2_ARRAY_DOUBLE_INDEX_SCALE"), (89, u "T_BOOLEAN"), (2, u "T_CHAR"), (1, u "T_FLOAT"), (1, u "T_DOUBLE"), (1, u "T_BYTE"), (1, u "T_SHORT"), (1, u "T_INT"), (1, u "T_LONG"), (1, u "SOFT_MAX_ARRAY_LENGTH")] 83

def k13m0 : Method := { name := "<init>", desc := "()V", sig := { parameters := [], returnType := none }, accessFlags := 2, code := none }
/-- jdk/internal/util/ArraysSupport -/
def k13 : Class := { plain "jdk/internal/util/ArraysSupport" (some 0) with
  accessFlags := 33
  interfaces := #[]
  cf := some (fileOf pool13 21 #[] #[{ accessFlags := 2, nameIndex := 9, descriptorIndex := 19, attributes := #[] }] 33 16 #[] #[{ accessFlags := 24, nameIndex := 28, descriptorIndex := 29, attributes := #[] }, { accessFlags := 26, nameIndex := 38, descriptorIndex := 39, attributes := #[] }, { accessFlags := 25, nameIndex := 121, descriptorIndex := 25, attributes := #[] }, { accessFlags := 25, nameIndex := 131, descriptorIndex := 25, attributes := #[] }, { accessFlags := 25, nameIndex := 137, descriptorIndex := 25, attributes := #[] }, { accessFlags := 25, nameIndex := 143, descriptorIndex := 25, attributes := #[] }, { accessFlags := 25, nameIndex := 53, descriptorIndex := 25, attributes := #[] }, { accessFlags := 25, nameIndex := 24, descriptorIndex := 25, attributes := #[] }, { accessFlags := 25, nameIndex := 162, descriptorIndex := 25, attributes := #[] }, { accessFlags := 25, nameIndex := 187, descriptorIndex := 25, attributes := #[] }, { accessFlags := 26, nameIndex := 48, descriptorIndex := 25, attributes := #[] }, { accessFlags := 25, nameIndex := 277, descriptorIndex := 25, attributes := #[] }, { accessFlags := 25, nameIndex := 280, descriptorIndex := 25, attributes := #[] }, { accessFlags := 25, nameIndex := 282, descriptorIndex := 25, attributes := #[] }, { accessFlags := 25, nameIndex := 284, descriptorIndex := 25, attributes := #[] }, { accessFlags := 25, nameIndex := 286, descriptorIndex := 25, attributes := #[] }, { accessFlags := 25, nameIndex := 288, descriptorIndex := 25, attributes := #[] }, { accessFlags := 25, nameIndex := 290, descriptorIndex := 25, attributes := #[] }, { accessFlags := 25, nameIndex := 292, descriptorIndex := 25, attributes := #[] }, { accessFlags := 26, nameIndex := 108, descriptorIndex := 109, attributes := #[] }, { accessFlags := 25, nameIndex := 294, descriptorIndex := 25, attributes := #[] }])
  fields := #[{ name := "U", type := (.object "jdk/internal/misc/Unsafe"), accessFlags := 24, slot := 0, constantValue := 0 }, { name := "BIG_ENDIAN", type := .boolean, accessFlags := 26, slot := 1, constantValue := 0 }, { name := "LOG2_ARRAY_BOOLEAN_INDEX_SCALE", type := .int, accessFlags := 25, slot := 2, constantValue := 0 }, { name := "LOG2_ARRAY_BYTE_INDEX_SCALE", type := .int, accessFlags := 25, slot := 3, constantValue := 0 }, { name := "LOG2_ARRAY_CHAR_INDEX_SCALE", type := .int, accessFlags := 25, slot := 4, constantValue := 0 }, { name := "LOG2_ARRAY_SHORT_INDEX_SCALE", type := .int, accessFlags := 25, slot := 5, constantValue := 0 }, { name := "LOG2_ARRAY_INT_INDEX_SCALE", type := .int, accessFlags := 25, slot := 6, constantValue := 0 }, { name := "LOG2_ARRAY_LONG_INDEX_SCALE", type := .int, accessFlags := 25, slot := 7, constantValue := 0 }, { name := "LOG2_ARRAY_FLOAT_INDEX_SCALE", type := .int, accessFlags := 25, slot := 8, constantValue := 0 }, { name := "LOG2_ARRAY_DOUBLE_INDEX_SCALE", type := .int, accessFlags := 25, slot := 9, constantValue := 0 }, { name := "LOG2_BYTE_BIT_SIZE", type := .int, accessFlags := 26, slot := 10, constantValue := 0 }, { name := "T_BOOLEAN", type := .int, accessFlags := 25, slot := 11, constantValue := 0 }, { name := "T_CHAR", type := .int, accessFlags := 25, slot := 12, constantValue := 0 }, { name := "T_FLOAT", type := .int, accessFlags := 25, slot := 13, constantValue := 0 }, { name := "T_DOUBLE", type := .int, accessFlags := 25, slot := 14, constantValue := 0 }, { name := "T_BYTE", type := .int, accessFlags := 25, slot := 15, constantValue := 0 }, { name := "T_SHORT", type := .int, accessFlags := 25, slot := 16, constantValue := 0 }, { name := "T_INT", type := .int, accessFlags := 25, slot := 17, constantValue := 0 }, { name := "T_LONG", type := .int, accessFlags := 25, slot := 18, constantValue := 0 }, { name := "JLA", type := (.object "jdk/internal/access/JavaLangAccess"), accessFlags := 26, slot := 19, constantValue := 0 }, { name := "SOFT_MAX_ARRAY_LENGTH", type := .int, accessFlags := 25, slot := 20, constantValue := 0 }]
  methods := #[k13m0]
  instanceTypes := #[]
  staticTypes := #[(.object "jdk/internal/misc/Unsafe"), .boolean, .int, .int, .int, .int, .int, .int, .int, .int, .int, .int, .int, .int, .int, .int, .int, .int, .int, (.object "jdk/internal/access/JavaLangAccess"), .int]
  resolved := Array.replicate 378 none
  statics := none }

def pool14 : Array CpInfo := pool [(1, u "java/lang/Cloneable"), (0, .class_ 1), (0, u "java/lang/Object"), (0, .class_ 3)] 3

/-- java/lang/Cloneable -/
def k14 : Class := { plain "java/lang/Cloneable" (some 0) with
  accessFlags := 1537
  interfaces := #[]
  cf := some (fileOf pool14 2 #[] #[] 1537 4 #[] #[])
  fields := #[]
  methods := #[]
  instanceTypes := #[]
  staticTypes := #[]
  resolved := Array.replicate 8 none
  statics := none }

/-- the primitive byte -/
def k15 : Class := { plain "byte" none with kind := .primitive 'B', accessFlags := 0x411 }
/-- [B -/
def k16 : Class := { plain "[B" (some 0) with kind := .array 15 .byte, interfaces := #[14, 2], accessFlags := 1041 }

/-- the primitive char -/
def k17 : Class := { plain "char" none with kind := .primitive 'C', accessFlags := 0x411 }
/-- [C -/
def k18 : Class := { plain "[C" (some 0) with kind := .array 17 .char, interfaces := #[14, 2], accessFlags := 1041 }

/-- the primitive int -/
def k19 : Class := { plain "int" none with kind := .primitive 'I', accessFlags := 0x411 }
/-- [I -/
def k20 : Class := { plain "[I" (some 0) with kind := .array 19 .int, interfaces := #[14, 2], accessFlags := 1041 }

def heap : Heap := #[{ cls := 7, slots := #[.long 0, .int 1, .null, .int 0, .null, .int 0, .int 0], vm := .statics 7 },
  { cls := 10, slots := #[.ref 3], vm := .statics 10 },
  { cls := 12, slots := #[.null, .null, .null], vm := .statics 12 },
  { cls := 10, slots := #[.int 0, .int 0], vm := .none }]
def classes : Array Class := #[k0, k1, k2, k3, k4, k5, k6, k7, k8, k9, k10, k11, k12, k13, k14, k15, k16, k17, k18, k19, k20]
def interned : List (Array UInt16 × Addr) := []
def slotsUsed : Nat := 13
def theMethod : MethodId := ⟨1, 2⟩
def args0 : Array Value := #[.int 3, .int 4, .int 5, .int 2]
def aboutOver (below : List Frame) : State where
  vm := { classes := classes, interned := interned.toArray }
  heap := heap
  slotsUsed := slotsUsed
  threads := #[{ frames := .invoking theMethod args0 :: below }]
def below0 : List Frame := [.native { method := ⟨0, 0⟩, args := #[] }]
def about1 : State := aboutOver below0
def p0 : Program := .bare "" "" ""
def e0 : Env := launch0.env 0 0 0
theorem w_frames : about1.frames = Frame.invoking theMethod args0 :: below0 := rfl
set_option maxRecDepth 65536 in
theorem w_args : argsFit about1.vm theMethod args0 = true := by decide +kernel
set_option maxRecDepth 65536 in
theorem w_heap : heapFits about1 = true := by decide +kernel
set_option maxRecDepth 65536 in
theorem w_runnable : about1.curStatus? = some .runnable := by decide +kernel
set_option maxRecDepth 65536 in
theorem w_alone : about1.alone = true := by decide +kernel
set_option maxRecDepth 65536 in
theorem w_named : about1.methodNamed? x = some theMethod := by decide +kernel
set_option maxRecDepth 65536 in
theorem w_hears : about1.hears theMethod below0 = true := by decide +kernel
set_option maxRecDepth 65536 in
theorem w_ripe : about1.ripe theMethod args0 below0 = true := by decide +kernel
theorem w_running : about1.status = .running := rfl
set_option maxRecDepth 65536 in
theorem w_room : about1.hasRoom e0.platform room_1 = true :=
  launch0.hasRoom_least _ room_1 (by decide +kernel) (by decide +kernel) (by decide +kernel) (by decide +kernel) (by decide +kernel) (by decide +kernel)
theorem allAtoms_all (ts : List Jvm.Cond) (a : Array Jvm.Value) (st : Jvm.State) : (allAtoms ts).before a st = ts.all (fun c => c.before a st) := by
  induction ts with
  | nil => rfl
  | cons c t ih =>
    show (Jvm.Cond.and c (allAtoms t)).before a st = _
    rw [Jvm.Cond.before_and, ih, List.all_cons]
def words1 : List Jvm.Cond := Jvm.Cond.code x code maxLocals ret :: tables_1
/-- a 'code' word, met by the world's own term for the bytes: nothing is compared byte by byte -/
theorem code_word {y : MethodName} {bytes : ByteArray} {mx : Nat} {rt : Option FieldType} {a : Array Value} {s : State} {m : MethodId} {meth : Method} {c : Code} (h1 : s.methodNamed? y = some m) (h2 : s.vm.method? m = some meth) (h3 : meth.code = some c) (h4 : c.code = bytes)
    (h5 : (c.maxLocals == mx && c.exceptionTable.isEmpty && decide (c.maxStack ≤ mostOperands) && decide (meth.sig.returnType = rt) && !meth.locks && decide (parseMethodDescriptor y.desc = some meth.sig)) = true) : (Jvm.Cond.code y bytes mx rt).before a s = true := by
  simp only [Bool.and_eq_true, beq_iff_eq, Bool.not_eq_true', decide_eq_true_eq] at h5
  obtain ⟨⟨⟨⟨⟨g1, g2⟩, g3⟩, g4⟩, g5⟩, g6⟩ := h5
  simp [Cond.before, Cond.holds, Cond.value, h1, h2, h3, h4, g1, g2, g3, g4, g5, g6]
def isCode : Jvm.Cond → Bool
  | .code _ _ _ _ => true
  | _ => false
theorem all_split {L : List Jvm.Cond} {P : Jvm.Cond → Bool} (h1 : L.all (fun c => isCode c || P c) = true) (h2 : ∀ c ∈ L.filter isCode, P c = true) : L.all P = true := by
  refine List.all_eq_true.mpr fun c hc => ?_
  have h := List.all_eq_true.mp h1 c hc
  rcases Bool.eq_false_or_eq_true (isCode c) with hi | hi
  · exact h2 c (List.mem_filter.mpr ⟨hc, hi⟩)
  · simpa [hi] using h
set_option maxRecDepth 65536 in
theorem w_c0 : (Jvm.Cond.code x code maxLocals ret).before args0 about1 = true := code_word (m := ⟨1, 2⟩) (meth := k1m2) (c := k1c2) (by decide +kernel) rfl rfl rfl (by decide +kernel)
set_option maxRecDepth 65536 in
theorem w_c1 : (Jvm.Cond.code ({ cls := "com/example/slotwright/slotwright/PlaceKnownPinLaw", name := "pick", desc := "(I)C" } : Jvm.MethodName) method_2_code (2 : Nat) (Option.some Jvm.ClassFile.FieldType.char)).before args0 about1 = true := code_word (m := ⟨1, 1⟩) (meth := k1m1) (c := k1c1) (by decide +kernel) rfl rfl rfl (by decide +kernel)
set_option maxRecDepth 65536 in
theorem w_c2 : (Jvm.Cond.code ({ cls := "java/lang/String", name := "<init>", desc := "([C)V" } : Jvm.MethodName) jdk_42_method_3_code (2 : Nat) (Option.none : Option Jvm.ClassFile.FieldType)).before args0 about1 = true := code_word (m := ⟨7, 1⟩) (meth := k7m1) (c := k7c1) (by decide +kernel) rfl rfl rfl (by decide +kernel)
set_option maxRecDepth 65536 in
theorem w_c3 : (Jvm.Cond.code ({ cls := "java/lang/String", name := "<init>", desc := "([CIILjava/lang/Void;)V" } : Jvm.MethodName) jdk_42_method_149_code (6 : Nat) (Option.none : Option Jvm.ClassFile.FieldType)).before args0 about1 = true := code_word (m := ⟨7, 3⟩) (meth := k7m3) (c := k7c3) (by decide +kernel) rfl rfl rfl (by decide +kernel)
set_option maxRecDepth 65536 in
theorem w_c4 : (Jvm.Cond.code ({ cls := "java/lang/Object", name := "<init>", desc := "()V" } : Jvm.MethodName) object_method_1_code (1 : Nat) (Option.none : Option Jvm.ClassFile.FieldType)).before args0 about1 = true := code_word (m := ⟨0, 0⟩) (meth := k0m0) (c := k0c0) (by decide +kernel) rfl rfl rfl (by decide +kernel)
set_option maxRecDepth 65536 in
theorem w_c5 : (Jvm.Cond.code ({ cls := "java/lang/StringUTF16", name := "compress", desc := "([CII)[B" } : Jvm.MethodName) jdk_52_method_16_code (6 : Nat) (Option.some (Jvm.ClassFile.FieldType.array Jvm.ClassFile.FieldType.byte))).before args0 about1 = true := code_word (m := ⟨8, 2⟩) (meth := k8m2) (c := k8c2) (by decide +kernel) rfl rfl rfl (by decide +kernel)
set_option maxRecDepth 65536 in
theorem w_c6 : (Jvm.Cond.code ({ cls := "java/lang/StringUTF16", name := "compress", desc := "([CI[BII)I" } : Jvm.MethodName) jdk_52_method_21_code (7 : Nat) (Option.some Jvm.ClassFile.FieldType.int)).before args0 about1 = true := code_word (m := ⟨8, 3⟩) (meth := k8m3) (c := k8c3) (by decide +kernel) rfl rfl rfl (by decide +kernel)
set_option maxRecDepth 65536 in
theorem w_c7 : (Jvm.Cond.code ({ cls := "java/lang/StringUTF16", name := "coderFromArrayLen", desc := "([BI)B" } : Jvm.MethodName) jdk_52_method_15_code (2 : Nat) (Option.some Jvm.ClassFile.FieldType.byte)).before args0 about1 = true := code_word (m := ⟨8, 1⟩) (meth := k8m1) (c := k8c1) (by decide +kernel) rfl rfl rfl (by decide +kernel)
set_option maxRecDepth 65536 in
theorem w_c8 : (Jvm.Cond.code ({ cls := "com/example/slotwright/slotwright/Place", name := "<init>", desc := "(II)V" } : Jvm.MethodName) prog_47_method_1_code (3 : Nat) (Option.none : Option Jvm.ClassFile.FieldType)).before args0 about1 = true := code_word (m := ⟨10, 0⟩) (meth := k10m0) (c := k10c0) (by decide +kernel) rfl rfl rfl (by decide +kernel)
set_option maxRecDepth 65536 in
theorem w_c9 : (Jvm.Cond.code ({ cls := "java/lang/Record", name := "<init>", desc := "()V" } : Jvm.MethodName) jdk_30_method_1_code (1 : Nat) (Option.none : Option Jvm.ClassFile.FieldType)).before args0 about1 = true := code_word (m := ⟨9, 0⟩) (meth := k9m0) (c := k9c0) (by decide +kernel) rfl rfl rfl (by decide +kernel)
set_option maxRecDepth 65536 in
theorem w_c10 : (Jvm.Cond.code ({ cls := "com/example/slotwright/slotwright/Place", name := "known", desc := "()Z" } : Jvm.MethodName) prog_47_method_4_code (1 : Nat) (Option.some Jvm.ClassFile.FieldType.boolean)).before args0 about1 = true := code_word (m := ⟨10, 2⟩) (meth := k10m2) (c := k10c2) (by decide +kernel) rfl rfl rfl (by decide +kernel)
set_option maxRecDepth 65536 in
theorem w_c11 : (Jvm.Cond.code ({ cls := "com/example/slotwright/slotwright/Place", name := "in", desc := "(Ljava/lang/CharSequence;I)Lcom/example/slotwright/slotwright/Place;" } : Jvm.MethodName) prog_47_method_3_code (6 : Nat) (Option.some (Jvm.ClassFile.FieldType.object "com/example/slotwright/slotwright/Place"))).before args0 about1 = true := code_word (m := ⟨10, 1⟩) (meth := k10m1) (c := k10c1) (by decide +kernel) rfl rfl rfl (by decide +kernel)
set_option maxRecDepth 65536 in
theorem w_c12 : (Jvm.Cond.code ({ cls := "java/lang/String", name := "charAt", desc := "(I)C" } : Jvm.MethodName) jdk_42_method_56_code (2 : Nat) (Option.some Jvm.ClassFile.FieldType.char)).before args0 about1 = true := code_word (m := ⟨7, 2⟩) (meth := k7m2) (c := k7c2) (by decide +kernel) rfl rfl rfl (by decide +kernel)
set_option maxRecDepth 65536 in
theorem w_c13 : (Jvm.Cond.code ({ cls := "java/lang/String", name := "isLatin1", desc := "()Z" } : Jvm.MethodName) jdk_42_method_154_code (1 : Nat) (Option.some Jvm.ClassFile.FieldType.boolean)).before args0 about1 = true := code_word (m := ⟨7, 4⟩) (meth := k7m4) (c := k7c4) (by decide +kernel) rfl rfl rfl (by decide +kernel)
set_option maxRecDepth 65536 in
theorem w_c14 : (Jvm.Cond.code ({ cls := "java/lang/StringLatin1", name := "charAt", desc := "([BI)C" } : Jvm.MethodName) jdk_43_method_2_code (2 : Nat) (Option.some Jvm.ClassFile.FieldType.char)).before args0 about1 = true := code_word (m := ⟨11, 1⟩) (meth := k11m1) (c := k11c1) (by decide +kernel) rfl rfl rfl (by decide +kernel)
set_option maxRecDepth 65536 in
theorem w_c15 : (Jvm.Cond.code ({ cls := "java/lang/String", name := "checkIndex", desc := "(II)V" } : Jvm.MethodName) jdk_42_method_155_code (2 : Nat) (Option.none : Option Jvm.ClassFile.FieldType)).before args0 about1 = true := code_word (m := ⟨7, 5⟩) (meth := k7m5) (c := k7c5) (by decide +kernel) rfl rfl rfl (by decide +kernel)
set_option maxRecDepth 65536 in
theorem w_c16 : (Jvm.Cond.code ({ cls := "jdk/internal/util/Preconditions", name := "checkIndex", desc := "(IILjava/util/function/BiFunction;)I" } : Jvm.MethodName) jdk_41_method_11_code (3 : Nat) (Option.some Jvm.ClassFile.FieldType.int)).before args0 about1 = true := code_word (m := ⟨12, 1⟩) (meth := k12m1) (c := k12c1) (by decide +kernel) rfl rfl rfl (by decide +kernel)
def codes1 : List Jvm.Cond := [Jvm.Cond.code x code maxLocals ret, Jvm.Cond.code ({ cls := "com/example/slotwright/slotwright/PlaceKnownPinLaw", name := "pick", desc := "(I)C" } : Jvm.MethodName) method_2_code (2 : Nat) (Option.some Jvm.ClassFile.FieldType.char), Jvm.Cond.code ({ cls := "java/lang/String", name := "<init>", desc := "([C)V" } : Jvm.MethodName) jdk_42_method_3_code (2 : Nat) (Option.none : Option Jvm.ClassFile.FieldType), Jvm.Cond.code ({ cls := "java/lang/String", name := "<init>", desc := "([CIILjava/lang/Void;)V" } : Jvm.MethodName) jdk_42_method_149_code (6 : Nat) (Option.none : Option Jvm.ClassFile.FieldType), Jvm.Cond.code ({ cls := "java/lang/Object", name := "<init>", desc := "()V" } : Jvm.MethodName) object_method_1_code (1 : Nat) (Option.none : Option Jvm.ClassFile.FieldType), Jvm.Cond.code ({ cls := "java/lang/StringUTF16", name := "compress", desc := "([CII)[B" } : Jvm.MethodName) jdk_52_method_16_code (6 : Nat) (Option.some (Jvm.ClassFile.FieldType.array Jvm.ClassFile.FieldType.byte)), Jvm.Cond.code ({ cls := "java/lang/StringUTF16", name := "compress", desc := "([CI[BII)I" } : Jvm.MethodName) jdk_52_method_21_code (7 : Nat) (Option.some Jvm.ClassFile.FieldType.int), Jvm.Cond.code ({ cls := "java/lang/StringUTF16", name := "coderFromArrayLen", desc := "([BI)B" } : Jvm.MethodName) jdk_52_method_15_code (2 : Nat) (Option.some Jvm.ClassFile.FieldType.byte), Jvm.Cond.code ({ cls := "com/example/slotwright/slotwright/Place", name := "<init>", desc := "(II)V" } : Jvm.MethodName) prog_47_method_1_code (3 : Nat) (Option.none : Option Jvm.ClassFile.FieldType), Jvm.Cond.code ({ cls := "java/lang/Record", name := "<init>", desc := "()V" } : Jvm.MethodName) jdk_30_method_1_code (1 : Nat) (Option.none : Option Jvm.ClassFile.FieldType), Jvm.Cond.code ({ cls := "com/example/slotwright/slotwright/Place", name := "known", desc := "()Z" } : Jvm.MethodName) prog_47_method_4_code (1 : Nat) (Option.some Jvm.ClassFile.FieldType.boolean), Jvm.Cond.code ({ cls := "com/example/slotwright/slotwright/Place", name := "in", desc := "(Ljava/lang/CharSequence;I)Lcom/example/slotwright/slotwright/Place;" } : Jvm.MethodName) prog_47_method_3_code (6 : Nat) (Option.some (Jvm.ClassFile.FieldType.object "com/example/slotwright/slotwright/Place")), Jvm.Cond.code ({ cls := "java/lang/String", name := "charAt", desc := "(I)C" } : Jvm.MethodName) jdk_42_method_56_code (2 : Nat) (Option.some Jvm.ClassFile.FieldType.char), Jvm.Cond.code ({ cls := "java/lang/String", name := "isLatin1", desc := "()Z" } : Jvm.MethodName) jdk_42_method_154_code (1 : Nat) (Option.some Jvm.ClassFile.FieldType.boolean), Jvm.Cond.code ({ cls := "java/lang/StringLatin1", name := "charAt", desc := "([BI)C" } : Jvm.MethodName) jdk_43_method_2_code (2 : Nat) (Option.some Jvm.ClassFile.FieldType.char), Jvm.Cond.code ({ cls := "java/lang/String", name := "checkIndex", desc := "(II)V" } : Jvm.MethodName) jdk_42_method_155_code (2 : Nat) (Option.none : Option Jvm.ClassFile.FieldType), Jvm.Cond.code ({ cls := "jdk/internal/util/Preconditions", name := "checkIndex", desc := "(IILjava/util/function/BiFunction;)I" } : Jvm.MethodName) jdk_41_method_11_code (3 : Nat) (Option.some Jvm.ClassFile.FieldType.int)]
set_option maxRecDepth 65536 in
theorem codes_eq : words1.filter isCode = codes1 := rfl
theorem w_codes : ∀ c ∈ words1.filter isCode, c.before args0 about1 = true := by
  rw [codes_eq]
  intro c hc
  simp only [codes1, List.mem_cons, List.not_mem_nil, or_false] at hc
  rcases hc with rfl | rfl | rfl | rfl | rfl | rfl | rfl | rfl | rfl | rfl | rfl | rfl | rfl | rfl | rfl | rfl | rfl
  · exact w_c0
  · exact w_c1
  · exact w_c2
  · exact w_c3
  · exact w_c4
  · exact w_c5
  · exact w_c6
  · exact w_c7
  · exact w_c8
  · exact w_c9
  · exact w_c10
  · exact w_c11
  · exact w_c12
  · exact w_c13
  · exact w_c14
  · exact w_c15
  · exact w_c16
set_option maxRecDepth 65536 in
theorem w_t1 : (words1.take 24).all (fun c => isCode c || c.before args0 about1) = true := by decide +kernel
set_option maxRecDepth 65536 in
theorem w_t2 : ((words1.drop 24).take 24).all (fun c => isCode c || c.before args0 about1) = true := by decide +kernel
set_option maxRecDepth 65536 in
theorem w_t3 : (((words1.drop 24).drop 24).take 24).all (fun c => isCode c || c.before args0 about1) = true := by decide +kernel
set_option maxRecDepth 65536 in
theorem w_t4 : (((words1.drop 24).drop 24).drop 24).all (fun c => isCode c || c.before args0 about1) = true := by decide +kernel
theorem w_tables : (allAtoms (Jvm.Cond.code x code maxLocals ret :: tables_1)).before args0 about1 = true := by
  rw [allAtoms_all]
  show words1.all (fun c => c.before args0 about1) = true
  refine all_split ?_ w_codes
  rw [← List.take_append_drop 24 words1, List.all_append, w_t1, ← List.take_append_drop 24 (words1.drop 24), List.all_append, w_t2, ← List.take_append_drop 24 ((words1.drop 24).drop 24), List.all_append, w_t3, w_t4]
  rfl
set_option maxRecDepth 65536 in
theorem w_rest : rest_1_c.before args0 about1 = true := by decide +kernel
set_option maxRecDepth 65536 in
theorem w_case : (Jvm.Cond.and given_1 narrow_1).before args0 about1 = true := by decide +kernel
theorem w_applies : (headSpec (Jvm.Cond.code x code maxLocals ret :: tables_1) room_1).applies x e0.platform about1 = true :=
  (Spec.applies_iff w_frames).mpr ⟨w_running, w_runnable, w_alone, w_named, w_hears, w_ripe, w_room, w_tables⟩
theorem atStart : AtStart classFile x code maxLocals ret World_1 tables_1 room_1 Calls_1 rest_1 Pre_1 launch0 p0 e0 about1 theMethod args0 below0 :=
  ⟨lists_1, trivial, launch0.admits_env _ _ _, launch0.least_env, fairChoices_fair.cas, fairChoices_fair.clock, w_frames, w_args, w_heap, w_applies, trivial, w_rest, w_case⟩
end start1
theorem witness_1 : WitnessClaimed_1 := ⟨start1.p0, start1.e0, start1.about1, start1.theMethod, start1.args0, start1.below0, start1.atStart⟩
end Jvm.Pilot.@@N@@
