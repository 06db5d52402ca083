import JvmDerived
import JvmDerived.Pilot.@@N@@Statement
import JvmDerived.Pilot.@@N@@Code
set_option linter.unusedVariables false
set_option linter.unusedSimpArgs false
/- laws to paste: Road.eqW (cut by pick.py; bodies as the Statement names them) -/
namespace Jvm.Pilot.@@N@@
namespace StrChars
open Jvm Sem ClassFile Op Lib Jvm.Stand Jvm.Free.XT Jvm.Free.ALB Jvm.Free.JM Jvm.Free
open Jvm.Lib.Cold (StaticIs)
/-- the byte that i2b leaves of a char -/
def lo8 (x : Int32) : Int32 := x.toInt8.toInt32
theorem fits_lo8 (y : Int32) : fits .byte (.int (lo8 y)) = true := by
  have h1 := y.toInt8.le_toInt
  have h2 := y.toInt8.toInt_lt
  simp only [lo8, fits, Bool.and_eq_true, decide_eq_true_eq, Int32.le_iff_toInt_le, Int8.toInt_toInt32, show (-128 : Int32).toInt = -128 from by decide, show (127 : Int32).toInt = 127 from by decide]
  omega
/-- the byte, read back as charAt reads it, is the char -/
theorem lo8_mask {x : Int32} (h0 : ¬ x < 0) (h1 : ¬ 255 < x) : lo8 x &&& 255 = x := by
  have t : ∀ k : Fin 256, lo8 (Int32.ofNat k.val) &&& 255 = Int32.ofNat k.val := by decide +kernel
  rw [Int32.lt_iff_toInt_lt] at h0 h1
  have e0 : (0 : Int32).toInt = 0 := rfl
  have e1 : (255 : Int32).toInt = 255 := rfl
  obtain ⟨k, hk⟩ : ∃ k : Nat, x.toInt = k := ⟨x.toInt.toNat, by omega⟩
  have hx : x = Int32.ofNat k := Int32.toInt_inj.mp (by rw [hk, Int32.toInt_ofNat_small (by omega)])
  rw [hx]
  exact t ⟨k, by omega⟩
end StrChars
namespace StrChars.Road
open Jvm Sem ClassFile Op Lib Jvm.Stand Jvm.Free Jvm.Free.XT
open Jvm.Lib.Cold (StaticIs)
abbrev ST : String := "java/lang/String"
end StrChars.Road
namespace StrChars
open Jvm Sem ClassFile Op Lib Jvm.Stand Jvm.Free.XT Jvm.Free.ALB Jvm.Free.JM Jvm.Free
open Jvm.Lib.Cold (StaticIs)
def hi8 (x : Int32) : Int32 := lo8 (x >>> ((8 : Int32) &&& 31))
/-- what StringUTF16.getChar makes of two bytes -/
def pairCh (u v : Int32) : Int32 := (((u &&& 255) <<< ((0 : Int32) &&& 31)) ||| ((v &&& 255) <<< ((8 : Int32) &&& 31))).toUInt32.toUInt16.toUInt32.toInt32
theorem lo8_and (x : Int32) : (lo8 x &&& 255).toBitVec.toNat = x.toBitVec.toNat % 256 := by
  have h : (lo8 x).toBitVec = (x.toBitVec.signExtend 8).signExtend 32 := by rw [lo8, Int8.toBitVec_toInt32, Int32.toBitVec_toInt8]
  rw [Int32.toBitVec_and, BitVec.toNat_and, h]
  have e : ((x.toBitVec.signExtend 8).signExtend 32).toNat % 256 = x.toBitVec.toNat % 256 := by
    rw [BitVec.toNat_signExtend]
    have hlt := x.toBitVec.isLt
    simp only [BitVec.toNat_setWidth, BitVec.toNat_signExtend]
    split <;> split <;> omega
  rw [← e]
  exact Nat.and_two_pow_sub_one_eq_mod _ 8
theorem pair_says {c : Int32} (h0 : ¬ c < 0) (h1 : ¬ 65535 < c) : pairCh (lo8 c) (hi8 c) = c := by
  rw [Int32.lt_iff_toInt_lt] at h0 h1
  have e0 : (0 : Int32).toInt = 0 := rfl
  have e1 : (65535 : Int32).toInt = 65535 := rfl
  have hc : c.toInt = c.toBitVec.toNat := by
    have := c.toBitVec.isLt
    have e : c.toInt = c.toBitVec.toInt := rfl
    rw [e] at h0 h1
    rw [e]
    rw [BitVec.toInt_eq_toNat_cond] at h0 h1 ⊢
    split at h0 <;> split <;> omega
  have hn : c.toBitVec.toNat < 65536 := by omega
  have a1 := lo8_and c
  have a2 : (hi8 c &&& 255).toBitVec.toNat = c.toBitVec.toNat / 256 := by
    rw [hi8, lo8_and]
    have e : ((8 : Int32) &&& 31) = 8 := by decide
    rw [e, Int32.toBitVec_shiftRight]
    have e2 : ((8 : Int32).toBitVec.smod 32) = 8#32 := by decide
    rw [e2, BitVec.sshiftRight_eq', BitVec.toNat_sshiftRight_of_msb_false (by rw [BitVec.msb_eq_false_iff_two_mul_lt]; omega)]
    show c.toBitVec.toNat >>> 8 % 256 = _
    rw [Nat.shiftRight_eq_div_pow]
    omega
  unfold pairCh
  apply Int32.toBitVec_inj.mp
  apply BitVec.eq_of_toNat_eq
  have f0 : ((0 : Int32) &&& 31) = 0 := by decide
  have f8 : ((8 : Int32) &&& 31) = 8 := by decide
  rw [f0, f8]
  have g : (((lo8 c &&& 255) <<< (0 : Int32)) ||| ((hi8 c &&& 255) <<< (8 : Int32))).toBitVec.toNat = c.toBitVec.toNat := by
    rw [Int32.toBitVec_or, Int32.toBitVec_shiftLeft, Int32.toBitVec_shiftLeft]
    have s0 : ((0 : Int32).toBitVec.smod 32) = 0#32 := by decide
    have s8 : ((8 : Int32).toBitVec.smod 32) = 8#32 := by decide
    rw [s0, s8, BitVec.toNat_or]
    simp only [BitVec.shiftLeft_eq', BitVec.toNat_shiftLeft, a1, a2]
    show (c.toBitVec.toNat % 256) <<< 0 % 2 ^ 32 ||| (c.toBitVec.toNat / 256) <<< 8 % 2 ^ 32 = _
    rw [Nat.shiftLeft_zero, Nat.mod_eq_of_lt (show c.toBitVec.toNat % 256 < 2 ^ 32 by omega), Nat.mod_eq_of_lt (show (c.toBitVec.toNat / 256) <<< 8 < 2 ^ 32 by rw [Nat.shiftLeft_eq]; omega), Nat.or_comm, ← Nat.shiftLeft_add_eq_or_of_lt (by omega), Nat.shiftLeft_eq]
    omega
  show BitVec.toNat (((((lo8 c &&& 255) <<< (0 : Int32)) ||| ((hi8 c &&& 255) <<< (8 : Int32))).toBitVec.setWidth 16).setWidth 32) = _
  rw [BitVec.toNat_setWidth, BitVec.toNat_setWidth, g]
  omega
end StrChars
namespace StrChars
open Jvm Sem ClassFile Op Lib Jvm.Stand Jvm.Free.XT Jvm.Free.ALB Jvm.Free.JM Jvm.Free
open Jvm.Lib.Cold (StaticIs)
/-- the array's cell V codes the n chars f 0 .. f (n - 1) by the coder cd, as the JDK does: coder 1 just where some char is above 255 -/
def Cod (cd : Int32) (n : Nat) (f : Nat → Int32) (V : Cell) : Prop := (cd = 0 ∧ V.slots.size = n ∧ ∀ j, j < n → V.slots[j]? = some (.int (lo8 (f j))) ∧ ¬ 255 < f j) ∨ (cd = 1 ∧ V.slots.size = 2 * n ∧ (∀ j, j < n → V.slots[2 * j]? = some (.int (lo8 (f j))) ∧ V.slots[2 * j + 1]? = some (.int (hi8 (f j)))) ∧ ∃ j, j < n ∧ 255 < f j)
/-- **x is a String of the n chars f 0 .. f (n - 1)**, Latin-1 or UTF-16; its array at t has the cell V -/
def Txt (x t : Addr) (V : Cell) (cd : Int32) (n : Nat) (f : Nat → Int32) (U : State) : Prop := Exact "java/lang/String" x U ∧ Has x "java/lang/String" "value" "[B" (.ref t) U ∧ Has x "java/lang/String" "coder" "B" (.int cd) U ∧ XT.Arr .byte t V U ∧ Cod cd n f V ∧ ∀ j, j < n → ¬ f j < 0 ∧ ¬ 65535 < f j
theorem Txt.mv {x t : Addr} {V : Cell} {cd : Int32} {n : Nat} {f : Nat → Int32} {U U' : State} (h : Txt x t V cd n f U) (hal : U.vm.Alike U'.vm) (hh : U'.heap = U.heap) : Txt x t V cd n f U' := ⟨h.1.mv hal hh, h.2.1.mv hal hh, h.2.2.1.mv hal hh, h.2.2.2.1.mv hal hh, h.2.2.2.2⟩
end StrChars
namespace StrChars.Road
open Jvm Sem ClassFile Op Lib Jvm.Stand Jvm.Free Jvm.Free.XT
open Jvm.Lib.Cold (StaticIs)
theorem consq {a : Array Value} {s : State} {c : Jvm.Cond} {L : List Jvm.Cond} (h0 : c.before a s = true) (h : ∀ w ∈ L, w.before a s = true) : ∀ w ∈ c :: L, w.before a s = true := fun w hw => (List.mem_cons.mp hw).elim (fun e => e ▸ h0) (h w)
/-- the bytes of the chars cs, low before high -/
def wideBytes : List Int32 → List Value
  | [] => []
  | c :: cs => .int (lo8 c) :: .int (hi8 c) :: wideBytes cs
theorem wide_lo (d : Value) : ∀ (cs : List Int32) (j : Nat), j < cs.length → (wideBytes cs).getD (2 * j) d = .int (lo8 (cs.getD j 0))
  | [], j, h => absurd h (Nat.not_lt_zero j)
  | c :: cs, 0, _ => rfl
  | c :: cs, j + 1, h => by
    have q := wide_lo d cs j (by simpa using h)
    rw [show 2 * (j + 1) = 2 * j + 1 + 1 from by omega]
    simpa [wideBytes] using q
theorem wide_hi (d : Value) : ∀ (cs : List Int32) (j : Nat), j < cs.length → (wideBytes cs).getD (2 * j + 1) d = .int (hi8 (cs.getD j 0))
  | [], j, h => absurd h (Nat.not_lt_zero j)
  | c :: cs, 0, _ => rfl
  | c :: cs, j + 1, h => by
    have q := wide_hi d cs j (by simpa using h)
    rw [show 2 * (j + 1) + 1 = 2 * j + 1 + 1 + 1 from by omega]
    simpa [wideBytes] using q
theorem low_at (d : Value) (cs : List Int32) (j : Nat) (h : j < cs.length) : (cs.map fun c => Value.int (lo8 c)).getD j d = .int (lo8 (cs.getD j 0)) := by
  simp [List.getD_eq_getElem?_getD, h]
/-- an array of N2 bytes vs codes the chars cs by the coder cd -/
def CodA (cs : List Int32) (cd N2 : Int32) (vs : List Value) : Prop := (cd = 0 ∧ N2 = Int32.ofNat cs.length ∧ vs = (cs.map fun c => Value.int (lo8 c)) ∧ ∀ c ∈ cs, ¬ 255 < c) ∨ (cd = 1 ∧ N2 = Int32.ofNat (2 * cs.length) ∧ vs = wideBytes cs ∧ ∃ c ∈ cs, 255 < c)
theorem CodA.cod {cs : List Int32} {cd N2 : Int32} {vs : List Value} {V : Cell} (h : CodA cs cd N2 vs) (hn : 2 * cs.length < 2 ^ 31) (hs : V.slots.size = N2.toNatClampNeg) (hv : RoadKit.Has V vs (.int 0)) : Cod cd cs.length (fun j => cs.getD j 0) V := by
  rcases h with ⟨rfl, rfl, rfl, h⟩ | ⟨rfl, rfl, rfl, c, hc, hw⟩
  · rw [n32 (by omega)] at hs
    exact Or.inl ⟨rfl, hs, fun j hj => ⟨by rw [hv j (by omega), low_at _ _ _ hj], by
      have e : cs.getD j 0 = cs[j] := by simp [List.getD_eq_getElem?_getD, hj]
      show ¬ 255 < cs.getD j 0
      rw [e]; exact h _ (List.getElem_mem _)⟩⟩
  · rw [n32 (by omega)] at hs
    obtain ⟨j, hj, rfl⟩ := List.getElem_of_mem hc
    exact Or.inr ⟨rfl, hs, fun j hj => ⟨by rw [hv _ (by omega), wide_lo _ _ _ hj], by rw [hv _ (by omega), wide_hi _ _ _ hj]⟩, j, hj, by
      have e : cs.getD j 0 = cs[j] := by simp [List.getD_eq_getElem?_getD, hj]
      show 255 < cs.getD j 0
      rw [e]; exact hw⟩
/-- an object of exactly java/lang/String, its two fields found: as the laws ask it -/
theorem strObj {Z U : State} {a0 : Array Value} {kI : Nat} (wi : (Jvm.Cond.instantiable ST kI).before a0 Z = true) (al : Z.vm.Alike U.vm) {x : Addr} {v0 c0 : Value} (E : RoadKit.Exa Z U.heap x ST) (V : RoadKit.Fld Z U.heap x ST "value" "[B" v0) (C : RoadKit.Fld Z U.heap x ST "coder" "B" c0) :
    ∃ (D : Cell) (fV fC : Field), Blank ST x D U ∧ Found ST "value" "[B" fV U ∧ Found ST "coder" "B" fC U ∧ D.slots[fV.slot]? = some v0 ∧ D.slots[fC.slot]? = some c0 ∧ RoadKit.slotOf Z ST "value" "[B" = fV.slot ∧ RoadKit.slotOf Z ST "coder" "B" = fC.slot := by
  obtain ⟨D, cfV, kV, iV, fV, hD, gV, stV, knV, obV, asV, slV⟩ := V
  obtain ⟨D', cfC, kC, iC, fC, hD', gC, stC, -, -, asC, slC⟩ := C
  cases hD.symm.trans hD'
  obtain ⟨D2, kD, e1, e2, e3, e4, e5⟩ := E
  cases hD.symm.trans e1
  obtain ⟨c2, k2, i1, i2, i3, -⟩ := Cond.instantiable_spec wi
  cases e2.symm.trans i1
  cases e3.symm.trans i2
  obtain ⟨kU, u1, u2⟩ := al.2.2 _ _ e3
  exact ⟨D, fV, fC, ⟨hD, ⟨knV, fun q hq => by rw [hq] at obV; cases obV⟩, by rw [al.findClass]; exact e2, kU, u1, by rw [u2]; exact i3, by rw [u2]; exact e5 i3⟩, ⟨SBG.found_only al ⟨cfV, kV, iV, gV⟩, stV⟩, ⟨SBG.found_only al ⟨cfC, kC, iC, gC⟩, stC⟩, slV, slC, by simp [RoadKit.slotOf, gV], by simp [RoadKit.slotOf, gC]⟩
theorem sta_is {Z U : State} (al : Z.vm.Alike U.vm) {C n d : String} {v : Value} (S : RoadKit.Sta Z U.heap C n d v) : StaticIs U C n d v := by
  obtain ⟨cfS, iS, kS, fS, st, cS, t1, t2, t3, t4, t5, t6, t7⟩ := S
  exact StaticIs.there (s := { Z with heap := U.heap }) ⟨cfS, iS, kS, fS, st, cS, t1, t2, t3, t4, t5, (fun q => by rw [q] at t6; cases t6), t7⟩ al rfl
end StrChars.Road
namespace StrChars
open Jvm Sem ClassFile Op Lib Jvm.Stand Jvm.Free.XT Jvm.Free.ALB Jvm.Free.JM Jvm.Free
open Jvm.Lib.Cold (StaticIs)
/-- what place i of a byte[]'s cell holds -/
def yv (A : Cell) (i : Nat) : Int32 := match A.slots[i]? with | some (.int x) => x | _ => 0
theorem yv_get {a : Addr} {A : Cell} {U : State} (h : XT.Arr .byte a A U) (ht : Typed .byte A) {i : Nat} (hi : i < A.slots.size) : A.slots[i]? = some (.int (yv A i)) := by
  have e := Array.getElem?_eq_getElem hi
  have f := ht i _ e
  unfold yv; rw [e]
  generalize A.slots[i] = v at f
  cases v <;> simp [fits] at f ⊢
/-- the two arrays are equal, place for place -/
def EqC (A B : Cell) : Prop := A.slots.size = B.slots.size ∧ ∀ i, i < A.slots.size → yv A i = yv B i
/-- a boolean that says whether p -/
def Says01 (q : Prop) (r : Option Value) (s u : State) : Prop := ∃ v : Int32, r = some (.int v) ∧ u.heap = s.heap ∧ ((v = 1 ∧ q) ∨ (v = 0 ∧ ¬ q))
theorem Says01.mv {q : Prop} : ∀ r (U U' V V' : State), U'.heap = U.heap → V.vm.Alike V'.vm → V'.heap = V.heap → Says01 q r U V → Says01 q r U' V' :=
  fun r U U' V V' h1 _ h2 ⟨v, a, b, c⟩ => ⟨v, a, by rw [h1, h2]; exact b, c⟩
namespace LEq
def yN : MethodName := ⟨"java/lang/StringLatin1", "equals", "([B[B)Z"⟩
abbrev yB : ByteArray := jdk_43_method_13_code
theorem d0 : decode yB 0 = .ok (.aload_n 0, 1) := by decide +kernel
theorem d1 : decode yB 1 = .ok (.arraylength, 1) := by decide +kernel
theorem d2 : decode yB 2 = .ok (.aload_n 1, 1) := by decide +kernel
theorem d3 : decode yB 3 = .ok (.arraylength, 1) := by decide +kernel
theorem d4 : decode yB 4 = .ok (.if_icmp (.ne) 30, 3) := by decide +kernel
theorem d7 : decode yB 7 = .ok (.iconst 0, 1) := by decide +kernel
theorem d8 : decode yB 8 = .ok (.istore_n 2, 1) := by decide +kernel
theorem d9 : decode yB 9 = .ok (.iload_n 2, 1) := by decide +kernel
theorem d10 : decode yB 10 = .ok (.aload_n 0, 1) := by decide +kernel
theorem d11 : decode yB 11 = .ok (.arraylength, 1) := by decide +kernel
theorem d12 : decode yB 12 = .ok (.if_icmp (.ge) 20, 3) := by decide +kernel
theorem d15 : decode yB 15 = .ok (.aload_n 0, 1) := by decide +kernel
theorem d16 : decode yB 16 = .ok (.iload_n 2, 1) := by decide +kernel
theorem d17 : decode yB 17 = .ok (.baload, 1) := by decide +kernel
theorem d18 : decode yB 18 = .ok (.aload_n 1, 1) := by decide +kernel
theorem d19 : decode yB 19 = .ok (.iload_n 2, 1) := by decide +kernel
theorem d20 : decode yB 20 = .ok (.baload, 1) := by decide +kernel
theorem d21 : decode yB 21 = .ok (.if_icmp (.eq) 5, 3) := by decide +kernel
theorem d24 : decode yB 24 = .ok (.iconst 0, 1) := by decide +kernel
theorem d25 : decode yB 25 = .ok (.ireturn, 1) := by decide +kernel
theorem d26 : decode yB 26 = .ok (.iinc 2 1, 3) := by decide +kernel
theorem d29 : decode yB 29 = .ok (.goto (-20), 3) := by decide +kernel
theorem d32 : decode yB 32 = .ok (.iconst 1, 1) := by decide +kernel
theorem d33 : decode yB 33 = .ok (.ireturn, 1) := by decide +kernel
theorem d34 : decode yB 34 = .ok (.iconst 0, 1) := by decide +kernel
theorem d35 : decode yB 35 = .ok (.ireturn, 1) := by decide +kernel
def site : List Cond := []
def tab : Cond := tabOf yN yB 3 (some .boolean) site
def P (a : Addr) (A : Cell) (b : Addr) (B : Cell) (args : Array Value) (s : State) : Prop := args = #[.ref a, .ref b] ∧ XT.Arr .byte a A s ∧ Typed .byte A ∧ XT.Arr .byte b B s ∧ Typed .byte B
/-- whether two byte[] are equal, place for place -/
theorem law (l : Launch) (a : Addr) (A : Cell) (b : Addr) (B : Cell) : Law l yN 2 2 0 0 yB 3 (some .boolean) site (P a A b B) (Says01 (EqC A B)) [] 0 0 := by
  refine Law.of_walk (plainFor_of_name (by decide +kernel)) (by decide +kernel) (by decide +kernel) (by decide) (fun _ _ h => by rw [h.1]; rfl) (fun _ U U' hal hh h => ⟨h.1, h.2.1.mv hal hh, h.2.2.1, h.2.2.2.1.mv hal hh, h.2.2.2.2⟩) (fun r U U' V V' h1 hal h2 h => Says01.mv r U U' V V' h1 hal h2 h) ?_
  intro p e s m args below meth c s₁ X0 hexec hbytes hml hret hlk hnm hown hh0 W hP
  obtain ⟨rfl, hA, tA, hB, tB⟩ := hP
  have a31 := hA.2.2.2
  have b31 := hB.2.2.2
  have hA0 := hA.mv X0.warmed.alike hh0
  have hB0 := hB.mv X0.warmed.alike hh0
  have c1 : Steps p.tables e below (s₁.setTop (entryFrame m #[.ref a, .ref b] 3)) (s₁.setTop (mkF m 0 #[.val (.ref a), .val (.ref b), .unset] [])) := entry rfl
  have c2 : Steps p.tables e below (s₁.setTop (entryFrame m #[.ref a, .ref b] 3)) (s₁.setTop (mkF m 4 #[.val (.ref a), .val (.ref b), .unset] [.int (Int32.ofNat B.slots.size), .int (Int32.ofNat A.slots.size)])) := c1.trans (by
    refine XS.aloadN X0.here hexec rfl (hb hbytes d0) rfl rfl ?_
    refine X0.alen hexec hA0 rfl rfl (hb hbytes d1) ?_
    refine XS.aloadN X0.here hexec rfl (hb hbytes d2) rfl rfl ?_
    refine X0.alen hexec hB0 rfl rfl (hb hbytes d3) ?_
    exact Steps.refl _)
  by_cases hs : A.slots.size = B.slots.size
  · have c3 : Steps p.tables e below (s₁.setTop (entryFrame m #[.ref a, .ref b] 3)) (s₁.setTop (mkF m 9 #[.val (.ref a), .val (.ref b), .val (.int 0)] [])) := c2.trans (by
      refine XS.icmpNo X0.here hexec rfl (hb hbytes d4) rfl (ii_ne_f (by rw [hs])) ?_
      refine iconstV X0.here hexec rfl 0 (hb hbytes d7) (by decide) ?_
      refine XS.istoreN X0.here hexec rfl (hb hbytes d8) rfl rfl ?_
      exact Steps.refl _)
    have loop : ∀ (r i : Nat), i + r = A.slots.size → (∀ j, j < i → yv A j = yv B j) → Steps p.tables e below (s₁.setTop (entryFrame m #[.ref a, .ref b] 3)) (s₁.setTop (mkF m 9 #[.val (.ref a), .val (.ref b), .val (.int (Int32.ofNat i))] [])) → ∃ (pc : Nat) (Ls : Array Slot) (v : Int32), (pc = 25 ∨ pc = 33) ∧ ((v = 1 ∧ EqC A B) ∨ (v = 0 ∧ ¬ EqC A B)) ∧ Steps p.tables e below (s₁.setTop (entryFrame m #[.ref a, .ref b] 3)) (s₁.setTop (mkF m pc Ls [.int v])) := by
      intro r
      induction r with
      | zero =>
        intro i hi he cl
        exact ⟨33, _, 1, Or.inr rfl, Or.inl ⟨rfl, hs, fun j hj => he j (by omega)⟩, cl.trans (by
          refine XS.iloadN X0.here hexec rfl (hb hbytes d9) rfl ?_
          refine XS.aloadN X0.here hexec rfl (hb hbytes d10) rfl rfl ?_
          refine X0.alen hexec hA0 rfl rfl (hb hbytes d11) ?_
          refine XS.icmpYes X0.here hexec rfl (pc0 := 12) rfl (hb hbytes d12) rfl (ii_ge_t (nlt32 (by omega) (by omega))) (by decide) rfl ?_
          refine iconstV X0.here hexec rfl 1 (hb hbytes d32) (by decide) ?_
          exact Steps.refl _)⟩
      | succ r ih =>
        intro i hi he cl
        have c4 : Steps p.tables e below (s₁.setTop (entryFrame m #[.ref a, .ref b] 3)) (s₁.setTop (mkF m 21 #[.val (.ref a), .val (.ref b), .val (.int (Int32.ofNat i))] [.int (yv B i), .int (yv A i)])) := cl.trans (by
          refine XS.iloadN X0.here hexec rfl (hb hbytes d9) rfl ?_
          refine XS.aloadN X0.here hexec rfl (hb hbytes d10) rfl rfl ?_
          refine X0.alen hexec hA0 rfl rfl (hb hbytes d11) ?_
          refine XS.icmpNo X0.here hexec rfl (hb hbytes d12) rfl (ii_ge_f (lt32 (by omega) (by omega))) ?_
          refine XS.aloadN X0.here hexec rfl (hb hbytes d15) rfl rfl ?_
          refine XS.iloadN X0.here hexec rfl (hb hbytes d16) rfl ?_
          refine X0.aget hexec hA0 rfl (yv_get hA tA (i := i) (by omega)) rfl rfl (hb hbytes d17) ?_
          refine XS.aloadN X0.here hexec rfl (hb hbytes d18) rfl rfl ?_
          refine XS.iloadN X0.here hexec rfl (hb hbytes d19) rfl ?_
          refine X0.aget hexec hB0 rfl (yv_get hB tB (i := i) (by omega)) rfl rfl (hb hbytes d20) ?_
          exact Steps.refl _)
        by_cases hv : yv A i = yv B i
        · have c5 : Steps p.tables e below (s₁.setTop (entryFrame m #[.ref a, .ref b] 3)) (s₁.setTop (mkF m 9 #[.val (.ref a), .val (.ref b), .val (.int (Int32.ofNat i + 1))] [])) := c4.trans (by
            refine XS.icmpYes X0.here hexec rfl (pc0 := 21) rfl (hb hbytes d21) rfl (ii_eq_t hv) (by decide) rfl ?_
            refine iincV X0.here hexec rfl 1 (hb hbytes d26) (by decide) rfl rfl ?_
            refine XS.goto X0.here hexec rfl (pc0 := 29) rfl (hb hbytes d29) (by decide) rfl ?_
            exact Steps.refl _)
          rw [succ32] at c5
          exact ih (i + 1) (by omega) (fun j hj => by
            by_cases e : j = i
            · rw [e]; exact hv
            · exact he j (by omega)) c5
        · exact ⟨25, _, 0, Or.inl rfl, Or.inr ⟨rfl, fun q => hv (q.2 i (by omega))⟩, c4.trans (by
            refine XS.icmpNo X0.here hexec rfl (hb hbytes d21) rfl (ii_eq_f hv) ?_
            refine iconstV X0.here hexec rfl 0 (hb hbytes d24) (by decide) ?_
            exact Steps.refl _)⟩
    obtain ⟨pc, Ls, v, hpc, hv, cz⟩ := loop A.slots.size 0 (by omega) (fun j hj => absurd hj (Nat.not_lt_zero j)) c3
    have nv : narrow .boolean (.int v) = .int v := by rcases hv with ⟨rfl, -⟩ | ⟨rfl, -⟩ <;> rfl
    rcases hpc with rfl | rfl
    · exact ⟨s₁, some (.int v), _, _, _, X0, rfl, rfl, rfl, (fun h => by cases h), ⟨v, rfl, hh0, hv⟩, fun fs hl => cz.trans (X0.ireturnOut hexec hret nv (Or.inr (Or.inl rfl)) (hb hbytes d25) hl)⟩
    · exact ⟨s₁, some (.int v), _, _, _, X0, rfl, rfl, rfl, (fun h => by cases h), ⟨v, rfl, hh0, hv⟩, fun fs hl => cz.trans (X0.ireturnOut hexec hret nv (Or.inr (Or.inl rfl)) (hb hbytes d33) hl)⟩
  · have c3 : Steps p.tables e below (s₁.setTop (entryFrame m #[.ref a, .ref b] 3)) (s₁.setTop (mkF m 35 #[.val (.ref a), .val (.ref b), .unset] [.int 0])) := c2.trans (by
      refine XS.icmpYes X0.here hexec rfl (pc0 := 4) rfl (hb hbytes d4) rfl (ii_ne_t (ne32 a31 b31 hs)) (by decide) rfl ?_
      refine iconstV X0.here hexec rfl 0 (hb hbytes d34) (by decide) ?_
      exact Steps.refl _)
    exact ⟨s₁, some (.int 0), _, _, _, X0, rfl, rfl, rfl, (fun h => by cases h), ⟨0, rfl, hh0, Or.inr ⟨rfl, fun q => hs q.1⟩⟩, fun fs hl => c3.trans (X0.ireturnOut hexec hret rfl (Or.inr (Or.inl rfl)) (hb hbytes d35) hl)⟩
end LEq
theorem Cod.ty {cd : Int32} {n : Nat} {f : Nat → Int32} {V : Cell} (h : Cod cd n f V) : Typed .byte V := fun i v hv => by
  have hi : i < V.slots.size := (Array.getElem?_eq_some_iff.mp hv).1
  rcases h with ⟨-, k1, k2⟩ | ⟨-, k1, k2, -⟩
  · rw [(k2 i (by omega)).1] at hv; cases hv; exact fits_lo8 _
  · rcases Nat.mod_two_eq_zero_or_one i with e | e
    · obtain ⟨j, rfl⟩ : ∃ j, i = 2 * j := ⟨i / 2, by omega⟩
      rw [(k2 j (by omega)).1] at hv; cases hv; exact fits_lo8 _
    · obtain ⟨j, rfl⟩ : ∃ j, i = 2 * j + 1 := ⟨i / 2, by omega⟩
      rw [(k2 j (by omega)).2] at hv; cases hv; exact fits_lo8 _
/-- the same text -/
def SameT (n : Nat) (f : Nat → Int32) (k : Nat) (g : Nat → Int32) : Prop := n = k ∧ ∀ j, j < n → f j = g j
theorem lo8_inj {x y : Int32} (h0 : ¬ x < 0) (h1 : ¬ 255 < x) (k0 : ¬ y < 0) (k1 : ¬ 255 < y) (h : lo8 x = lo8 y) : x = y := by
  rw [← lo8_mask h0 h1, ← lo8_mask k0 k1, h]
/-- arrays coded by one coder are equal just where the texts are -/
theorem Cod.eqv {cd : Int32} {n k : Nat} {f g : Nat → Int32} {V V' : Cell} (h : Cod cd n f V) (h' : Cod cd k g V') (hf : ∀ j, j < n → ¬ f j < 0 ∧ ¬ 65535 < f j) (hg : ∀ j, j < k → ¬ g j < 0 ∧ ¬ 65535 < g j) : EqC V V' ↔ SameT n f k g := by
  have yvv : ∀ {W : Cell} {i : Nat} {x : Int32}, W.slots[i]? = some (.int x) → yv W i = x := fun q => by unfold yv; rw [q]
  rcases h with ⟨rfl, k1, k2⟩ | ⟨rfl, k1, k2, -⟩
  · rcases h' with ⟨-, m1, m2⟩ | ⟨e, -⟩
    · constructor
      · rintro ⟨e1, e2⟩
        refine ⟨by omega, fun j hj => ?_⟩
        have q := e2 j (by omega)
        rw [yvv (k2 j hj).1, yvv (m2 j (by omega)).1] at q
        exact lo8_inj (hf j hj).1 (k2 j hj).2 (hg j (by omega)).1 (m2 j (by omega)).2 q
      · rintro ⟨rfl, e2⟩
        refine ⟨by omega, fun j hj => ?_⟩
        rw [yvv (k2 j (by omega)).1, yvv (m2 j (by omega)).1, e2 j (by omega)]
    · exact absurd e (by decide)
  · rcases h' with ⟨e, -⟩ | ⟨-, m1, m2, -⟩
    · exact absurd e (by decide)
    · constructor
      · rintro ⟨e1, e2⟩
        refine ⟨by omega, fun j hj => ?_⟩
        have q1 := e2 (2 * j) (by omega)
        have q2 := e2 (2 * j + 1) (by omega)
        rw [yvv (k2 j hj).1, yvv (m2 j (by omega)).1] at q1
        rw [yvv (k2 j hj).2, yvv (m2 j (by omega)).2] at q2
        rw [← pair_says (hf j hj).1 (hf j hj).2, ← pair_says (hg j (by omega)).1 (hg j (by omega)).2, q1, q2]
      · rintro ⟨rfl, e2⟩
        refine ⟨by omega, fun i hi => ?_⟩
        rcases Nat.mod_two_eq_zero_or_one i with e | e
        · obtain ⟨j, rfl⟩ : ∃ j, i = 2 * j := ⟨i / 2, by omega⟩
          rw [yvv (k2 j (by omega)).1, yvv (m2 j (by omega)).1, e2 j (by omega)]
        · obtain ⟨j, rfl⟩ : ∃ j, i = 2 * j + 1 := ⟨i / 2, by omega⟩
          rw [yvv (k2 j (by omega)).2, yvv (m2 j (by omega)).2, e2 j (by omega)]
/-- two codings differ: so do the texts -/
theorem Cod.dif {cd cd' : Int32} {n k : Nat} {f g : Nat → Int32} {V V' : Cell} (h : Cod cd n f V) (h' : Cod cd' k g V') (hne : ¬ cd = cd') : ¬ SameT n f k g := by
  rintro ⟨rfl, e⟩
  rcases h with ⟨rfl, -, k2⟩ | ⟨rfl, -, -, j, hj, hw⟩
  · rcases h' with ⟨rfl, -⟩ | ⟨-, -, -, j, hj, hw⟩
    · exact hne rfl
    · exact (k2 j hj).2 (by rw [e j hj]; exact hw)
  · rcases h' with ⟨-, -, m2⟩ | ⟨rfl, -⟩
    · exact (m2 j hj).2 (by rw [← e j hj]; exact hw)
    · exact hne rfl
/-- an object of exactly C is an instance of C -/
theorem cinst {p : Program} {l : Launch} {e : Env} {R : Room} {s : State} {m : MethodId} {args : Array Value} {below : List Frame} {meth : Method} {c : Code} {T : State} {locs : List Loc} {cells slots : Nat} (X : Stand p l e R s m args below meth c T locs cells slots) (hexec : p.tables.exec = Jvm.exec) {own C : String} {index : Nat} (hown : s.vm.findClass own = some m.cls) (hlink : (Cond.classLink own index C).before args s = true) {a : Addr} (hE : Exact C a T)
    {g : JFrame} (hg : g.method = m) {rest : List Value} (hstack : g.stack = .ref a :: rest) (hdg : decode c.code g.pc = .ok (.instanceof index, 3)) :
    ∃ T', Stand p l e R s m args below meth c T' locs cells slots ∧ T'.heap = T.heap ∧ ∀ target, Steps p.tables e below (T'.setTop { g with pc := g.pc + 3, stack := .int 1 :: rest }) target → Steps p.tables e below (T.setTop g) target := by
  obtain ⟨cB, h1, D, h2, h3, h4⟩ := hE
  have h1' : s.vm.findClass C = some cB := by rw [← X.warmed.alike.findClass]; exact h1
  obtain ⟨vm', X', st⟩ := X.instanceofYes hexec hown hlink h2 h4 h1' (by rw [h3]; exact Jvm.Free.SB.assignable_self _ _) hg hstack hdg
  exact ⟨_, X', rfl, st⟩
theorem cself {p : Program} {l : Launch} {e : Env} {R : Room} {s : State} {m : MethodId} {args : Array Value} {below : List Frame} {meth : Method} {c : Code} {T : State} {locs : List Loc} {cells slots : Nat} (X : Stand p l e R s m args below meth c T locs cells slots) (hexec : p.tables.exec = Jvm.exec) {own C : String} {index : Nat} (hown : s.vm.findClass own = some m.cls) (hlink : (Cond.classLink own index C).before args s = true) {a : Addr} (hE : Exact C a T)
    {g : JFrame} (hg : g.method = m) {rest : List Value} (hstack : g.stack = .ref a :: rest) (hdg : decode c.code g.pc = .ok (.checkcast index, 3)) :
    ∃ T', Stand p l e R s m args below meth c T' locs cells slots ∧ T'.heap = T.heap ∧ ∀ target, Steps p.tables e below (T'.setTop { g with pc := g.pc + 3, stack := .ref a :: rest }) target → Steps p.tables e below (T.setTop g) target := by
  obtain ⟨cB, h1, D, h2, h3, h4⟩ := hE
  have h1' : s.vm.findClass C = some cB := by rw [← X.warmed.alike.findClass]; exact h1
  obtain ⟨vm', X', st⟩ := X.checkcastYes hexec hown hlink h2 h4 h1' (by rw [h3]; exact Jvm.Free.SB.assignable_self _ _) hg hstack hdg
  exact ⟨_, X', rfl, fun t h => st t (by rw [← hstack] at h; exact h)⟩
namespace SEq
def yN : MethodName := ⟨"java/lang/String", "equals", "(Ljava/lang/Object;)Z"⟩
abbrev yB : ByteArray := jdk_42_method_66_code
theorem d0 : decode yB 0 = .ok (.aload_n 0, 1) := by decide +kernel
theorem d1 : decode yB 1 = .ok (.aload_n 1, 1) := by decide +kernel
theorem d2 : decode yB 2 = .ok (.if_acmp (.ne) 5, 3) := by decide +kernel
theorem d5 : decode yB 5 = .ok (.iconst 1, 1) := by decide +kernel
theorem d6 : decode yB 6 = .ok (.ireturn, 1) := by decide +kernel
theorem d7 : decode yB 7 = .ok (.aload_n 1, 1) := by decide +kernel
theorem d8 : decode yB 8 = .ok (.instanceof 10, 3) := by decide +kernel
theorem d11 : decode yB 11 = .ok (.ifCond (.eq) 43, 3) := by decide +kernel
theorem d14 : decode yB 14 = .ok (.aload_n 1, 1) := by decide +kernel
theorem d15 : decode yB 15 = .ok (.checkcast 10, 3) := by decide +kernel
theorem d18 : decode yB 18 = .ok (.astore_n 2, 1) := by decide +kernel
theorem d19 : decode yB 19 = .ok (.getstatic 38, 3) := by decide +kernel
theorem d22 : decode yB 22 = .ok (.ifCond (.eq) 14, 3) := by decide +kernel
theorem d25 : decode yB 25 = .ok (.aload_n 0, 1) := by decide +kernel
theorem d26 : decode yB 26 = .ok (.getfield 15, 3) := by decide +kernel
theorem d29 : decode yB 29 = .ok (.aload_n 2, 1) := by decide +kernel
theorem d30 : decode yB 30 = .ok (.getfield 15, 3) := by decide +kernel
theorem d33 : decode yB 33 = .ok (.if_icmp (.ne) 21, 3) := by decide +kernel
theorem d36 : decode yB 36 = .ok (.aload_n 0, 1) := by decide +kernel
theorem d37 : decode yB 37 = .ok (.getfield 9, 3) := by decide +kernel
theorem d40 : decode yB 40 = .ok (.aload_n 2, 1) := by decide +kernel
theorem d41 : decode yB 41 = .ok (.getfield 9, 3) := by decide +kernel
theorem d44 : decode yB 44 = .ok (.invokestatic 541, 3) := by decide +kernel
theorem d47 : decode yB 47 = .ok (.ifCond (.eq) 7, 3) := by decide +kernel
theorem d50 : decode yB 50 = .ok (.iconst 1, 1) := by decide +kernel
theorem d51 : decode yB 51 = .ok (.goto 4, 3) := by decide +kernel
theorem d54 : decode yB 54 = .ok (.iconst 0, 1) := by decide +kernel
theorem d55 : decode yB 55 = .ok (.ireturn, 1) := by decide +kernel
def site : List Cond := [.classLink "java/lang/String" 10 "java/lang/String", .fieldLink "java/lang/String" 38 "java/lang/String" "COMPACT_STRINGS" "Z", .fieldLink "java/lang/String" 15 "java/lang/String" "coder" "B", .fieldLink "java/lang/String" 9 "java/lang/String" "value" "[B", LEq.tab] ++ staticW "java/lang/String" 541 LEq.yN
def tab : Cond := tabOf yN yB 3 (some .boolean) site
def P (x t : Addr) (V : Cell) (cd : Int32) (n : Nat) (f : Nat → Int32) (y t' : Addr) (V' : Cell) (cd' : Int32) (k : Nat) (g : Nat → Int32) (z : Int32) (args : Array Value) (s : State) : Prop := args = #[.ref x, .ref y] ∧ Txt x t V cd n f s ∧ Txt y t' V' cd' k g s ∧ StaticIs s "java/lang/String" "COMPACT_STRINGS" "Z" (.int z) ∧ ¬ z = 0
/-- equals(Object) of two Strings: whether the texts are the same -/
theorem law (l : Launch) (x t : Addr) (V : Cell) (cd : Int32) (n : Nat) (f : Nat → Int32) (y t' : Addr) (V' : Cell) (cd' : Int32) (k : Nat) (g : Nat → Int32) (z : Int32) : Law l yN 2 1 1 14 yB 3 (some .boolean) site (P x t V cd n f y t' V' cd' k g z) (Says01 (SameT n f k g)) [] 0 0 := by
  refine Law.of_walk (plainFor_of_name (by decide +kernel)) (by decide +kernel) (by decide +kernel) (by decide) (fun _ _ h => by rw [h.1]; rfl) (fun _ U U' hal hh h => ⟨h.1, h.2.1.mv hal hh, h.2.2.1.mv hal hh, h.2.2.2.1.there hal hh, h.2.2.2.2⟩) (fun r U U' V V' h1 hal h2 h => Says01.mv r U U' V V' h1 hal h2 h) ?_
  intro p e s m args below meth c s₁ X0 hexec hbytes hml hret hlk hnm hown hh0 W hP
  obtain ⟨rfl, hx, hy, s1, hz⟩ := hP
  have c1 : Steps p.tables e below (s₁.setTop (entryFrame m #[.ref x, .ref y] 3)) (s₁.setTop (mkF m 2 #[.val (.ref x), .val (.ref y), .unset] [.ref y, .ref x])) := Steps.trans (entry rfl) (by
    show Steps p.tables e below (s₁.setTop (mkF m 0 #[.val (.ref x), .val (.ref y), .unset] [])) _
    refine XS.aloadN X0.here hexec rfl (hb hbytes d0) rfl rfl ?_
    refine XS.aloadN X0.here hexec rfl (hb hbytes d1) rfl rfl ?_
    exact Steps.refl _)
  by_cases hxy : x = y
  · have c2 : Steps p.tables e below (s₁.setTop (entryFrame m #[.ref x, .ref y] 3)) (s₁.setTop (mkF m 6 #[.val (.ref x), .val (.ref y), .unset] [.int 1])) := c1.trans (by
      refine acmpNo X0.here hexec rfl (hb hbytes d2) rfl rfl rfl (by simp [acmp, hxy]) ?_
      refine iconstV X0.here hexec rfl 1 (hb hbytes d5) (by decide) ?_
      exact Steps.refl _)
    subst hxy
    have ec : cd = cd' := by
      obtain ⟨D, fd, a1, a2, a3⟩ := hx.2.2.1
      obtain ⟨D', fd', b1, b2, b3⟩ := hy.2.2.1
      cases a1.symm.trans b1
      obtain ⟨q1, q2, q3, q4⟩ := a2.1
      obtain ⟨r1, r2, r3, r4⟩ := b2.1
      cases q4.symm.trans r4
      cases a3.symm.trans b3; rfl
    have et : t = t' := by
      obtain ⟨D, fd, a1, a2, a3⟩ := hx.2.1
      obtain ⟨D', fd', b1, b2, b3⟩ := hy.2.1
      cases a1.symm.trans b1
      obtain ⟨q1, q2, q3, q4⟩ := a2.1
      obtain ⟨r1, r2, r3, r4⟩ := b2.1
      cases q4.symm.trans r4
      cases a3.symm.trans b3; rfl
    subst ec et
    have ev : V = V' := by cases hx.2.2.2.1.1.symm.trans hy.2.2.2.1.1; rfl
    subst ev
    have hs : SameT n f k g := (Cod.eqv hx.2.2.2.2.1 hy.2.2.2.2.1 hx.2.2.2.2.2 hy.2.2.2.2.2).mp ⟨rfl, fun _ _ => rfl⟩
    exact ⟨s₁, some (.int 1), _, _, _, X0, rfl, rfl, rfl, (fun h => by cases h), ⟨1, rfl, hh0, Or.inl ⟨rfl, hs⟩⟩, fun fs hl => c2.trans (X0.ireturnOut hexec hret rfl (Or.inr (Or.inl rfl)) (hb hbytes d6) hl)⟩
  · have c2 : Steps p.tables e below (s₁.setTop (entryFrame m #[.ref x, .ref y] 3)) (s₁.setTop (mkF m 8 #[.val (.ref x), .val (.ref y), .unset] [.ref y])) := c1.trans (by
      refine acmpYes X0.here hexec rfl (pc0 := 2) rfl (hb hbytes d2) rfl rfl rfl (by simp [acmp, hxy]) (by decide) rfl ?_
      refine XS.aloadN X0.here hexec rfl (hb hbytes d7) rfl rfl ?_
      exact Steps.refl _)
    obtain ⟨T3, X3, q3, st3⟩ := cinst X0 hexec hown (wk W (.classLink "java/lang/String" 10 "java/lang/String")) (hy.mv X0.warmed.alike hh0).1 (g := (mkF m 8 #[.val (.ref x), .val (.ref y), .unset] [.ref y])) rfl (rest := []) rfl (hb hbytes d8)
    have hh3 := q3.trans hh0
    have c4 : Steps p.tables e below (s₁.setTop (entryFrame m #[.ref x, .ref y] 3)) (T3.setTop (mkF m 15 #[.val (.ref x), .val (.ref y), .unset] [.ref y])) := (c2.trans (st3 _ (Steps.refl _))).trans (by
      refine XS.ifNo X3.here hexec rfl (hb hbytes d11) rfl (i0_eq_f (by decide)) ?_
      refine XS.aloadN X3.here hexec rfl (hb hbytes d14) rfl rfl ?_
      exact Steps.refl _)
    obtain ⟨T5, X5, q5, st5⟩ := cself X3 hexec hown (wk W (.classLink "java/lang/String" 10 "java/lang/String")) (hy.mv X3.warmed.alike hh3).1 (g := (mkF m 15 #[.val (.ref x), .val (.ref y), .unset] [.ref y])) rfl (rest := []) rfl (hb hbytes d15)
    have hh5 := q5.trans hh3
    have c6 : Steps p.tables e below (s₁.setTop (entryFrame m #[.ref x, .ref y] 3)) (T5.setTop (mkF m 19 #[.val (.ref x), .val (.ref y), .val (.ref y)] [])) := (c4.trans (st5 _ (Steps.refl _))).trans (by
      refine XS.astoreN X5.here hexec rfl (hb hbytes d18) rfl rfl rfl ?_
      exact Steps.refl _)
    obtain ⟨T7, X7, q7, st7⟩ := X5.sget hexec hown (wk W (.fieldLink "java/lang/String" 38 "java/lang/String" "COMPACT_STRINGS" "Z")) s1 (fun _ _ h => by rw [hh5]; exact h) (g := (mkF m 19 #[.val (.ref x), .val (.ref y), .val (.ref y)] [])) rfl (hb hbytes d19)
    have hh7 := q7.trans hh5
    have c8 : Steps p.tables e below (s₁.setTop (entryFrame m #[.ref x, .ref y] 3)) (T7.setTop (mkF m 26 #[.val (.ref x), .val (.ref y), .val (.ref y)] [.ref x])) := (c6.trans (st7 _ (Steps.refl _))).trans (by
      refine XS.ifNo X7.here hexec rfl (hb hbytes d22) rfl (i0_eq_f hz) ?_
      refine XS.aloadN X7.here hexec rfl (hb hbytes d25) rfl rfl ?_
      exact Steps.refl _)
    obtain ⟨T9, X9, q9, st9⟩ := X7.hget hexec hown (wk W (.fieldLink "java/lang/String" 15 "java/lang/String" "coder" "B")) (hx.mv X7.warmed.alike hh7).2.2.1 (g := (mkF m 26 #[.val (.ref x), .val (.ref y), .val (.ref y)] [.ref x])) rfl (rest := []) rfl (hb hbytes d26)
    have hh9 := q9.trans hh7
    have c10 : Steps p.tables e below (s₁.setTop (entryFrame m #[.ref x, .ref y] 3)) (T9.setTop (mkF m 30 #[.val (.ref x), .val (.ref y), .val (.ref y)] [.ref y, .int cd])) := (c8.trans (st9 _ (Steps.refl _))).trans (by
      refine XS.aloadN X9.here hexec rfl (hb hbytes d29) rfl rfl ?_
      exact Steps.refl _)
    obtain ⟨T11, X11, q11, st11⟩ := X9.hget hexec hown (wk W (.fieldLink "java/lang/String" 15 "java/lang/String" "coder" "B")) (hy.mv X9.warmed.alike hh9).2.2.1 (g := (mkF m 30 #[.val (.ref x), .val (.ref y), .val (.ref y)] [.ref y, .int cd])) rfl (rest := [.int cd]) rfl (hb hbytes d30)
    have hh11 := q11.trans hh9
    have c12 : Steps p.tables e below (s₁.setTop (entryFrame m #[.ref x, .ref y] 3)) (T11.setTop (mkF m 33 #[.val (.ref x), .val (.ref y), .val (.ref y)] [.int cd', .int cd])) := c10.trans (st11 _ (Steps.refl _))
    by_cases hcd : cd = cd'
    · subst hcd
      have c13 : Steps p.tables e below (s₁.setTop (entryFrame m #[.ref x, .ref y] 3)) (T11.setTop (mkF m 37 #[.val (.ref x), .val (.ref y), .val (.ref y)] [.ref x])) := c12.trans (by
        refine XS.icmpNo X11.here hexec rfl (hb hbytes d33) rfl (ii_ne_f rfl) ?_
        refine XS.aloadN X11.here hexec rfl (hb hbytes d36) rfl rfl ?_
        exact Steps.refl _)
      obtain ⟨T14, X14, q14, st14⟩ := X11.hget hexec hown (wk W (.fieldLink "java/lang/String" 9 "java/lang/String" "value" "[B")) (hx.mv X11.warmed.alike hh11).2.1 (g := (mkF m 37 #[.val (.ref x), .val (.ref y), .val (.ref y)] [.ref x])) rfl (rest := []) rfl (hb hbytes d37)
      have hh14 := q14.trans hh11
      have c15 : Steps p.tables e below (s₁.setTop (entryFrame m #[.ref x, .ref y] 3)) (T14.setTop (mkF m 41 #[.val (.ref x), .val (.ref y), .val (.ref y)] [.ref y, .ref t])) := (c13.trans (st14 _ (Steps.refl _))).trans (by
        refine XS.aloadN X14.here hexec rfl (hb hbytes d40) rfl rfl ?_
        exact Steps.refl _)
      obtain ⟨T16, X16, q16, st16⟩ := X14.hget hexec hown (wk W (.fieldLink "java/lang/String" 9 "java/lang/String" "value" "[B")) (hy.mv X14.warmed.alike hh14).2.1 (g := (mkF m 41 #[.val (.ref x), .val (.ref y), .val (.ref y)] [.ref y, .ref t])) rfl (rest := [.ref t]) rfl (hb hbytes d41)
      have hh16 := q16.trans hh14
      have c17 : Steps p.tables e below (s₁.setTop (entryFrame m #[.ref x, .ref y] 3)) (T16.setTop (mkF m 44 #[.val (.ref x), .val (.ref y), .val (.ref y)] [.ref t', .ref t])) := c15.trans (st16 _ (Steps.refl _))
      obtain ⟨v18, T18, X18, E18, g18⟩ := X16.callS hexec (LEq.law l t V t' V') hown (wks W (staticW "java/lang/String" 541 LEq.yN)) (wk W LEq.tab) (W := 0) (Nat.le_of_ble_eq_true rfl) (Nat.le_of_ble_eq_true rfl) (Nat.le_refl _) (Nat.le_refl _) (g := (mkF m 44 #[.val (.ref x), .val (.ref y), .val (.ref y)] [.ref t', .ref t])) rfl (by rw [hml]; rfl) c17 (argsL := [.ref t, .ref t']) (rest := []) rfl rfl (by show 2 * 0 + 0 ≤ _; decide) (hb hbytes d44) (⟨rfl, hx.2.2.2.1.mv X16.warmed.alike hh16, hx.2.2.2.2.1.ty, hy.2.2.2.1.mv X16.warmed.alike hh16, hy.2.2.2.2.1.ty⟩)
      obtain ⟨v, rfl, q18, hv⟩ := E18
      have iff := Cod.eqv hx.2.2.2.2.1 hy.2.2.2.2.1 hx.2.2.2.2.2 hy.2.2.2.2.2
      rcases hv with ⟨rfl, he⟩ | ⟨rfl, he⟩
      · have c19 : Steps p.tables e below (s₁.setTop (entryFrame m #[.ref x, .ref y] 3)) (T18.setTop (mkF m 55 #[.val (.ref x), .val (.ref y), .val (.ref y)] [.int 1])) := Steps.trans g18 (by
          refine XS.ifNo X18.here hexec rfl (hb hbytes d47) rfl (i0_eq_f (by decide)) ?_
          refine iconstV X18.here hexec rfl 1 (hb hbytes d50) (by decide) ?_
          refine XS.goto X18.here hexec rfl (pc0 := 51) rfl (hb hbytes d51) (by decide) rfl ?_
          exact Steps.refl _)
        exact ⟨T18, some (.int 1), _, _, _, X18, rfl, rfl, rfl, (fun h => by cases h), ⟨1, rfl, q18.trans hh16, Or.inl ⟨rfl, iff.mp he⟩⟩, fun fs hl => c19.trans (X18.ireturnOut hexec hret rfl (Or.inr (Or.inl rfl)) (hb hbytes d55) hl)⟩
      · have c19 : Steps p.tables e below (s₁.setTop (entryFrame m #[.ref x, .ref y] 3)) (T18.setTop (mkF m 55 #[.val (.ref x), .val (.ref y), .val (.ref y)] [.int 0])) := Steps.trans g18 (by
          refine XS.ifYes X18.here hexec rfl (pc0 := 47) rfl (hb hbytes d47) rfl (i0_eq_t rfl) (by decide) rfl ?_
          refine iconstV X18.here hexec rfl 0 (hb hbytes d54) (by decide) ?_
          exact Steps.refl _)
        exact ⟨T18, some (.int 0), _, _, _, X18, rfl, rfl, rfl, (fun h => by cases h), ⟨0, rfl, q18.trans hh16, Or.inr ⟨rfl, fun q => he (iff.mpr q)⟩⟩, fun fs hl => c19.trans (X18.ireturnOut hexec hret rfl (Or.inr (Or.inl rfl)) (hb hbytes d55) hl)⟩
    · have c13 : Steps p.tables e below (s₁.setTop (entryFrame m #[.ref x, .ref y] 3)) (T11.setTop (mkF m 55 #[.val (.ref x), .val (.ref y), .val (.ref y)] [.int 0])) := c12.trans (by
        refine XS.icmpYes X11.here hexec rfl (pc0 := 33) rfl (hb hbytes d33) rfl (ii_ne_t hcd) (by decide) rfl ?_
        refine iconstV X11.here hexec rfl 0 (hb hbytes d54) (by decide) ?_
        exact Steps.refl _)
      exact ⟨T11, some (.int 0), _, _, _, X11, rfl, rfl, rfl, (fun h => by cases h), ⟨0, rfl, hh11, Or.inr ⟨rfl, Cod.dif hx.2.2.2.2.1 hy.2.2.2.2.1 hcd⟩⟩, fun fs hl => c13.trans (X11.ireturnOut hexec hret rfl (Or.inr (Or.inl rfl)) (hb hbytes d55) hl)⟩
theorem pays {l : Launch} {R : Room} {p : Program} {e : Env} {below : List Frame} {s : State} {sargs : Array Value} {len W : Nat} (x t : Addr) (V : Cell) (cd : Int32) (n : Nat) (f : Nat → Int32) (y t' : Addr) (V' : Cell) (cd' : Int32) (k : Nat) (g : Nat → Int32) (z : Int32) (htab : tab.before sargs s = true) (hfr : 2 ≤ R.frames) (hlo : W + 28 ≤ R.locals) :
    Back l R p e below s sargs yN len W (fun A₁ a₁ => A₁.cells + 0 ≤ R.cells ∧ A₁.slots + 0 ≤ R.slots ∧ P x t V cd n f y t' V' cd' k g z a₁ A₁.U) (fun A₁ _ v₁ B₁ => Says01 (SameT n f k g) v₁ A₁.U B₁.U ∧ B₁.locs = A₁.locs ++ [] ∧ B₁.cells = A₁.cells + 0 ∧ B₁.slots = A₁.slots + 0) :=
  (law l x t V cd n f y t' V' cd' k g z).pays htab hfr (by omega)
end SEq
end StrChars
namespace StrChars.Road
open Jvm Sem ClassFile Op Lib Jvm.Stand Jvm.Free Jvm.Free.XT
open Jvm.Lib.Cold (StaticIs)
/-- what is asked by String.equals(Object) -/
abbrev wordsEq : List Jvm.Cond := [.code SEq.yN SEq.yB 3 (some .boolean), .initialized ST, .classLink ST 10 ST, .fieldLink ST 38 ST "COMPACT_STRINGS" "Z", .fieldLink ST 15 ST "coder" "B", .fieldLink ST 9 ST "value" "[B", .methodLink ST 541 LEq.yN, .static LEq.yN, .code LEq.yN LEq.yB 3 (some .boolean), .initialized "java/lang/StringLatin1"]
theorem tabEq_of {a : Array Value} {s : State} (h : ∀ w ∈ wordsEq, w.before a s = true) : SEq.tab.before a s = true := by
  have hl : LEq.tab.before a s = true := unparts (wk h (.code LEq.yN LEq.yB 3 (some .boolean))) (wks h (.initialized LEq.yN.cls :: LEq.site))
  have q := consq hl h
  exact unparts (wk q (.code SEq.yN SEq.yB 3 (some .boolean))) (wks q (.initialized SEq.yN.cls :: SEq.site))
theorem movedEq {Z s : State} {a0 args : Array Value} (hZ : Z.Warmed39 s.vm) (hw : ∀ d ∈ wordsEq, d.before a0 Z = true) : ∀ d ∈ wordsEq, d.before args s = true := fun d hd => by
  have t : ∀ d ∈ wordsEq, (d.onTables && d.keepsFace) = true := by decide +kernel
  exact RoadKit.mv hZ (hw d hd) (t d hd)
/-- the road's facts of a String, as the laws ask it -/
theorem txt_of {Z U : State} {a0 : Array Value} {kI : Nat} (wi : (Jvm.Cond.instantiable ST kI).before a0 Z = true) (al : Z.vm.Alike U.vm) {x t : Addr} {kb : ClassId} {cs : List Int32} {cd N2 : Int32} {vs : List Value} (E : RoadKit.Exa Z U.heap x ST) (V : RoadKit.Fld Z U.heap x ST "value" "[B" (.ref t)) (C : RoadKit.Fld Z U.heap x ST "coder" "B" (.int cd)) (K : RoadKit.Arv Z U.heap t kb .byte N2 vs (.int 0)) (hc : CodA cs cd N2 vs) (hb : ∀ c ∈ cs, ¬ c < 0 ∧ ¬ (65535 : Int32) < c) (l2 : cs.length ≤ 4000) :
    ∃ A, Txt x t A cd cs.length (fun j => cs.getD j 0) U := by
  obtain ⟨A, K1, K2, K3, K4, K5, K6⟩ := K
  have hcod := hc.cod (by omega) K3 K5
  obtain ⟨D, fV, fC, hB, F1, F2, g1, g2, -, -⟩ := strObj wi al E V C
  exact ⟨A, ⟨_, hB.2.2.1, D, hB.1, rfl, by cases q : D.vm <;> first | rfl | exact absurd q (hB.2.1.2 _)⟩, Has.of hB F1 g1, Has.of hB F2 g2, ⟨K1.1, State.isArrayOf_alike al K1.2.1, K1.2.2, by rcases hcod with ⟨-, q, -⟩ | ⟨-, q, -⟩ <;> omega⟩, hcod, fun j hj => by
    have e : cs.getD j 0 = cs[j] := by simp [List.getD_eq_getElem?_getD, hj]
    show ¬ cs.getD j 0 < 0 ∧ ¬ 65535 < cs.getD j 0
    rw [e]; exact hb _ (List.getElem_mem _)⟩
theorem same_list (cs ds : List Int32) : SameT cs.length (fun j => cs.getD j 0) ds.length (fun j => ds.getD j 0) ↔ cs = ds := by
  constructor
  · rintro ⟨e, q⟩
    refine List.ext_getElem e fun j h1 h2 => ?_
    have := q j h1
    simpa [List.getD_eq_getElem?_getD, h1, h2] using this
  · rintro rfl
    exact ⟨rfl, fun _ _ => rfl⟩
/-- **equals(Object) OF TWO SUCH STRINGS**: 1 just where the chars are the same -/
theorem eqW {p : Program} {l : Launch} {e : Env} {R : Room} {s : State} {args : Array Value} {below : List Frame} {len W : Nat} {Z : State} {a0 : Array Value} {h : Heap} (hZ : Z.Warmed39 s.vm) (hw : ∀ d ∈ wordsEq, d.before a0 Z = true) {kI : Nat} (wi : (Jvm.Cond.instantiable ST kI).before a0 Z = true)
    {x t : Addr} {kb : ClassId} {cs : List Int32} {cd N2 : Int32} {vs : List Value} (E : RoadKit.Exa Z h x ST) (V : RoadKit.Fld Z h x ST "value" "[B" (.ref t)) (C : RoadKit.Fld Z h x ST "coder" "B" (.int cd)) (K : RoadKit.Arv Z h t kb .byte N2 vs (.int 0)) (hc : CodA cs cd N2 vs) (hb : ∀ c ∈ cs, ¬ c < 0 ∧ ¬ (65535 : Int32) < c) (l2 : cs.length ≤ 4000)
    {y t' : Addr} {kb' : ClassId} {ds : List Int32} {cd' N2' : Int32} {vs' : List Value} (E' : RoadKit.Exa Z h y ST) (V' : RoadKit.Fld Z h y ST "value" "[B" (.ref t')) (C' : RoadKit.Fld Z h y ST "coder" "B" (.int cd')) (K' : RoadKit.Arv Z h t' kb' .byte N2' vs' (.int 0)) (hc' : CodA ds cd' N2' vs') (hb' : ∀ c ∈ ds, ¬ c < 0 ∧ ¬ (65535 : Int32) < c) (l2' : ds.length ≤ 4000)
    {z : Int32} (S : RoadKit.Sta Z h ST "COMPACT_STRINGS" "Z" (.int z)) (hz : ¬ z = 0) (hfr : 2 ≤ R.frames) (hlo : W + 28 ≤ R.locals) :
    Back l R p e below s args (⟨"java/lang/String", "equals", "(Ljava/lang/Object;)Z"⟩ : MethodName) len W (fun P a => a = #[.ref x, .ref y] ∧ P.U.heap = h ∧ P.cells + 0 ≤ R.cells ∧ P.slots + 0 ≤ R.slots)
      (fun P _ v B => ∃ L, (((v = some (.int 1) ∧ cs = ds) ∨ (v = some (.int 0) ∧ ¬ cs = ds)) ∧ L = [] ∧ B.U.heap = h) ∧ B.locs = P.locs ++ L ∧ B.cells = P.cells + 0 ∧ B.slots = P.slots + 0) := by
  intro m meth c P g ig mk a X hg hsize hdg hW hn hp'
  obtain ⟨rfl, rfl, r1, r2⟩ := hp'
  have al : Z.vm.Alike P.U.vm := hZ.alike.trans X.warmed.alike
  obtain ⟨A, hx⟩ := txt_of wi al E V C K hc hb l2
  obtain ⟨A', hy⟩ := txt_of wi al E' V' C' K' hc' hb' l2'
  obtain ⟨v, B, X', ⟨⟨w, hv, hh, hq⟩, hl, hk, hs⟩, st⟩ := SEq.pays x t A cd cs.length (fun j => cs.getD j 0) y t' A' cd' ds.length (fun j => ds.getD j 0) z (tabEq_of (movedEq hZ hw)) hfr hlo m meth c P g ig mk _ X hg hsize hdg hW hn ⟨r1, r2, rfl, hx, hy, sta_is al S, hz⟩
  refine ⟨v, B, X', ⟨[], ⟨?_, rfl, hh⟩, hl, hk, hs⟩, st⟩
  rcases hq with ⟨rfl, q⟩ | ⟨rfl, q⟩
  · exact Or.inl ⟨hv, (same_list cs ds).mp q⟩
  · exact Or.inr ⟨hv, fun e => q ((same_list cs ds).mpr e)⟩
end StrChars.Road
end Jvm.Pilot.@@N@@
namespace Jvm.Pilot.@@N@@
open Jvm Jvm.ClassFile Sem Op Lib Jvm.Free Jvm.Stand Jvm.LawKit Jvm.RoadKit Bundle Jvm.Pilot.@@N@@.Jvm.D
/-! what the case's words say of the start -/
section OwnS
variable {s : State} {args : Array Value} {t u : Term} {a b : Addr} {cl : Cell} {ty : FieldType} {v : Value}
theorem own_eqv (h : (Jvm.Cond.eq t u).value args s none s [] = some true) (hu : u.eval args s none [] s = some v) : t.eval args s none [] s = some v := by
  obtain ⟨x, y, ha, hb, -, -⟩ := cmp_v (Or.inl h)
  cases hb.symm.trans hu
  rw [ha]
  cases x <;> cases v <;> simp [Jvm.Cond.value, ha, hu] at h <;> simp [h]
theorem own_fld {C n d : String} (h : (Jvm.Cond.eq (Term.field t C n d) u).value args s none s [] = some true) (ht : t.eval args s none [] s = some (.ref a)) (hu : u.eval args s none [] s = some v) : Fld s s.heap a C n d v := by
  have q := own_eqv h hu
  rw [fld_at ht] at q
  exact Fld.start q
theorem own_len {z : Int32} (h : (Jvm.Cond.eq (Term.length t) u).value args s none s [] = some true) (ht : t.eval args s none [] s = some (.ref a)) (A : Arr s s.heap a cl ty) (hu : u.eval args s none [] s = some (.int z)) (hz : ¬ z < 0) : cl.slots.size = z.toNatClampNeg ∧ cl.slots.size < 2 ^ 31 := by
  have q := own_eqv h hu
  have f := Arr.fin (U := s) (Vm.Alike.refl _) A
  have hl : cl.slots.size < 2 ^ 31 := by
    apply Classical.byContradiction
    intro n
    simp [Term.eval, ht, f, n] at q
  rw [len_f ht f hl] at q
  have e : cl.slots.size.toInt32 = z := by simpa using q
  refine ⟨?_, hl⟩
  rw [← e]
  simp only [Int32.toNatClampNeg, len_toInt hl]
  rfl
theorem own_elem {j : Term} {z : Int32} (h : (Jvm.Cond.eq (Term.elem t j) u).value args s none s [] = some true) (ht : t.eval args s none [] s = some (.ref a)) (A : Arr s s.heap a cl ty) (hj : j.eval args s none [] s = some (.int z)) (hu : u.eval args s none [] s = some v) : cl.slots[z.toNatClampNeg]? = some v :=
  (elem_in (own_eqv h hu) ht hj A.1).2
theorem own_has3 {vs : List Value} {z : Int32} {dv : Value} (hf : Fit s) (A : Arr s s.heap a cl ty) (q : cl.slots.size < 2 ^ 31) (S : cl.slots.size = z.toNatClampNeg) (H : HasL cl 0 vs) (hl : z.toNatClampNeg = vs.length := by rfl) : Has cl vs dv ∧ ∀ i, i < cl.slots.size → fits ty (vs.getD i dv) = true := by
  have H' : Has cl vs dv := fun j hj => by
    have := HasL.at (dv := dv) vs 0 H j (by rw [← hl, ← S]; exact hj)
    rwa [Nat.zero_add] at this
  refine ⟨H', fun j hj => ?_⟩
  have e1 : (Nat.toInt32 j).toNatClampNeg = j := by simp only [Int32.toNatClampNeg, len_toInt (Nat.lt_trans hj q)]; rfl
  exact elem_fits (j := Nat.toInt32 j) hf A (idx_in hj q) (by rw [e1]; exact H' j hj)
theorem own_arv {vs : List Value} {z : Int32} (dv : Value) (hf : Fit s) (A : Arr s s.heap a cl ty) (q : cl.slots.size = z.toNatClampNeg ∧ cl.slots.size < 2 ^ 31) (hz : ¬ z < 0) (H : HasL cl 0 vs) (hl : z.toNatClampNeg = vs.length := by rfl) : Arv s s.heap a cl.cls ty z vs dv := by
  obtain ⟨h1, h2⟩ := own_has3 (dv := dv) hf A q.2 q.1 H hl
  exact ⟨cl, A, rfl, q.1, hz, h1, h2⟩
theorem own_fldr {C n d : String} (ht : t.eval args s none [] s = some (.ref a)) (hu : (Term.field t C n d).eval args s none [] s = some v) : Fld s s.heap a C n d v := Fld.start (by rw [← fld_at ht]; exact hu)
end OwnS
end Jvm.Pilot.@@N@@
namespace Jvm.Pilot.@@N@@
open Jvm Jvm.ClassFile Sem Op Lib Jvm.Free Jvm.Stand Jvm.LawKit Jvm.RoadKit Bundle Jvm.Pilot.@@N@@.Jvm.D
/-- from here the run comes to a state of which G holds -/
def OWay (p : Program) (e : Env) (below : List Frame) (G : State → Prop) (T : State) (g : JFrame) : Prop := ∃ t, Steps p.tables e below (T.setTop g) t ∧ G t
/-- how a body ends: it returned, with what Q says of its value, the heap and the places written -/
def OEnd (s : State) (below : List Frame) (Q : Option Value → Heap → List Loc → Prop) (cs sl : Nat) (t : State) : Prop := ∃ o, t.status = .running ∧ Ended t below o ∧ ∃ v L, o = .returned v ∧ Q v t.heap L ∧ FrameEnd s o t L cs sl
/-- a body's contract, as a call wants it -/
def OCon (l : Launch) (y : MethodName) (bytes : ByteArray) (maxL : Nat) (rt : Option FieldType) (ws : List Jvm.Cond) (rm : Room) (Z : State) (as' : Array Value) (h : Heap) (Q : Option Value → Heap → List Loc → Prop) : Prop :=
  MetFree l y (head1 (Jvm.Cond.code y bytes maxL rt :: ws) rm) (fun a U => a = as' ∧ Z.Warmed39 U.vm ∧ U.heap = h) (fun _ _ _ _ _ => True) (fun _ U o U' => ∃ v L, o = .returned v ∧ Q v U'.heap L ∧ FrameEnd U o U' L rm.cells rm.slots)
section Own
variable {p : Program} {l : Launch} {e : Env} {R : Room} {s : State} {m : MethodId} {args : Array Value} {below : List Frame} {meth : Method} {c : Code} {T T' : State} {locs : List Loc} {cells slots : Nat} {Z : State} {a0 : Array Value} {h : Heap} {G : State → Prop} {g g' : JFrame} {Q : Option Value → Heap → List Loc → Prop} {cs sl : Nat}
theorem ogo (q : ∀ t, Steps p.tables e below (T'.setTop g') t → Steps p.tables e below (T.setTop g) t) (w : OWay p e below G T' g') : OWay p e below G T g := by
  obtain ⟨t, h1, h2⟩ := w
  exact ⟨t, q t h1, h2⟩
theorem ogoS (q : Steps p.tables e below (T.setTop g) (T'.setTop g')) (w : OWay p e below G T' g') : OWay p e below G T g := ogo (fun _ k => q.trans k) w
theorem ogoE (q : g = g') (w : OWay p e below G T g') : OWay p e below G T g := q ▸ w
theorem ocon {y : MethodName} {bytes : ByteArray} {maxL : Nat} {rt : Option FieldType} {ws : List Jvm.Cond} {rm : Room} {as' : Array Value} (hp : plainFor y = true)
    (body : ∀ (p : Program) (e : Env) (s : State) (m : MethodId) (below : List Frame) (meth : Method) (c : Code) (s₁ : State), p.tables.exec = Jvm.exec → c.code = bytes → c.maxLocals = maxL → s.vm.findClass y.cls = some m.cls → meth.name = y.name → meth.sig.returnType = rt → meth.locks = false → Z.Warmed39 s.vm →
      Stand p l e rm s m as' below meth c s₁ [] 0 0 → s₁.heap = h → OWay p e below (OEnd s below Q rm.cells rm.slots) s₁ (entryFrame m as' maxL)) : OCon l y bytes maxL rt ws rm Z as' h Q := by
  refine MetFree.of_bodySF hp hisR ?_
  intro p e s m args below meth c s₁ Bd hml0 hP hK
  obtain ⟨rfl, hZ, hh⟩ := hP
  obtain ⟨t, h1, o, h2, h3, h4⟩ := body p e s m below meth c s₁ Bd.exec Bd.bytes hml0 (findClass_of_methodNamed Bd.named) (name_of_methodNamed Bd.named Bd.method).1 Bd.returns Bd.notSynchronized hZ (Stand.of_body Bd) (by rw [← hh, Bd.state]; rfl)
  exact ⟨t, o, h1, h2, h3, h4⟩
theorem wRetN (X : Stand p l e R s m args below meth c T locs cells slots) (hx : p.tables.exec = Jvm.exec) {pc : Nat} {Ls : Array Slot} {z : Int32} {t : FieldType} {rest : List Value} (hret : meth.sig.returnType = some t) (hlk : meth.locks = false) (ht : t = .boolean ∨ t = .byte ∨ t = .char ∨ t = .short)
    (hd : decode c.code pc = .ok (.ireturn, 1)) (hc : cells ≤ cs) (hs : slots ≤ sl) (eT : T.heap = h) (hq : Q (some (.int (nar t z))) h locs) : OWay p e below (OEnd s below Q cs sl) T (mkF m pc Ls (.int z :: rest)) := by
  obtain ⟨fs, hr, hrun, hended, hW, hsame⟩ := X.leave (v := some (.int (nar t z))) (fun q => by rw [hret] at q; cases q) hlk
  exact ⟨_, retN X hx hret ht hd hr, _, hrun, hended, _, _, rfl, by subst eT; exact hq, ⟨_, rfl⟩, hW, hsame.mono hc hs⟩
theorem wRet (X : Stand p l e R s m args below meth c T locs cells slots) (hx : p.tables.exec = Jvm.exec) {pc : Nat} {Ls : Array Slot} {w : Value} {t : FieldType} {i : Instr} {rest : List Value} (hret : meth.sig.returnType = some t) (hlk : meth.locks = false) (hn : narrow t w = w)
    (hi : (i = .ireturn ∧ (t = .int ∨ t = .boolean ∨ t = .byte ∨ t = .char ∨ t = .short) ∧ ∃ z, w = .int z) ∨ (i = .lreturn ∧ t = .long ∧ ∃ z, w = .long z) ∨ (i = .dreturn ∧ t = .double ∧ ∃ z, w = .double z) ∨ (i = .freturn ∧ t = .float ∧ ∃ z, w = .float z) ∨ (i = .areturn ∧ t.isReference = true ∧ w.isRef = true))
    (hd : decode c.code pc = .ok (i, 1)) (hc : cells ≤ cs) (hs : slots ≤ sl) (eT : T.heap = h) (hq : Q (some w) h locs) : OWay p e below (OEnd s below Q cs sl) T (mkF m pc Ls (w :: rest)) := by
  obtain ⟨fs, hr, hrun, hended, hW, hsame⟩ := X.leave (v := some w) (fun q => by rw [hret] at q; cases q) hlk
  exact ⟨_, retOut X hx hret hn hi hd hr, _, hrun, hended, _, _, rfl, by subst eT; exact hq, ⟨_, rfl⟩, hW, hsame.mono hc hs⟩
theorem wRetV (X : Stand p l e R s m args below meth c T locs cells slots) (hx : p.tables.exec = Jvm.exec) {pc : Nat} {Ls : Array Slot} (hret : meth.sig.returnType = none) (hlk : meth.locks = false)
    (hd : decode c.code pc = .ok (.return_, 1)) (hc : cells ≤ cs) (hs : slots ≤ sl) (eT : T.heap = h) (hq : Q none h locs) : OWay p e below (OEnd s below Q cs sl) T (mkF m pc Ls []) := by
  obtain ⟨fs, hr, hrun, hended, hW, hsame⟩ := X.leave (v := none) (fun _ => rfl) hlk
  exact ⟨_, X.returnOut hx hret hd hr, _, hrun, hended, _, _, rfl, by subst eT; exact hq, ⟨_, rfl⟩, hW, hsame.mono hc hs⟩
theorem wStatic (X : Stand p l e R s m args below meth c T locs cells slots) (hx : p.tables.exec = Jvm.exec) (hZ : Z.Warmed39 s.vm) {own : String} {index : Nat} {y : MethodName} {bytes : ByteArray} {maxL : Nat} {rt : Option FieldType} {rm : Room} {as' : Array Value} (hown : s.vm.findClass own = some m.cls)
    (w1 : (Jvm.Cond.methodLink own index y).before a0 Z = true) (w2 : (Jvm.Cond.static y).before a0 Z = true) (w3 : (Jvm.Cond.initialized y.cls).before a0 Z = true) (w4 : (Jvm.Cond.code y bytes maxL rt).before a0 Z = true) (hy : y.cls ≠ "java/lang/invoke/MethodHandle" ∧ y.cls ≠ "java/lang/invoke/VarHandle")
    (hM : OCon l y bytes maxL rt [] rm Z as' h Q) (W : Nat) (hf : rm.frames + 1 ≤ R.frames) (hl : W + (maxL + 11) + rm.locals ≤ R.locals) {g : JFrame} (hg : g.method = m) (hsize : g.locals.size = c.maxLocals) {argsL rest : List Value} (hlen : ∀ sig, parseMethodDescriptor y.desc = some sig → argsL.length = sig.parameters.length)
    (hstack : g.stack = argsL.reverse ++ rest) (hW : 2 * g.monitorRoom + (rest.map fun v => v.category).sum ≤ W) (hd : decode c.code g.pc = .ok (.invokestatic index, 3)) (has : argsL.toArray = as') (eT : T.heap = h) (hc : cells + rm.cells ≤ R.cells) (hs : slots + rm.slots ≤ R.slots) :
    ∃ (v : Option Value) (T' : State) (L : List Loc), Stand p l e R s m args below meth c T' (locs ++ L) (cells + rm.cells) (slots + rm.slots) ∧ Q v T'.heap L ∧ ∀ target, Steps p.tables e below (T'.setTop { g with pc := g.pc + 3, stack := v.toList ++ rest }) target → Steps p.tables e below (T.setTop g) target := by
  obtain ⟨v, _, ⟨T1, L1, k1, n1⟩, -, X1, ⟨Lc, hQ, l1, y1, z1⟩, st⟩ := Jvm.LawKit.callS X hx (y := y) hown (mvT hZ w1) (mvT hZ w2) (mvT hZ w3) (mvT hZ w4) hy (backOf (W := W) hM hZ w4 w3 hf hl) (g := g) hg hsize (argsL := argsL) (rest := rest) hlen hstack hW hd (fun _ _ => ⟨has, eT, hc, hs⟩)
  dsimp only [Pt.U, Pt.locs, Pt.cells, Pt.slots] at X1 l1 y1 z1 st hQ
  subst l1 y1 z1
  exact ⟨v, T1, Lc, X1, hQ, st⟩
theorem wInit (X : Stand p l e R s m args below meth c T locs cells slots) (hx : p.tables.exec = Jvm.exec) (hZ : Z.Warmed39 s.vm) {own : String} {index : Nat} {y : MethodName} {bytes : ByteArray} {maxL : Nat} {rm : Room} {as' : Array Value} (hy1 : y.name = "<init>") (hown : s.vm.findClass own = some m.cls)
    (w1 : (Jvm.Cond.methodLink own index y).before a0 Z = true) (w2 : (Jvm.Cond.instanceMethod y).before a0 Z = true) (w3 : (Jvm.Cond.initialized y.cls).before a0 Z = true) (w4 : (Jvm.Cond.code y bytes maxL none).before a0 Z = true) (hy : y.cls ≠ "java/lang/invoke/MethodHandle" ∧ y.cls ≠ "java/lang/invoke/VarHandle")
    (hM : OCon l y bytes maxL none [] rm Z as' h Q) (W : Nat) (hf : rm.frames + 1 ≤ R.frames) (hl : W + (maxL + 11) + rm.locals ≤ R.locals) {g : JFrame} (hg : g.method = m) (hsize : g.locals.size = c.maxLocals) {a : Addr} {argsL rest : List Value} (hlen : ∀ sig, parseMethodDescriptor y.desc = some sig → argsL.length = sig.parameters.length)
    (hstack : g.stack = argsL.reverse ++ .ref a :: rest) (hW : 2 * g.monitorRoom + (rest.map fun v => v.category).sum ≤ W) (hd : decode c.code g.pc = .ok (.invokespecial index, 3)) (has : (.ref a :: argsL).toArray = as') (eT : T.heap = h) (hc : cells + rm.cells ≤ R.cells) (hs : slots + rm.slots ≤ R.slots) :
    ∃ (v : Option Value) (T' : State) (L : List Loc), Stand p l e R s m args below meth c T' (locs ++ L) (cells + rm.cells) (slots + rm.slots) ∧ Q v T'.heap L ∧ Steps p.tables e below (T.setTop g) (T'.setTop { g with pc := g.pc + 3, stack := v.toList ++ rest }) := by
  obtain ⟨v, _, ⟨T1, L1, k1, n1⟩, -, X1, ⟨Lc, hQ, l1, y1, z1⟩, st⟩ := X.specialBack hx (y := y) hy1 hown (mvT hZ w1) (mvT hZ w2) (mvT hZ w4) hy (backOf (W := W) hM hZ w4 w3 hf hl) (g := g) hg hsize (Steps.refl _) (a := a) (argsL := argsL) (rest := rest) hlen hstack hW hd (fun _ _ => ⟨has, eT, hc, hs⟩)
  dsimp only [Pt.U, Pt.locs, Pt.cells, Pt.slots] at X1 l1 y1 z1 st hQ
  subst l1 y1 z1
  exact ⟨v, T1, Lc, X1, hQ, st⟩
theorem wVirtual (X : Stand p l e R s m args below meth c T locs cells slots) (hx : p.tables.exec = Jvm.exec) (hZ : Z.Warmed39 s.vm) {own C : String} {index : Nat} {y z : MethodName} {bytes : ByteArray} {maxL : Nat} {rt : Option FieldType} {rm : Room} {as' : Array Value} (hown : s.vm.findClass own = some m.cls)
    (w1 : (Jvm.Cond.methodLink own index y).before a0 Z = true) (w2 : (Jvm.Cond.declares y).before a0 Z = true) (nf : NotFace s y) (w5 : (Jvm.Cond.selects C y z).before a0 Z = true) (w6 : (Jvm.Cond.instanceMethod z).before a0 Z = true) (w3 : (Jvm.Cond.initialized z.cls).before a0 Z = true) (w4 : (Jvm.Cond.code z bytes maxL rt).before a0 Z = true)
    (hy : y.cls ≠ "java/lang/invoke/MethodHandle" ∧ y.cls ≠ "java/lang/invoke/VarHandle") (hM : OCon l z bytes maxL rt [] rm Z as' h Q) (W : Nat) (hf : rm.frames + 1 ≤ R.frames) (hl : W + (maxL + 11) + rm.locals ≤ R.locals) {b : Addr} (E : Exa Z h b C) {g : JFrame} (hg : g.method = m) (hsize : g.locals.size = c.maxLocals) {argsL rest : List Value} (hlen : ∀ sig, parseMethodDescriptor y.desc = some sig → argsL.length = sig.parameters.length)
    (hstack : g.stack = argsL.reverse ++ .ref b :: rest) (hW : 2 * g.monitorRoom + (rest.map fun v => v.category).sum ≤ W) (hd : decode c.code g.pc = .ok (.invokevirtual index, 3)) (has : (.ref b :: argsL).toArray = as') (eT : T.heap = h) (hc : cells + rm.cells ≤ R.cells) (hs : slots + rm.slots ≤ R.slots) :
    ∃ (v : Option Value) (T' : State) (L : List Loc), Stand p l e R s m args below meth c T' (locs ++ L) (cells + rm.cells) (slots + rm.slots) ∧ Q v T'.heap L ∧ Steps p.tables e below (T.setTop g) (T'.setTop { g with pc := g.pc + 3, stack := v.toList ++ rest }) := by
  obtain ⟨cq, kq, qa, qb, qc⟩ := isOf hZ eT E
  obtain ⟨v, _, ⟨T1, L1, k1, n1⟩, -, X1, ⟨Lc, hQ, l1, y1, z1⟩, st⟩ := X.virtualBack hx (y := y) (z := z) hown (mvT hZ w1) (mvT hZ w2) nf (mvT hZ w5) (mvT hZ w6) hy (backOf (W := W) hM hZ w4 w3 hf hl) qa qc (g := g) hg hsize (Steps.refl _) (argsL := argsL) (rest := rest) hlen hstack hW hd (fun _ _ => ⟨has, eT, hc, hs⟩)
  dsimp only [Pt.U, Pt.locs, Pt.cells, Pt.slots] at X1 l1 y1 z1 st hQ
  subst l1 y1 z1
  exact ⟨v, T1, Lc, X1, hQ, st⟩
end Own
end Jvm.Pilot.@@N@@
namespace Jvm.Pilot.@@N@@
open Jvm Jvm.ClassFile Sem Op Lib Jvm.Free Jvm.Stand Jvm.LawKit Jvm.RoadKit Bundle Jvm.Pilot.@@N@@.Jvm.D
/-- the same end, where the walk may have interned -/
def OEndW (s : State) (below : List Frame) (Q : Option Value → Heap → List Loc → Prop) (cs sl : Nat) (t : State) : Prop := ∃ o, t.status = .running ∧ Ended t below o ∧ ∃ v L, o = .returned v ∧ Q v t.heap L ∧ ReturnedEndW s o t L cs sl
def OConW (l : Launch) (y : MethodName) (bytes : ByteArray) (maxL : Nat) (rt : Option FieldType) (ws : List Jvm.Cond) (rm : Room) (Z : State) (as' : Array Value) (h : Heap) (Q : Option Value → Heap → List Loc → Prop) : Prop :=
  MetFree l y (head1 (Jvm.Cond.code y bytes maxL rt :: ws) rm) (fun a U => a = as' ∧ U = Z ∧ U.heap = h) (fun _ _ _ _ _ => True) (fun _ U o U' => ∃ v L, o = .returned v ∧ Q v U'.heap L ∧ ReturnedEndW U o U' L rm.cells rm.slots)
section OwnW
variable {p : Program} {l : Launch} {e : Env} {R : Room} {s : State} {m : MethodId} {args : Array Value} {below : List Frame} {meth : Method} {c : Code} {T T' : State} {locs : List Loc} {cells slots : Nat} {Z : State} {a0 : Array Value} {h : Heap} {G : State → Prop} {g g' : JFrame} {Q : Option Value → Heap → List Loc → Prop} {cs sl : Nat}
theorem oconW {y : MethodName} {bytes : ByteArray} {maxL : Nat} {rt : Option FieldType} {ws : List Jvm.Cond} {rm : Room} {as' : Array Value} (hp : plainFor y = true)
    (body : ∀ (p : Program) (e : Env) (s : State) (m : MethodId) (below : List Frame) (meth : Method) (c : Code) (s₁ : State), p.tables.exec = Jvm.exec → c.code = bytes → c.maxLocals = maxL → s.vm.findClass y.cls = some m.cls → meth.name = y.name → meth.sig.returnType = rt → meth.locks = false → Z.Warmed39 s.vm →
      Stand p l e rm s m as' below meth c s₁ [] 0 0 → s₁.heap = h → s.heap = h → s = Z → OWay p e below (OEndW s below Q rm.cells rm.slots) s₁ (entryFrame m as' maxL)) : OConW l y bytes maxL rt ws rm Z as' h Q := by
  refine MetFree.of_bodySF hp hisR ?_
  intro p e s m args below meth c s₁ Bd hml0 hP hK
  obtain ⟨rfl, hU, hh⟩ := hP
  have hZ : Z.Warmed39 s.vm := by rw [hU]; exact State.Warmed39.refl Z
  obtain ⟨t, h1, o, h2, h3, h4⟩ := body p e s m below meth c s₁ Bd.exec Bd.bytes hml0 (findClass_of_methodNamed Bd.named) (name_of_methodNamed Bd.named Bd.method).1 Bd.returns Bd.notSynchronized hZ (Stand.of_body Bd) (by rw [← hh, Bd.state]; rfl) hh hU
  exact ⟨t, o, h1, h2, h3, h4⟩
theorem wRetNW {vm0 : Vm} {k0 : Nat} (X : Stand p l e R (s.setVm vm0) m args below meth c T locs cells slots) (hx : p.tables.exec = Jvm.exec) {pc : Nat} {Ls : Array Slot} {z : Int32} {t : FieldType} {rest : List Value} (hret : meth.sig.returnType = some t) (hlk : meth.locks = false) (ht : t = .boolean ∨ t = .byte ∨ t = .char ∨ t = .short)
    (hd : decode c.code pc = .ok (.ireturn, 1)) (hc : cells ≤ cs) (hs : slots ≤ sl) (hS : s.Since vm0 k0) (hk : k0 ≤ h.size) (eT : T.heap = h) (hq : Q (some (.int (nar t z))) h locs) : OWay p e below (OEndW s below Q cs sl) T (mkF m pc Ls (.int z :: rest)) := by
  obtain ⟨fs, hr, hrun, hended, hE⟩ := X.leaveW hS (by rw [eT]; exact hk) (v := some (.int (nar t z))) (fun q => by rw [hret] at q; cases q) hlk
  exact ⟨_, retN X hx hret ht hd hr, _, hrun, hended, _, _, rfl, by subst eT; exact hq, hE.1, hE.2.1, hE.2.2.1, hE.2.2.2.mono hc hs⟩
end OwnW
end Jvm.Pilot.@@N@@
namespace Jvm.Pilot.@@N@@
open Jvm Jvm.ClassFile Sem Op Lib Jvm.Free Jvm.Stand Jvm.LawKit Jvm.RoadKit Bundle Jvm.Pilot.@@N@@.Jvm.D
theorem pn_com_example_stockwire_stockwire_codec_PartOpensPinLaw : plainName "com/example/stockwire/stockwire/codec/PartOpensPinLaw" = true := by first | (simp [plainName, overriddenIn]; done) | decide +kernel
theorem d1_0 : decode method_2_code 0 = .ok (.iload_n 0, 1) := by decide +kernel
theorem d1_1 : decode method_2_code 1 = .ok (.ifCond .ne 7, 3) := by decide +kernel
theorem d1_4 : decode method_2_code 4 = .ok (.getstatic 7, 3) := by decide +kernel
theorem d1_7 : decode method_2_code 7 = .ok (.areturn, 1) := by decide +kernel
def pick0_rm : Room := { frames := 0, cells := 0, slots := 0, locals := 0 }
def pick0_Q (Z : State) (er : Addr) (h0 : Heap) (n0 : Nat) (v : Option Value) (h : Heap) (L : List Loc) : Prop := (v = some (.ref er)) ∧ (Fr n0 L) ∧ (h = h0)
theorem pick0_ef (m : MethodId)  : entryFrame m #[(.int (0 : Int32))] 1 = mkF m 0 #[.val (.int (0 : Int32))] [] := by first | (simp [entryFrame, mkF, argsToLocals, Value.category]; done) | rfl
set_option maxRecDepth 65536 in
set_option maxHeartbeats 40000000 in
theorem pick0_c (l : Launch) (Z : State) (az : Array Value) (hw : ∀ d ∈ tables_1, d.before az Z = true) (ws : List Jvm.Cond) (er : Addr) (h0 : Heap) (n0 : Nat) (Z0 : n0 ≤ h0.size) (hp0 : Sta Z Z.heap "com/example/stockwire/stockwire/codec/Envelope$Part" "MESSAGE_HEADER" "Lcom/example/stockwire/stockwire/codec/Envelope$Part;" (.ref er)) (hp1 : Old Z n0 h0) :
    OCon l (⟨"com/example/stockwire/stockwire/codec/PartOpensPinLaw", "pick", "(I)Lcom/example/stockwire/stockwire/codec/Envelope$Part;"⟩ : MethodName) method_2_code 1 (some (.object "com/example/stockwire/stockwire/codec/Envelope$Part")) ws pick0_rm Z #[(.int (0 : Int32))] h0 (pick0_Q Z er h0 n0) := by
  refine ocon (plainFor_of_name pn_com_example_stockwire_stockwire_codec_PartOpensPinLaw) ?_
  intro p e s m below meth c s₁ hx hby hml hown hnm hret hlk hZ X0 eh0
  have N0 := Fr.nil n0
  have K0 := Keep.refl h0 []
  refine ogoE (pick0_ef m ) ?_
  generalize hG : (OEnd s below (pick0_Q Z er h0 n0) pick0_rm.cells pick0_rm.slots) = G
  show OWay p e below G s₁ (mkF m 0 #[.val (.int (0 : Int32))] [])
  refine ogo (fun _ z_ => XS.iloadN X0.here hx rfl (hb hby d1_0) rfl z_) ?_
  show OWay p e below G s₁ (mkF m 1 #[.val (.int (0 : Int32))] [(.int (0 : Int32))])
  refine ogo (fun _ z_ => XS.ifNo X0.here hx rfl (hb hby d1_1) rfl ((if0 _ _).trans (teq rfl).2) z_) ?_
  show OWay p e below G s₁ (mkF m 4 #[.val (.int (0 : Int32))] [])
  obtain ⟨T1, X1, eT1, st1⟩ := getS2 X0 hx hZ hown (host := "") (Or.inl (hw _ (List.mem_of_getElem? (i := 5) rfl))) Via.refl eh0 (hp0.ext hp1.2) (g := (mkF m 4 #[.val (.int (0 : Int32))] [])) rfl (hb hby d1_4)
  refine ogo st1 ?_
  show OWay p e below G T1 (mkF m 7 #[.val (.int (0 : Int32))] [(.ref er)])
  subst hG
  refine wRet X1 hx hret hlk rfl (Or.inr (Or.inr (Or.inr (Or.inr ⟨rfl, rfl, rfl⟩)))) (hb hby d1_7) (by decide) (by decide) eT1 ?_
  exact ⟨rfl, N0, rfl⟩
theorem d1_8 : decode method_2_code 8 = .ok (.iload_n 0, 1) := by decide +kernel
theorem d1_9 : decode method_2_code 9 = .ok (.iconst 1, 1) := by decide +kernel
theorem d1_10 : decode method_2_code 10 = .ok (.if_icmp .ne 7, 3) := by decide +kernel
theorem d1_13 : decode method_2_code 13 = .ok (.getstatic 13, 3) := by decide +kernel
theorem d1_16 : decode method_2_code 16 = .ok (.areturn, 1) := by decide +kernel
def pick1_rm : Room := { frames := 0, cells := 0, slots := 0, locals := 0 }
def pick1_Q (Z : State) (er : Addr) (h0 : Heap) (n0 : Nat) (v : Option Value) (h : Heap) (L : List Loc) : Prop := (v = some (.ref er)) ∧ (Fr n0 L) ∧ (h = h0)
theorem pick1_ef (m : MethodId)  : entryFrame m #[(.int (1 : Int32))] 1 = mkF m 0 #[.val (.int (1 : Int32))] [] := by first | (simp [entryFrame, mkF, argsToLocals, Value.category]; done) | rfl
set_option maxRecDepth 65536 in
set_option maxHeartbeats 40000000 in
theorem pick1_c (l : Launch) (Z : State) (az : Array Value) (hw : ∀ d ∈ tables_1, d.before az Z = true) (ws : List Jvm.Cond) (er : Addr) (h0 : Heap) (n0 : Nat) (Z0 : n0 ≤ h0.size) (hp0 : Sta Z Z.heap "com/example/stockwire/stockwire/codec/Envelope$Part" "FILE_HEADER" "Lcom/example/stockwire/stockwire/codec/Envelope$Part;" (.ref er)) (hp1 : Old Z n0 h0) :
    OCon l (⟨"com/example/stockwire/stockwire/codec/PartOpensPinLaw", "pick", "(I)Lcom/example/stockwire/stockwire/codec/Envelope$Part;"⟩ : MethodName) method_2_code 1 (some (.object "com/example/stockwire/stockwire/codec/Envelope$Part")) ws pick1_rm Z #[(.int (1 : Int32))] h0 (pick1_Q Z er h0 n0) := by
  refine ocon (plainFor_of_name pn_com_example_stockwire_stockwire_codec_PartOpensPinLaw) ?_
  intro p e s m below meth c s₁ hx hby hml hown hnm hret hlk hZ X0 eh0
  have N0 := Fr.nil n0
  have K0 := Keep.refl h0 []
  refine ogoE (pick1_ef m ) ?_
  generalize hG : (OEnd s below (pick1_Q Z er h0 n0) pick1_rm.cells pick1_rm.slots) = G
  show OWay p e below G s₁ (mkF m 0 #[.val (.int (1 : Int32))] [])
  refine ogo (fun _ z_ => XS.iloadN X0.here hx rfl (hb hby d1_0) rfl z_) ?_
  show OWay p e below G s₁ (mkF m 1 #[.val (.int (1 : Int32))] [(.int (1 : Int32))])
  refine ogo (fun _ z_ => XS.ifYes X0.here hx rfl (pc0 := 1) (pc' := 8) rfl (hb hby d1_1) rfl ((if0 _ _).trans (feq (by decide)).2) (by decide) (by decide) z_) ?_
  show OWay p e below G s₁ (mkF m 8 #[.val (.int (1 : Int32))] [])
  refine ogo (fun _ z_ => XS.iloadN X0.here hx rfl (hb hby d1_8) rfl z_) ?_
  show OWay p e below G s₁ (mkF m 9 #[.val (.int (1 : Int32))] [(.int (1 : Int32))])
  refine ogo (fun _ z_ => XS.iconst X0.here hx rfl (hb hby d1_9) z_) ?_
  show OWay p e below G s₁ (mkF m 10 #[.val (.int (1 : Int32))] [(.int (1 : Int32)), (.int (1 : Int32))])
  refine ogo (fun _ z_ => XS.icmpNo X0.here hx rfl (hb hby d1_10) rfl (teq rfl).2 z_) ?_
  show OWay p e below G s₁ (mkF m 13 #[.val (.int (1 : Int32))] [])
  obtain ⟨T1, X1, eT1, st1⟩ := getS2 X0 hx hZ hown (host := "") (Or.inl (hw _ (List.mem_of_getElem? (i := 52) rfl))) Via.refl eh0 (hp0.ext hp1.2) (g := (mkF m 13 #[.val (.int (1 : Int32))] [])) rfl (hb hby d1_13)
  refine ogo st1 ?_
  show OWay p e below G T1 (mkF m 16 #[.val (.int (1 : Int32))] [(.ref er)])
  subst hG
  refine wRet X1 hx hret hlk rfl (Or.inr (Or.inr (Or.inr (Or.inr ⟨rfl, rfl, rfl⟩)))) (hb hby d1_16) (by decide) (by decide) eT1 ?_
  exact ⟨rfl, N0, rfl⟩
theorem d1_17 : decode method_2_code 17 = .ok (.iload_n 0, 1) := by decide +kernel
theorem d1_18 : decode method_2_code 18 = .ok (.iconst 2, 1) := by decide +kernel
theorem d1_19 : decode method_2_code 19 = .ok (.if_icmp .ne 7, 3) := by decide +kernel
theorem d1_22 : decode method_2_code 22 = .ok (.getstatic 16, 3) := by decide +kernel
theorem d1_25 : decode method_2_code 25 = .ok (.areturn, 1) := by decide +kernel
def pick2_rm : Room := { frames := 0, cells := 0, slots := 0, locals := 0 }
def pick2_Q (Z : State) (er : Addr) (h0 : Heap) (n0 : Nat) (v : Option Value) (h : Heap) (L : List Loc) : Prop := (v = some (.ref er)) ∧ (Fr n0 L) ∧ (h = h0)
theorem pick2_ef (m : MethodId)  : entryFrame m #[(.int (2 : Int32))] 1 = mkF m 0 #[.val (.int (2 : Int32))] [] := by first | (simp [entryFrame, mkF, argsToLocals, Value.category]; done) | rfl
set_option maxRecDepth 65536 in
set_option maxHeartbeats 40000000 in
theorem pick2_c (l : Launch) (Z : State) (az : Array Value) (hw : ∀ d ∈ tables_1, d.before az Z = true) (ws : List Jvm.Cond) (er : Addr) (h0 : Heap) (n0 : Nat) (Z0 : n0 ≤ h0.size) (hp0 : Sta Z Z.heap "com/example/stockwire/stockwire/codec/Envelope$Part" "BATCH_HEADER" "Lcom/example/stockwire/stockwire/codec/Envelope$Part;" (.ref er)) (hp1 : Old Z n0 h0) :
    OCon l (⟨"com/example/stockwire/stockwire/codec/PartOpensPinLaw", "pick", "(I)Lcom/example/stockwire/stockwire/codec/Envelope$Part;"⟩ : MethodName) method_2_code 1 (some (.object "com/example/stockwire/stockwire/codec/Envelope$Part")) ws pick2_rm Z #[(.int (2 : Int32))] h0 (pick2_Q Z er h0 n0) := by
  refine ocon (plainFor_of_name pn_com_example_stockwire_stockwire_codec_PartOpensPinLaw) ?_
  intro p e s m below meth c s₁ hx hby hml hown hnm hret hlk hZ X0 eh0
  have N0 := Fr.nil n0
  have K0 := Keep.refl h0 []
  refine ogoE (pick2_ef m ) ?_
  generalize hG : (OEnd s below (pick2_Q Z er h0 n0) pick2_rm.cells pick2_rm.slots) = G
  show OWay p e below G s₁ (mkF m 0 #[.val (.int (2 : Int32))] [])
  refine ogo (fun _ z_ => XS.iloadN X0.here hx rfl (hb hby d1_0) rfl z_) ?_
  show OWay p e below G s₁ (mkF m 1 #[.val (.int (2 : Int32))] [(.int (2 : Int32))])
  refine ogo (fun _ z_ => XS.ifYes X0.here hx rfl (pc0 := 1) (pc' := 8) rfl (hb hby d1_1) rfl ((if0 _ _).trans (feq (by decide)).2) (by decide) (by decide) z_) ?_
  show OWay p e below G s₁ (mkF m 8 #[.val (.int (2 : Int32))] [])
  refine ogo (fun _ z_ => XS.iloadN X0.here hx rfl (hb hby d1_8) rfl z_) ?_
  show OWay p e below G s₁ (mkF m 9 #[.val (.int (2 : Int32))] [(.int (2 : Int32))])
  refine ogo (fun _ z_ => XS.iconst X0.here hx rfl (hb hby d1_9) z_) ?_
  show OWay p e below G s₁ (mkF m 10 #[.val (.int (2 : Int32))] [(.int (1 : Int32)), (.int (2 : Int32))])
  refine ogo (fun _ z_ => XS.icmpYes X0.here hx rfl (pc0 := 10) (pc' := 17) rfl (hb hby d1_10) rfl (feq (by decide)).2 (by decide) (by decide) z_) ?_
  show OWay p e below G s₁ (mkF m 17 #[.val (.int (2 : Int32))] [])
  refine ogo (fun _ z_ => XS.iloadN X0.here hx rfl (hb hby d1_17) rfl z_) ?_
  show OWay p e below G s₁ (mkF m 18 #[.val (.int (2 : Int32))] [(.int (2 : Int32))])
  refine ogo (fun _ z_ => XS.iconst X0.here hx rfl (hb hby d1_18) z_) ?_
  show OWay p e below G s₁ (mkF m 19 #[.val (.int (2 : Int32))] [(.int (2 : Int32)), (.int (2 : Int32))])
  refine ogo (fun _ z_ => XS.icmpNo X0.here hx rfl (hb hby d1_19) rfl (teq rfl).2 z_) ?_
  show OWay p e below G s₁ (mkF m 22 #[.val (.int (2 : Int32))] [])
  obtain ⟨T1, X1, eT1, st1⟩ := getS2 X0 hx hZ hown (host := "") (Or.inl (hw _ (List.mem_of_getElem? (i := 51) rfl))) Via.refl eh0 (hp0.ext hp1.2) (g := (mkF m 22 #[.val (.int (2 : Int32))] [])) rfl (hb hby d1_22)
  refine ogo st1 ?_
  show OWay p e below G T1 (mkF m 25 #[.val (.int (2 : Int32))] [(.ref er)])
  subst hG
  refine wRet X1 hx hret hlk rfl (Or.inr (Or.inr (Or.inr (Or.inr ⟨rfl, rfl, rfl⟩)))) (hb hby d1_25) (by decide) (by decide) eT1 ?_
  exact ⟨rfl, N0, rfl⟩
theorem d1_26 : decode method_2_code 26 = .ok (.iload_n 0, 1) := by decide +kernel
theorem d1_27 : decode method_2_code 27 = .ok (.iconst 3, 1) := by decide +kernel
theorem d1_28 : decode method_2_code 28 = .ok (.if_icmp .ne 7, 3) := by decide +kernel
theorem d1_31 : decode method_2_code 31 = .ok (.getstatic 19, 3) := by decide +kernel
theorem d1_34 : decode method_2_code 34 = .ok (.areturn, 1) := by decide +kernel
def pick3_rm : Room := { frames := 0, cells := 0, slots := 0, locals := 0 }
def pick3_Q (Z : State) (er : Addr) (h0 : Heap) (n0 : Nat) (v : Option Value) (h : Heap) (L : List Loc) : Prop := (v = some (.ref er)) ∧ (Fr n0 L) ∧ (h = h0)
theorem pick3_ef (m : MethodId)  : entryFrame m #[(.int (3 : Int32))] 1 = mkF m 0 #[.val (.int (3 : Int32))] [] := by first | (simp [entryFrame, mkF, argsToLocals, Value.category]; done) | rfl
set_option maxRecDepth 65536 in
set_option maxHeartbeats 40000000 in
theorem pick3_c (l : Launch) (Z : State) (az : Array Value) (hw : ∀ d ∈ tables_1, d.before az Z = true) (ws : List Jvm.Cond) (er : Addr) (h0 : Heap) (n0 : Nat) (Z0 : n0 ≤ h0.size) (hp0 : Sta Z Z.heap "com/example/stockwire/stockwire/codec/Envelope$Part" "BATCH_TRAILER" "Lcom/example/stockwire/stockwire/codec/Envelope$Part;" (.ref er)) (hp1 : Old Z n0 h0) :
    OCon l (⟨"com/example/stockwire/stockwire/codec/PartOpensPinLaw", "pick", "(I)Lcom/example/stockwire/stockwire/codec/Envelope$Part;"⟩ : MethodName) method_2_code 1 (some (.object "com/example/stockwire/stockwire/codec/Envelope$Part")) ws pick3_rm Z #[(.int (3 : Int32))] h0 (pick3_Q Z er h0 n0) := by
  refine ocon (plainFor_of_name pn_com_example_stockwire_stockwire_codec_PartOpensPinLaw) ?_
  intro p e s m below meth c s₁ hx hby hml hown hnm hret hlk hZ X0 eh0
  have N0 := Fr.nil n0
  have K0 := Keep.refl h0 []
  refine ogoE (pick3_ef m ) ?_
  generalize hG : (OEnd s below (pick3_Q Z er h0 n0) pick3_rm.cells pick3_rm.slots) = G
  show OWay p e below G s₁ (mkF m 0 #[.val (.int (3 : Int32))] [])
  refine ogo (fun _ z_ => XS.iloadN X0.here hx rfl (hb hby d1_0) rfl z_) ?_
  show OWay p e below G s₁ (mkF m 1 #[.val (.int (3 : Int32))] [(.int (3 : Int32))])
  refine ogo (fun _ z_ => XS.ifYes X0.here hx rfl (pc0 := 1) (pc' := 8) rfl (hb hby d1_1) rfl ((if0 _ _).trans (feq (by decide)).2) (by decide) (by decide) z_) ?_
  show OWay p e below G s₁ (mkF m 8 #[.val (.int (3 : Int32))] [])
  refine ogo (fun _ z_ => XS.iloadN X0.here hx rfl (hb hby d1_8) rfl z_) ?_
  show OWay p e below G s₁ (mkF m 9 #[.val (.int (3 : Int32))] [(.int (3 : Int32))])
  refine ogo (fun _ z_ => XS.iconst X0.here hx rfl (hb hby d1_9) z_) ?_
  show OWay p e below G s₁ (mkF m 10 #[.val (.int (3 : Int32))] [(.int (1 : Int32)), (.int (3 : Int32))])
  refine ogo (fun _ z_ => XS.icmpYes X0.here hx rfl (pc0 := 10) (pc' := 17) rfl (hb hby d1_10) rfl (feq (by decide)).2 (by decide) (by decide) z_) ?_
  show OWay p e below G s₁ (mkF m 17 #[.val (.int (3 : Int32))] [])
  refine ogo (fun _ z_ => XS.iloadN X0.here hx rfl (hb hby d1_17) rfl z_) ?_
  show OWay p e below G s₁ (mkF m 18 #[.val (.int (3 : Int32))] [(.int (3 : Int32))])
  refine ogo (fun _ z_ => XS.iconst X0.here hx rfl (hb hby d1_18) z_) ?_
  show OWay p e below G s₁ (mkF m 19 #[.val (.int (3 : Int32))] [(.int (2 : Int32)), (.int (3 : Int32))])
  refine ogo (fun _ z_ => XS.icmpYes X0.here hx rfl (pc0 := 19) (pc' := 26) rfl (hb hby d1_19) rfl (feq (by decide)).2 (by decide) (by decide) z_) ?_
  show OWay p e below G s₁ (mkF m 26 #[.val (.int (3 : Int32))] [])
  refine ogo (fun _ z_ => XS.iloadN X0.here hx rfl (hb hby d1_26) rfl z_) ?_
  show OWay p e below G s₁ (mkF m 27 #[.val (.int (3 : Int32))] [(.int (3 : Int32))])
  refine ogo (fun _ z_ => XS.iconst X0.here hx rfl (hb hby d1_27) z_) ?_
  show OWay p e below G s₁ (mkF m 28 #[.val (.int (3 : Int32))] [(.int (3 : Int32)), (.int (3 : Int32))])
  refine ogo (fun _ z_ => XS.icmpNo X0.here hx rfl (hb hby d1_28) rfl (teq rfl).2 z_) ?_
  show OWay p e below G s₁ (mkF m 31 #[.val (.int (3 : Int32))] [])
  obtain ⟨T1, X1, eT1, st1⟩ := getS2 X0 hx hZ hown (host := "") (Or.inl (hw _ (List.mem_of_getElem? (i := 43) rfl))) Via.refl eh0 (hp0.ext hp1.2) (g := (mkF m 31 #[.val (.int (3 : Int32))] [])) rfl (hb hby d1_31)
  refine ogo st1 ?_
  show OWay p e below G T1 (mkF m 34 #[.val (.int (3 : Int32))] [(.ref er)])
  subst hG
  refine wRet X1 hx hret hlk rfl (Or.inr (Or.inr (Or.inr (Or.inr ⟨rfl, rfl, rfl⟩)))) (hb hby d1_34) (by decide) (by decide) eT1 ?_
  exact ⟨rfl, N0, rfl⟩
theorem d1_35 : decode method_2_code 35 = .ok (.iload_n 0, 1) := by decide +kernel
theorem d1_36 : decode method_2_code 36 = .ok (.iconst 4, 1) := by decide +kernel
theorem d1_37 : decode method_2_code 37 = .ok (.if_icmp .ne 7, 3) := by decide +kernel
theorem d1_40 : decode method_2_code 40 = .ok (.getstatic 22, 3) := by decide +kernel
theorem d1_43 : decode method_2_code 43 = .ok (.areturn, 1) := by decide +kernel
def pick4_rm : Room := { frames := 0, cells := 0, slots := 0, locals := 0 }
def pick4_Q (Z : State) (er : Addr) (h0 : Heap) (n0 : Nat) (v : Option Value) (h : Heap) (L : List Loc) : Prop := (v = some (.ref er)) ∧ (Fr n0 L) ∧ (h = h0)
theorem pick4_ef (m : MethodId)  : entryFrame m #[(.int (4 : Int32))] 1 = mkF m 0 #[.val (.int (4 : Int32))] [] := by first | (simp [entryFrame, mkF, argsToLocals, Value.category]; done) | rfl
set_option maxRecDepth 65536 in
set_option maxHeartbeats 40000000 in
theorem pick4_c (l : Launch) (Z : State) (az : Array Value) (hw : ∀ d ∈ tables_1, d.before az Z = true) (ws : List Jvm.Cond) (er : Addr) (h0 : Heap) (n0 : Nat) (Z0 : n0 ≤ h0.size) (hp0 : Sta Z Z.heap "com/example/stockwire/stockwire/codec/Envelope$Part" "FILE_TRAILER" "Lcom/example/stockwire/stockwire/codec/Envelope$Part;" (.ref er)) (hp1 : Old Z n0 h0) :
    OCon l (⟨"com/example/stockwire/stockwire/codec/PartOpensPinLaw", "pick", "(I)Lcom/example/stockwire/stockwire/codec/Envelope$Part;"⟩ : MethodName) method_2_code 1 (some (.object "com/example/stockwire/stockwire/codec/Envelope$Part")) ws pick4_rm Z #[(.int (4 : Int32))] h0 (pick4_Q Z er h0 n0) := by
  refine ocon (plainFor_of_name pn_com_example_stockwire_stockwire_codec_PartOpensPinLaw) ?_
  intro p e s m below meth c s₁ hx hby hml hown hnm hret hlk hZ X0 eh0
  have N0 := Fr.nil n0
  have K0 := Keep.refl h0 []
  refine ogoE (pick4_ef m ) ?_
  generalize hG : (OEnd s below (pick4_Q Z er h0 n0) pick4_rm.cells pick4_rm.slots) = G
  show OWay p e below G s₁ (mkF m 0 #[.val (.int (4 : Int32))] [])
  refine ogo (fun _ z_ => XS.iloadN X0.here hx rfl (hb hby d1_0) rfl z_) ?_
  show OWay p e below G s₁ (mkF m 1 #[.val (.int (4 : Int32))] [(.int (4 : Int32))])
  refine ogo (fun _ z_ => XS.ifYes X0.here hx rfl (pc0 := 1) (pc' := 8) rfl (hb hby d1_1) rfl ((if0 _ _).trans (feq (by decide)).2) (by decide) (by decide) z_) ?_
  show OWay p e below G s₁ (mkF m 8 #[.val (.int (4 : Int32))] [])
  refine ogo (fun _ z_ => XS.iloadN X0.here hx rfl (hb hby d1_8) rfl z_) ?_
  show OWay p e below G s₁ (mkF m 9 #[.val (.int (4 : Int32))] [(.int (4 : Int32))])
  refine ogo (fun _ z_ => XS.iconst X0.here hx rfl (hb hby d1_9) z_) ?_
  show OWay p e below G s₁ (mkF m 10 #[.val (.int (4 : Int32))] [(.int (1 : Int32)), (.int (4 : Int32))])
  refine ogo (fun _ z_ => XS.icmpYes X0.here hx rfl (pc0 := 10) (pc' := 17) rfl (hb hby d1_10) rfl (feq (by decide)).2 (by decide) (by decide) z_) ?_
  show OWay p e below G s₁ (mkF m 17 #[.val (.int (4 : Int32))] [])
  refine ogo (fun _ z_ => XS.iloadN X0.here hx rfl (hb hby d1_17) rfl z_) ?_
  show OWay p e below G s₁ (mkF m 18 #[.val (.int (4 : Int32))] [(.int (4 : Int32))])
  refine ogo (fun _ z_ => XS.iconst X0.here hx rfl (hb hby d1_18) z_) ?_
  show OWay p e below G s₁ (mkF m 19 #[.val (.int (4 : Int32))] [(.int (2 : Int32)), (.int (4 : Int32))])
  refine ogo (fun _ z_ => XS.icmpYes X0.here hx rfl (pc0 := 19) (pc' := 26) rfl (hb hby d1_19) rfl (feq (by decide)).2 (by decide) (by decide) z_) ?_
  show OWay p e below G s₁ (mkF m 26 #[.val (.int (4 : Int32))] [])
  refine ogo (fun _ z_ => XS.iloadN X0.here hx rfl (hb hby d1_26) rfl z_) ?_
  show OWay p e below G s₁ (mkF m 27 #[.val (.int (4 : Int32))] [(.int (4 : Int32))])
  refine ogo (fun _ z_ => XS.iconst X0.here hx rfl (hb hby d1_27) z_) ?_
  show OWay p e below G s₁ (mkF m 28 #[.val (.int (4 : Int32))] [(.int (3 : Int32)), (.int (4 : Int32))])
  refine ogo (fun _ z_ => XS.icmpYes X0.here hx rfl (pc0 := 28) (pc' := 35) rfl (hb hby d1_28) rfl (feq (by decide)).2 (by decide) (by decide) z_) ?_
  show OWay p e below G s₁ (mkF m 35 #[.val (.int (4 : Int32))] [])
  refine ogo (fun _ z_ => XS.iloadN X0.here hx rfl (hb hby d1_35) rfl z_) ?_
  show OWay p e below G s₁ (mkF m 36 #[.val (.int (4 : Int32))] [(.int (4 : Int32))])
  refine ogo (fun _ z_ => XS.iconst X0.here hx rfl (hb hby d1_36) z_) ?_
  show OWay p e below G s₁ (mkF m 37 #[.val (.int (4 : Int32))] [(.int (4 : Int32)), (.int (4 : Int32))])
  refine ogo (fun _ z_ => XS.icmpNo X0.here hx rfl (hb hby d1_37) rfl (teq rfl).2 z_) ?_
  show OWay p e below G s₁ (mkF m 40 #[.val (.int (4 : Int32))] [])
  obtain ⟨T1, X1, eT1, st1⟩ := getS2 X0 hx hZ hown (host := "") (Or.inl (hw _ (List.mem_of_getElem? (i := 55) rfl))) Via.refl eh0 (hp0.ext hp1.2) (g := (mkF m 40 #[.val (.int (4 : Int32))] [])) rfl (hb hby d1_40)
  refine ogo st1 ?_
  show OWay p e below G T1 (mkF m 43 #[.val (.int (4 : Int32))] [(.ref er)])
  subst hG
  refine wRet X1 hx hret hlk rfl (Or.inr (Or.inr (Or.inr (Or.inr ⟨rfl, rfl, rfl⟩)))) (hb hby d1_43) (by decide) (by decide) eT1 ?_
  exact ⟨rfl, N0, rfl⟩
theorem d1_44 : decode method_2_code 44 = .ok (.getstatic 25, 3) := by decide +kernel
theorem d1_47 : decode method_2_code 47 = .ok (.areturn, 1) := by decide +kernel
def pick5_rm : Room := { frames := 0, cells := 0, slots := 0, locals := 0 }
def pick5_Q (Z : State) (er : Addr) (h0 : Heap) (n0 : Nat) (v : Option Value) (h : Heap) (L : List Loc) : Prop := (v = some (.ref er)) ∧ (Fr n0 L) ∧ (h = h0)
theorem pick5_ef (m : MethodId)  : entryFrame m #[(.int (5 : Int32))] 1 = mkF m 0 #[.val (.int (5 : Int32))] [] := by first | (simp [entryFrame, mkF, argsToLocals, Value.category]; done) | rfl
set_option maxRecDepth 65536 in
set_option maxHeartbeats 40000000 in
theorem pick5_c (l : Launch) (Z : State) (az : Array Value) (hw : ∀ d ∈ tables_1, d.before az Z = true) (ws : List Jvm.Cond) (er : Addr) (h0 : Heap) (n0 : Nat) (Z0 : n0 ≤ h0.size) (hp0 : Sta Z Z.heap "com/example/stockwire/stockwire/codec/Envelope$Part" "SEGMENT" "Lcom/example/stockwire/stockwire/codec/Envelope$Part;" (.ref er)) (hp1 : Old Z n0 h0) :
    OCon l (⟨"com/example/stockwire/stockwire/codec/PartOpensPinLaw", "pick", "(I)Lcom/example/stockwire/stockwire/codec/Envelope$Part;"⟩ : MethodName) method_2_code 1 (some (.object "com/example/stockwire/stockwire/codec/Envelope$Part")) ws pick5_rm Z #[(.int (5 : Int32))] h0 (pick5_Q Z er h0 n0) := by
  refine ocon (plainFor_of_name pn_com_example_stockwire_stockwire_codec_PartOpensPinLaw) ?_
  intro p e s m below meth c s₁ hx hby hml hown hnm hret hlk hZ X0 eh0
  have N0 := Fr.nil n0
  have K0 := Keep.refl h0 []
  refine ogoE (pick5_ef m ) ?_
  generalize hG : (OEnd s below (pick5_Q Z er h0 n0) pick5_rm.cells pick5_rm.slots) = G
  show OWay p e below G s₁ (mkF m 0 #[.val (.int (5 : Int32))] [])
  refine ogo (fun _ z_ => XS.iloadN X0.here hx rfl (hb hby d1_0) rfl z_) ?_
  show OWay p e below G s₁ (mkF m 1 #[.val (.int (5 : Int32))] [(.int (5 : Int32))])
  refine ogo (fun _ z_ => XS.ifYes X0.here hx rfl (pc0 := 1) (pc' := 8) rfl (hb hby d1_1) rfl ((if0 _ _).trans (feq (by decide)).2) (by decide) (by decide) z_) ?_
  show OWay p e below G s₁ (mkF m 8 #[.val (.int (5 : Int32))] [])
  refine ogo (fun _ z_ => XS.iloadN X0.here hx rfl (hb hby d1_8) rfl z_) ?_
  show OWay p e below G s₁ (mkF m 9 #[.val (.int (5 : Int32))] [(.int (5 : Int32))])
  refine ogo (fun _ z_ => XS.iconst X0.here hx rfl (hb hby d1_9) z_) ?_
  show OWay p e below G s₁ (mkF m 10 #[.val (.int (5 : Int32))] [(.int (1 : Int32)), (.int (5 : Int32))])
  refine ogo (fun _ z_ => XS.icmpYes X0.here hx rfl (pc0 := 10) (pc' := 17) rfl (hb hby d1_10) rfl (feq (by decide)).2 (by decide) (by decide) z_) ?_
  show OWay p e below G s₁ (mkF m 17 #[.val (.int (5 : Int32))] [])
  refine ogo (fun _ z_ => XS.iloadN X0.here hx rfl (hb hby d1_17) rfl z_) ?_
  show OWay p e below G s₁ (mkF m 18 #[.val (.int (5 : Int32))] [(.int (5 : Int32))])
  refine ogo (fun _ z_ => XS.iconst X0.here hx rfl (hb hby d1_18) z_) ?_
  show OWay p e below G s₁ (mkF m 19 #[.val (.int (5 : Int32))] [(.int (2 : Int32)), (.int (5 : Int32))])
  refine ogo (fun _ z_ => XS.icmpYes X0.here hx rfl (pc0 := 19) (pc' := 26) rfl (hb hby d1_19) rfl (feq (by decide)).2 (by decide) (by decide) z_) ?_
  show OWay p e below G s₁ (mkF m 26 #[.val (.int (5 : Int32))] [])
  refine ogo (fun _ z_ => XS.iloadN X0.here hx rfl (hb hby d1_26) rfl z_) ?_
  show OWay p e below G s₁ (mkF m 27 #[.val (.int (5 : Int32))] [(.int (5 : Int32))])
  refine ogo (fun _ z_ => XS.iconst X0.here hx rfl (hb hby d1_27) z_) ?_
  show OWay p e below G s₁ (mkF m 28 #[.val (.int (5 : Int32))] [(.int (3 : Int32)), (.int (5 : Int32))])
  refine ogo (fun _ z_ => XS.icmpYes X0.here hx rfl (pc0 := 28) (pc' := 35) rfl (hb hby d1_28) rfl (feq (by decide)).2 (by decide) (by decide) z_) ?_
  show OWay p e below G s₁ (mkF m 35 #[.val (.int (5 : Int32))] [])
  refine ogo (fun _ z_ => XS.iloadN X0.here hx rfl (hb hby d1_35) rfl z_) ?_
  show OWay p e below G s₁ (mkF m 36 #[.val (.int (5 : Int32))] [(.int (5 : Int32))])
  refine ogo (fun _ z_ => XS.iconst X0.here hx rfl (hb hby d1_36) z_) ?_
  show OWay p e below G s₁ (mkF m 37 #[.val (.int (5 : Int32))] [(.int (4 : Int32)), (.int (5 : Int32))])
  refine ogo (fun _ z_ => XS.icmpYes X0.here hx rfl (pc0 := 37) (pc' := 44) rfl (hb hby d1_37) rfl (feq (by decide)).2 (by decide) (by decide) z_) ?_
  show OWay p e below G s₁ (mkF m 44 #[.val (.int (5 : Int32))] [])
  obtain ⟨T1, X1, eT1, st1⟩ := getS2 X0 hx hZ hown (host := "") (Or.inl (hw _ (List.mem_of_getElem? (i := 53) rfl))) Via.refl eh0 (hp0.ext hp1.2) (g := (mkF m 44 #[.val (.int (5 : Int32))] [])) rfl (hb hby d1_44)
  refine ogo st1 ?_
  show OWay p e below G T1 (mkF m 47 #[.val (.int (5 : Int32))] [(.ref er)])
  subst hG
  refine wRet X1 hx hret hlk rfl (Or.inr (Or.inr (Or.inr (Or.inr ⟨rfl, rfl, rfl⟩)))) (hb hby d1_47) (by decide) (by decide) eT1 ?_
  exact ⟨rfl, N0, rfl⟩
theorem pn_com_example_stockwire_stockwire_codec_Envelope_Part : plainName "com/example/stockwire/stockwire/codec/Envelope$Part" = true := by first | (simp [plainName, overriddenIn]; done) | decide +kernel
theorem d2_0 : decode prog_22_method_6_code 0 = .ok (.aload_n 0, 1) := by decide +kernel
theorem d2_1 : decode prog_22_method_6_code 1 = .ok (.getstatic 3, 3) := by decide +kernel
theorem d2_4 : decode prog_22_method_6_code 4 = .ok (.if_acmp .eq 17, 3) := by decide +kernel
theorem d2_21 : decode prog_22_method_6_code 21 = .ok (.iconst 1, 1) := by decide +kernel
theorem d2_22 : decode prog_22_method_6_code 22 = .ok (.goto 4, 3) := by decide +kernel
theorem d2_26 : decode prog_22_method_6_code 26 = .ok (.ireturn, 1) := by decide +kernel
def opens0_rm : Room := { frames := 0, cells := 0, slots := 0, locals := 0 }
def opens0_Q (Z : State) (f0 : Addr) (h0 : Heap) (n0 : Nat) (v : Option Value) (h : Heap) (L : List Loc) : Prop := (v = some (.int (1 : Int32))) ∧ (Fr n0 L) ∧ (h = h0)
theorem opens0_ef (m : MethodId) (f0 : Addr) : entryFrame m #[(.ref f0)] 1 = mkF m 0 #[.val (.ref f0)] [] := by first | (simp [entryFrame, mkF, argsToLocals, Value.category]; done) | rfl
set_option maxRecDepth 65536 in
set_option maxHeartbeats 40000000 in
theorem opens0_c (l : Launch) (Z : State) (az : Array Value) (hw : ∀ d ∈ tables_1, d.before az Z = true) (ws : List Jvm.Cond) (f0 : Addr) (h0 : Heap) (n0 : Nat) (Z0 : n0 ≤ h0.size) (hp0 : Sta Z Z.heap "com/example/stockwire/stockwire/codec/Envelope$Part" "MESSAGE_HEADER" "Lcom/example/stockwire/stockwire/codec/Envelope$Part;" (.ref f0)) (hp1 : Old Z n0 h0) :
    OCon l (⟨"com/example/stockwire/stockwire/codec/Envelope$Part", "opens", "()Z"⟩ : MethodName) prog_22_method_6_code 1 (some .boolean) ws opens0_rm Z #[(.ref f0)] h0 (opens0_Q Z f0 h0 n0) := by
  refine ocon (plainFor_of_name pn_com_example_stockwire_stockwire_codec_Envelope_Part) ?_
  intro p e s m below meth c s₁ hx hby hml hown hnm hret hlk hZ X0 eh0
  have N0 := Fr.nil n0
  have K0 := Keep.refl h0 []
  refine ogoE (opens0_ef m f0) ?_
  generalize hG : (OEnd s below (opens0_Q Z f0 h0 n0) opens0_rm.cells opens0_rm.slots) = G
  show OWay p e below G s₁ (mkF m 0 #[.val (.ref f0)] [])
  refine ogo (fun _ z_ => XS.aloadN X0.here hx rfl (hb hby d2_0) rfl rfl z_) ?_
  show OWay p e below G s₁ (mkF m 1 #[.val (.ref f0)] [(.ref f0)])
  obtain ⟨T1, X1, eT1, st1⟩ := getS2 X0 hx hZ hown (host := "") (Or.inl (hw _ (List.mem_of_getElem? (i := 13) rfl))) Via.refl eh0 (hp0.ext hp1.2) (g := (mkF m 1 #[.val (.ref f0)] [(.ref f0)])) rfl (hb hby d2_1)
  refine ogo st1 ?_
  show OWay p e below G T1 (mkF m 4 #[.val (.ref f0)] [(.ref f0), (.ref f0)])
  refine ogo (fun _ z_ => Jvm.RoadKit.acmp (g := (mkF m 4 #[.val (.ref f0)] [(.ref f0), (.ref f0)])) X1 hx rfl rfl rfl (pc0 := 4) (pc' := 21) (same := true) rfl (hb hby d2_4) rfl (decide_eq_true rfl) (by decide) (by decide) z_) ?_
  show OWay p e below G T1 (mkF m 21 #[.val (.ref f0)] [])
  refine ogo (fun _ z_ => XS.iconst X1.here hx rfl (hb hby d2_21) z_) ?_
  show OWay p e below G T1 (mkF m 22 #[.val (.ref f0)] [(.int (1 : Int32))])
  refine ogo (fun _ z_ => XS.goto X1.here hx rfl (pc0 := 22) (pc' := 26) rfl (hb hby d2_22) (by decide) (by decide) z_) ?_
  show OWay p e below G T1 (mkF m 26 #[.val (.ref f0)] [(.int (1 : Int32))])
  subst hG
  refine wRetN X1 hx (t := .boolean) hret hlk (by simp) (hb hby d2_26) (by decide) (by decide) eT1 ?_
  exact ⟨rfl, N0, rfl⟩
theorem d2_7 : decode prog_22_method_6_code 7 = .ok (.aload_n 0, 1) := by decide +kernel
theorem d2_8 : decode prog_22_method_6_code 8 = .ok (.getstatic 7, 3) := by decide +kernel
theorem d2_11 : decode prog_22_method_6_code 11 = .ok (.if_acmp .eq 10, 3) := by decide +kernel
def opens1_rm : Room := { frames := 0, cells := 0, slots := 0, locals := 0 }
def opens1_Q (Z : State) (f1 : Addr) (f0 : Addr) (h0 : Heap) (n0 : Nat) (v : Option Value) (h : Heap) (L : List Loc) : Prop := (v = some (.int (1 : Int32))) ∧ (Fr n0 L) ∧ (h = h0)
theorem opens1_ef (m : MethodId) (f1 : Addr) : entryFrame m #[(.ref f1)] 1 = mkF m 0 #[.val (.ref f1)] [] := by first | (simp [entryFrame, mkF, argsToLocals, Value.category]; done) | rfl
set_option maxRecDepth 65536 in
set_option maxHeartbeats 40000000 in
theorem opens1_c (l : Launch) (Z : State) (az : Array Value) (hw : ∀ d ∈ tables_1, d.before az Z = true) (ws : List Jvm.Cond) (f1 : Addr) (f0 : Addr) (h0 : Heap) (n0 : Nat) (Z0 : n0 ≤ h0.size) (hp0 : Sta Z Z.heap "com/example/stockwire/stockwire/codec/Envelope$Part" "MESSAGE_HEADER" "Lcom/example/stockwire/stockwire/codec/Envelope$Part;" (.ref f0)) (hp1 : Sta Z Z.heap "com/example/stockwire/stockwire/codec/Envelope$Part" "FILE_HEADER" "Lcom/example/stockwire/stockwire/codec/Envelope$Part;" (.ref f1)) (hp2 : f1 ≠ f0) (hp3 : Old Z n0 h0) :
    OCon l (⟨"com/example/stockwire/stockwire/codec/Envelope$Part", "opens", "()Z"⟩ : MethodName) prog_22_method_6_code 1 (some .boolean) ws opens1_rm Z #[(.ref f1)] h0 (opens1_Q Z f1 f0 h0 n0) := by
  refine ocon (plainFor_of_name pn_com_example_stockwire_stockwire_codec_Envelope_Part) ?_
  intro p e s m below meth c s₁ hx hby hml hown hnm hret hlk hZ X0 eh0
  have N0 := Fr.nil n0
  have K0 := Keep.refl h0 []
  refine ogoE (opens1_ef m f1) ?_
  generalize hG : (OEnd s below (opens1_Q Z f1 f0 h0 n0) opens1_rm.cells opens1_rm.slots) = G
  show OWay p e below G s₁ (mkF m 0 #[.val (.ref f1)] [])
  refine ogo (fun _ z_ => XS.aloadN X0.here hx rfl (hb hby d2_0) rfl rfl z_) ?_
  show OWay p e below G s₁ (mkF m 1 #[.val (.ref f1)] [(.ref f1)])
  obtain ⟨T1, X1, eT1, st1⟩ := getS2 X0 hx hZ hown (host := "") (Or.inl (hw _ (List.mem_of_getElem? (i := 13) rfl))) Via.refl eh0 (hp0.ext hp3.2) (g := (mkF m 1 #[.val (.ref f1)] [(.ref f1)])) rfl (hb hby d2_1)
  refine ogo st1 ?_
  show OWay p e below G T1 (mkF m 4 #[.val (.ref f1)] [(.ref f0), (.ref f1)])
  refine ogo (fun _ z_ => Jvm.RoadKit.acmp (g := (mkF m 4 #[.val (.ref f1)] [(.ref f0), (.ref f1)])) X1 hx rfl rfl rfl (pc0 := 4) (pc' := 7) (same := false) rfl (hb hby d2_4) rfl (decide_eq_false fun q => hp2 (Value.ref.inj q)) (by decide) (by decide) z_) ?_
  show OWay p e below G T1 (mkF m 7 #[.val (.ref f1)] [])
  refine ogo (fun _ z_ => XS.aloadN X1.here hx rfl (hb hby d2_7) rfl rfl z_) ?_
  show OWay p e below G T1 (mkF m 8 #[.val (.ref f1)] [(.ref f1)])
  obtain ⟨T2, X2, eT2, st2⟩ := getS2 X1 hx hZ hown (host := "") (Or.inl (hw _ (List.mem_of_getElem? (i := 45) rfl))) Via.refl eT1 (hp1.ext hp3.2) (g := (mkF m 8 #[.val (.ref f1)] [(.ref f1)])) rfl (hb hby d2_8)
  refine ogo st2 ?_
  show OWay p e below G T2 (mkF m 11 #[.val (.ref f1)] [(.ref f1), (.ref f1)])
  refine ogo (fun _ z_ => Jvm.RoadKit.acmp (g := (mkF m 11 #[.val (.ref f1)] [(.ref f1), (.ref f1)])) X2 hx rfl rfl rfl (pc0 := 11) (pc' := 21) (same := true) rfl (hb hby d2_11) rfl (decide_eq_true rfl) (by decide) (by decide) z_) ?_
  show OWay p e below G T2 (mkF m 21 #[.val (.ref f1)] [])
  refine ogo (fun _ z_ => XS.iconst X2.here hx rfl (hb hby d2_21) z_) ?_
  show OWay p e below G T2 (mkF m 22 #[.val (.ref f1)] [(.int (1 : Int32))])
  refine ogo (fun _ z_ => XS.goto X2.here hx rfl (pc0 := 22) (pc' := 26) rfl (hb hby d2_22) (by decide) (by decide) z_) ?_
  show OWay p e below G T2 (mkF m 26 #[.val (.ref f1)] [(.int (1 : Int32))])
  subst hG
  refine wRetN X2 hx (t := .boolean) hret hlk (by simp) (hb hby d2_26) (by decide) (by decide) eT2 ?_
  exact ⟨rfl, N0, rfl⟩
theorem d2_14 : decode prog_22_method_6_code 14 = .ok (.aload_n 0, 1) := by decide +kernel
theorem d2_15 : decode prog_22_method_6_code 15 = .ok (.getstatic 10, 3) := by decide +kernel
theorem d2_18 : decode prog_22_method_6_code 18 = .ok (.if_acmp .ne 7, 3) := by decide +kernel
def opens2_rm : Room := { frames := 0, cells := 0, slots := 0, locals := 0 }
def opens2_Q (Z : State) (f2 : Addr) (f0 : Addr) (f1 : Addr) (h0 : Heap) (n0 : Nat) (v : Option Value) (h : Heap) (L : List Loc) : Prop := (v = some (.int (1 : Int32))) ∧ (Fr n0 L) ∧ (h = h0)
theorem opens2_ef (m : MethodId) (f2 : Addr) : entryFrame m #[(.ref f2)] 1 = mkF m 0 #[.val (.ref f2)] [] := by first | (simp [entryFrame, mkF, argsToLocals, Value.category]; done) | rfl
set_option maxRecDepth 65536 in
set_option maxHeartbeats 40000000 in
theorem opens2_c (l : Launch) (Z : State) (az : Array Value) (hw : ∀ d ∈ tables_1, d.before az Z = true) (ws : List Jvm.Cond) (f2 : Addr) (f0 : Addr) (f1 : Addr) (h0 : Heap) (n0 : Nat) (Z0 : n0 ≤ h0.size) (hp0 : Sta Z Z.heap "com/example/stockwire/stockwire/codec/Envelope$Part" "MESSAGE_HEADER" "Lcom/example/stockwire/stockwire/codec/Envelope$Part;" (.ref f0)) (hp1 : Sta Z Z.heap "com/example/stockwire/stockwire/codec/Envelope$Part" "FILE_HEADER" "Lcom/example/stockwire/stockwire/codec/Envelope$Part;" (.ref f1)) (hp2 : Sta Z Z.heap "com/example/stockwire/stockwire/codec/Envelope$Part" "BATCH_HEADER" "Lcom/example/stockwire/stockwire/codec/Envelope$Part;" (.ref f2)) (hp3 : f2 ≠ f0) (hp4 : f2 ≠ f1) (hp5 : Old Z n0 h0) :
    OCon l (⟨"com/example/stockwire/stockwire/codec/Envelope$Part", "opens", "()Z"⟩ : MethodName) prog_22_method_6_code 1 (some .boolean) ws opens2_rm Z #[(.ref f2)] h0 (opens2_Q Z f2 f0 f1 h0 n0) := by
  refine ocon (plainFor_of_name pn_com_example_stockwire_stockwire_codec_Envelope_Part) ?_
  intro p e s m below meth c s₁ hx hby hml hown hnm hret hlk hZ X0 eh0
  have N0 := Fr.nil n0
  have K0 := Keep.refl h0 []
  refine ogoE (opens2_ef m f2) ?_
  generalize hG : (OEnd s below (opens2_Q Z f2 f0 f1 h0 n0) opens2_rm.cells opens2_rm.slots) = G
  show OWay p e below G s₁ (mkF m 0 #[.val (.ref f2)] [])
  refine ogo (fun _ z_ => XS.aloadN X0.here hx rfl (hb hby d2_0) rfl rfl z_) ?_
  show OWay p e below G s₁ (mkF m 1 #[.val (.ref f2)] [(.ref f2)])
  obtain ⟨T1, X1, eT1, st1⟩ := getS2 X0 hx hZ hown (host := "") (Or.inl (hw _ (List.mem_of_getElem? (i := 13) rfl))) Via.refl eh0 (hp0.ext hp5.2) (g := (mkF m 1 #[.val (.ref f2)] [(.ref f2)])) rfl (hb hby d2_1)
  refine ogo st1 ?_
  show OWay p e below G T1 (mkF m 4 #[.val (.ref f2)] [(.ref f0), (.ref f2)])
  refine ogo (fun _ z_ => Jvm.RoadKit.acmp (g := (mkF m 4 #[.val (.ref f2)] [(.ref f0), (.ref f2)])) X1 hx rfl rfl rfl (pc0 := 4) (pc' := 7) (same := false) rfl (hb hby d2_4) rfl (decide_eq_false fun q => hp3 (Value.ref.inj q)) (by decide) (by decide) z_) ?_
  show OWay p e below G T1 (mkF m 7 #[.val (.ref f2)] [])
  refine ogo (fun _ z_ => XS.aloadN X1.here hx rfl (hb hby d2_7) rfl rfl z_) ?_
  show OWay p e below G T1 (mkF m 8 #[.val (.ref f2)] [(.ref f2)])
  obtain ⟨T2, X2, eT2, st2⟩ := getS2 X1 hx hZ hown (host := "") (Or.inl (hw _ (List.mem_of_getElem? (i := 45) rfl))) Via.refl eT1 (hp1.ext hp5.2) (g := (mkF m 8 #[.val (.ref f2)] [(.ref f2)])) rfl (hb hby d2_8)
  refine ogo st2 ?_
  show OWay p e below G T2 (mkF m 11 #[.val (.ref f2)] [(.ref f1), (.ref f2)])
  refine ogo (fun _ z_ => Jvm.RoadKit.acmp (g := (mkF m 11 #[.val (.ref f2)] [(.ref f1), (.ref f2)])) X2 hx rfl rfl rfl (pc0 := 11) (pc' := 14) (same := false) rfl (hb hby d2_11) rfl (decide_eq_false fun q => hp4 (Value.ref.inj q)) (by decide) (by decide) z_) ?_
  show OWay p e below G T2 (mkF m 14 #[.val (.ref f2)] [])
  refine ogo (fun _ z_ => XS.aloadN X2.here hx rfl (hb hby d2_14) rfl rfl z_) ?_
  show OWay p e below G T2 (mkF m 15 #[.val (.ref f2)] [(.ref f2)])
  obtain ⟨T3, X3, eT3, st3⟩ := getS2 X2 hx hZ hown (host := "") (Or.inl (hw _ (List.mem_of_getElem? (i := 47) rfl))) Via.refl eT2 (hp2.ext hp5.2) (g := (mkF m 15 #[.val (.ref f2)] [(.ref f2)])) rfl (hb hby d2_15)
  refine ogo st3 ?_
  show OWay p e below G T3 (mkF m 18 #[.val (.ref f2)] [(.ref f2), (.ref f2)])
  refine ogo (fun _ z_ => Jvm.RoadKit.acmp (g := (mkF m 18 #[.val (.ref f2)] [(.ref f2), (.ref f2)])) X3 hx rfl rfl rfl (pc0 := 18) (pc' := 21) (same := true) rfl (hb hby d2_18) rfl (decide_eq_true rfl) (by decide) (by decide) z_) ?_
  show OWay p e below G T3 (mkF m 21 #[.val (.ref f2)] [])
  refine ogo (fun _ z_ => XS.iconst X3.here hx rfl (hb hby d2_21) z_) ?_
  show OWay p e below G T3 (mkF m 22 #[.val (.ref f2)] [(.int (1 : Int32))])
  refine ogo (fun _ z_ => XS.goto X3.here hx rfl (pc0 := 22) (pc' := 26) rfl (hb hby d2_22) (by decide) (by decide) z_) ?_
  show OWay p e below G T3 (mkF m 26 #[.val (.ref f2)] [(.int (1 : Int32))])
  subst hG
  refine wRetN X3 hx (t := .boolean) hret hlk (by simp) (hb hby d2_26) (by decide) (by decide) eT3 ?_
  exact ⟨rfl, N0, rfl⟩
theorem d2_25 : decode prog_22_method_6_code 25 = .ok (.iconst 0, 1) := by decide +kernel
def opens3_rm : Room := { frames := 0, cells := 0, slots := 0, locals := 0 }
def opens3_Q (Z : State) (g : Addr) (f0 : Addr) (f1 : Addr) (f2 : Addr) (h0 : Heap) (n0 : Nat) (v : Option Value) (h : Heap) (L : List Loc) : Prop := (v = some (.int (0 : Int32))) ∧ (Fr n0 L) ∧ (h = h0)
theorem opens3_ef (m : MethodId) (g : Addr) : entryFrame m #[(.ref g)] 1 = mkF m 0 #[.val (.ref g)] [] := by first | (simp [entryFrame, mkF, argsToLocals, Value.category]; done) | rfl
set_option maxRecDepth 65536 in
set_option maxHeartbeats 40000000 in
theorem opens3_c (l : Launch) (Z : State) (az : Array Value) (hw : ∀ d ∈ tables_1, d.before az Z = true) (ws : List Jvm.Cond) (g : Addr) (f0 : Addr) (f1 : Addr) (f2 : Addr) (h0 : Heap) (n0 : Nat) (Z0 : n0 ≤ h0.size) (hp0 : Sta Z Z.heap "com/example/stockwire/stockwire/codec/Envelope$Part" "MESSAGE_HEADER" "Lcom/example/stockwire/stockwire/codec/Envelope$Part;" (.ref f0)) (hp1 : Sta Z Z.heap "com/example/stockwire/stockwire/codec/Envelope$Part" "FILE_HEADER" "Lcom/example/stockwire/stockwire/codec/Envelope$Part;" (.ref f1)) (hp2 : Sta Z Z.heap "com/example/stockwire/stockwire/codec/Envelope$Part" "BATCH_HEADER" "Lcom/example/stockwire/stockwire/codec/Envelope$Part;" (.ref f2)) (hp3 : g ≠ f0) (hp4 : g ≠ f1) (hp5 : g ≠ f2) (hp6 : Old Z n0 h0) :
    OCon l (⟨"com/example/stockwire/stockwire/codec/Envelope$Part", "opens", "()Z"⟩ : MethodName) prog_22_method_6_code 1 (some .boolean) ws opens3_rm Z #[(.ref g)] h0 (opens3_Q Z g f0 f1 f2 h0 n0) := by
  refine ocon (plainFor_of_name pn_com_example_stockwire_stockwire_codec_Envelope_Part) ?_
  intro p e s m below meth c s₁ hx hby hml hown hnm hret hlk hZ X0 eh0
  have N0 := Fr.nil n0
  have K0 := Keep.refl h0 []
  refine ogoE (opens3_ef m g) ?_
  generalize hG : (OEnd s below (opens3_Q Z g f0 f1 f2 h0 n0) opens3_rm.cells opens3_rm.slots) = G
  show OWay p e below G s₁ (mkF m 0 #[.val (.ref g)] [])
  refine ogo (fun _ z_ => XS.aloadN X0.here hx rfl (hb hby d2_0) rfl rfl z_) ?_
  show OWay p e below G s₁ (mkF m 1 #[.val (.ref g)] [(.ref g)])
  obtain ⟨T1, X1, eT1, st1⟩ := getS2 X0 hx hZ hown (host := "") (Or.inl (hw _ (List.mem_of_getElem? (i := 13) rfl))) Via.refl eh0 (hp0.ext hp6.2) (g := (mkF m 1 #[.val (.ref g)] [(.ref g)])) rfl (hb hby d2_1)
  refine ogo st1 ?_
  show OWay p e below G T1 (mkF m 4 #[.val (.ref g)] [(.ref f0), (.ref g)])
  refine ogo (fun _ z_ => Jvm.RoadKit.acmp (g := (mkF m 4 #[.val (.ref g)] [(.ref f0), (.ref g)])) X1 hx rfl rfl rfl (pc0 := 4) (pc' := 7) (same := false) rfl (hb hby d2_4) rfl (decide_eq_false fun q => hp3 (Value.ref.inj q)) (by decide) (by decide) z_) ?_
  show OWay p e below G T1 (mkF m 7 #[.val (.ref g)] [])
  refine ogo (fun _ z_ => XS.aloadN X1.here hx rfl (hb hby d2_7) rfl rfl z_) ?_
  show OWay p e below G T1 (mkF m 8 #[.val (.ref g)] [(.ref g)])
  obtain ⟨T2, X2, eT2, st2⟩ := getS2 X1 hx hZ hown (host := "") (Or.inl (hw _ (List.mem_of_getElem? (i := 45) rfl))) Via.refl eT1 (hp1.ext hp6.2) (g := (mkF m 8 #[.val (.ref g)] [(.ref g)])) rfl (hb hby d2_8)
  refine ogo st2 ?_
  show OWay p e below G T2 (mkF m 11 #[.val (.ref g)] [(.ref f1), (.ref g)])
  refine ogo (fun _ z_ => Jvm.RoadKit.acmp (g := (mkF m 11 #[.val (.ref g)] [(.ref f1), (.ref g)])) X2 hx rfl rfl rfl (pc0 := 11) (pc' := 14) (same := false) rfl (hb hby d2_11) rfl (decide_eq_false fun q => hp4 (Value.ref.inj q)) (by decide) (by decide) z_) ?_
  show OWay p e below G T2 (mkF m 14 #[.val (.ref g)] [])
  refine ogo (fun _ z_ => XS.aloadN X2.here hx rfl (hb hby d2_14) rfl rfl z_) ?_
  show OWay p e below G T2 (mkF m 15 #[.val (.ref g)] [(.ref g)])
  obtain ⟨T3, X3, eT3, st3⟩ := getS2 X2 hx hZ hown (host := "") (Or.inl (hw _ (List.mem_of_getElem? (i := 47) rfl))) Via.refl eT2 (hp2.ext hp6.2) (g := (mkF m 15 #[.val (.ref g)] [(.ref g)])) rfl (hb hby d2_15)
  refine ogo st3 ?_
  show OWay p e below G T3 (mkF m 18 #[.val (.ref g)] [(.ref f2), (.ref g)])
  refine ogo (fun _ z_ => Jvm.RoadKit.acmp (g := (mkF m 18 #[.val (.ref g)] [(.ref f2), (.ref g)])) X3 hx rfl rfl rfl (pc0 := 18) (pc' := 25) (same := false) rfl (hb hby d2_18) rfl (decide_eq_false fun q => hp5 (Value.ref.inj q)) (by decide) (by decide) z_) ?_
  show OWay p e below G T3 (mkF m 25 #[.val (.ref g)] [])
  refine ogo (fun _ z_ => XS.iconst X3.here hx rfl (hb hby d2_25) z_) ?_
  show OWay p e below G T3 (mkF m 26 #[.val (.ref g)] [(.int (0 : Int32))])
  subst hG
  refine wRetN X3 hx (t := .boolean) hret hlk (by simp) (hb hby d2_26) (by decide) (by decide) eT3 ?_
  exact ⟨rfl, N0, rfl⟩
def opens4_rm : Room := { frames := 0, cells := 0, slots := 0, locals := 0 }
def opens4_Q (Z : State) (g : Addr) (f0 : Addr) (f1 : Addr) (f2 : Addr) (h0 : Heap) (n0 : Nat) (v : Option Value) (h : Heap) (L : List Loc) : Prop := (v = some (.int (0 : Int32))) ∧ (Fr n0 L) ∧ (h = h0)
theorem opens4_ef (m : MethodId) (g : Addr) : entryFrame m #[(.ref g)] 1 = mkF m 0 #[.val (.ref g)] [] := by first | (simp [entryFrame, mkF, argsToLocals, Value.category]; done) | rfl
set_option maxRecDepth 65536 in
set_option maxHeartbeats 40000000 in
theorem opens4_c (l : Launch) (Z : State) (az : Array Value) (hw : ∀ d ∈ tables_1, d.before az Z = true) (ws : List Jvm.Cond) (g : Addr) (f0 : Addr) (f1 : Addr) (f2 : Addr) (h0 : Heap) (n0 : Nat) (Z0 : n0 ≤ h0.size) (hp0 : Sta Z Z.heap "com/example/stockwire/stockwire/codec/Envelope$Part" "MESSAGE_HEADER" "Lcom/example/stockwire/stockwire/codec/Envelope$Part;" (.ref f0)) (hp1 : Sta Z Z.heap "com/example/stockwire/stockwire/codec/Envelope$Part" "FILE_HEADER" "Lcom/example/stockwire/stockwire/codec/Envelope$Part;" (.ref f1)) (hp2 : Sta Z Z.heap "com/example/stockwire/stockwire/codec/Envelope$Part" "BATCH_HEADER" "Lcom/example/stockwire/stockwire/codec/Envelope$Part;" (.ref f2)) (hp3 : g ≠ f0) (hp4 : g ≠ f1) (hp5 : g ≠ f2) (hp6 : Old Z n0 h0) :
    OCon l (⟨"com/example/stockwire/stockwire/codec/Envelope$Part", "opens", "()Z"⟩ : MethodName) prog_22_method_6_code 1 (some .boolean) ws opens4_rm Z #[(.ref g)] h0 (opens4_Q Z g f0 f1 f2 h0 n0) := by
  refine ocon (plainFor_of_name pn_com_example_stockwire_stockwire_codec_Envelope_Part) ?_
  intro p e s m below meth c s₁ hx hby hml hown hnm hret hlk hZ X0 eh0
  have N0 := Fr.nil n0
  have K0 := Keep.refl h0 []
  refine ogoE (opens4_ef m g) ?_
  generalize hG : (OEnd s below (opens4_Q Z g f0 f1 f2 h0 n0) opens4_rm.cells opens4_rm.slots) = G
  show OWay p e below G s₁ (mkF m 0 #[.val (.ref g)] [])
  refine ogo (fun _ z_ => XS.aloadN X0.here hx rfl (hb hby d2_0) rfl rfl z_) ?_
  show OWay p e below G s₁ (mkF m 1 #[.val (.ref g)] [(.ref g)])
  obtain ⟨T1, X1, eT1, st1⟩ := getS2 X0 hx hZ hown (host := "") (Or.inl (hw _ (List.mem_of_getElem? (i := 13) rfl))) Via.refl eh0 (hp0.ext hp6.2) (g := (mkF m 1 #[.val (.ref g)] [(.ref g)])) rfl (hb hby d2_1)
  refine ogo st1 ?_
  show OWay p e below G T1 (mkF m 4 #[.val (.ref g)] [(.ref f0), (.ref g)])
  refine ogo (fun _ z_ => Jvm.RoadKit.acmp (g := (mkF m 4 #[.val (.ref g)] [(.ref f0), (.ref g)])) X1 hx rfl rfl rfl (pc0 := 4) (pc' := 7) (same := false) rfl (hb hby d2_4) rfl (decide_eq_false fun q => hp3 (Value.ref.inj q)) (by decide) (by decide) z_) ?_
  show OWay p e below G T1 (mkF m 7 #[.val (.ref g)] [])
  refine ogo (fun _ z_ => XS.aloadN X1.here hx rfl (hb hby d2_7) rfl rfl z_) ?_
  show OWay p e below G T1 (mkF m 8 #[.val (.ref g)] [(.ref g)])
  obtain ⟨T2, X2, eT2, st2⟩ := getS2 X1 hx hZ hown (host := "") (Or.inl (hw _ (List.mem_of_getElem? (i := 45) rfl))) Via.refl eT1 (hp1.ext hp6.2) (g := (mkF m 8 #[.val (.ref g)] [(.ref g)])) rfl (hb hby d2_8)
  refine ogo st2 ?_
  show OWay p e below G T2 (mkF m 11 #[.val (.ref g)] [(.ref f1), (.ref g)])
  refine ogo (fun _ z_ => Jvm.RoadKit.acmp (g := (mkF m 11 #[.val (.ref g)] [(.ref f1), (.ref g)])) X2 hx rfl rfl rfl (pc0 := 11) (pc' := 14) (same := false) rfl (hb hby d2_11) rfl (decide_eq_false fun q => hp4 (Value.ref.inj q)) (by decide) (by decide) z_) ?_
  show OWay p e below G T2 (mkF m 14 #[.val (.ref g)] [])
  refine ogo (fun _ z_ => XS.aloadN X2.here hx rfl (hb hby d2_14) rfl rfl z_) ?_
  show OWay p e below G T2 (mkF m 15 #[.val (.ref g)] [(.ref g)])
  obtain ⟨T3, X3, eT3, st3⟩ := getS2 X2 hx hZ hown (host := "") (Or.inl (hw _ (List.mem_of_getElem? (i := 47) rfl))) Via.refl eT2 (hp2.ext hp6.2) (g := (mkF m 15 #[.val (.ref g)] [(.ref g)])) rfl (hb hby d2_15)
  refine ogo st3 ?_
  show OWay p e below G T3 (mkF m 18 #[.val (.ref g)] [(.ref f2), (.ref g)])
  refine ogo (fun _ z_ => Jvm.RoadKit.acmp (g := (mkF m 18 #[.val (.ref g)] [(.ref f2), (.ref g)])) X3 hx rfl rfl rfl (pc0 := 18) (pc' := 25) (same := false) rfl (hb hby d2_18) rfl (decide_eq_false fun q => hp5 (Value.ref.inj q)) (by decide) (by decide) z_) ?_
  show OWay p e below G T3 (mkF m 25 #[.val (.ref g)] [])
  refine ogo (fun _ z_ => XS.iconst X3.here hx rfl (hb hby d2_25) z_) ?_
  show OWay p e below G T3 (mkF m 26 #[.val (.ref g)] [(.int (0 : Int32))])
  subst hG
  refine wRetN X3 hx (t := .boolean) hret hlk (by simp) (hb hby d2_26) (by decide) (by decide) eT3 ?_
  exact ⟨rfl, N0, rfl⟩
def opens5_rm : Room := { frames := 0, cells := 0, slots := 0, locals := 0 }
def opens5_Q (Z : State) (g : Addr) (f0 : Addr) (f1 : Addr) (f2 : Addr) (h0 : Heap) (n0 : Nat) (v : Option Value) (h : Heap) (L : List Loc) : Prop := (v = some (.int (0 : Int32))) ∧ (Fr n0 L) ∧ (h = h0)
theorem opens5_ef (m : MethodId) (g : Addr) : entryFrame m #[(.ref g)] 1 = mkF m 0 #[.val (.ref g)] [] := by first | (simp [entryFrame, mkF, argsToLocals, Value.category]; done) | rfl
set_option maxRecDepth 65536 in
set_option maxHeartbeats 40000000 in
theorem opens5_c (l : Launch) (Z : State) (az : Array Value) (hw : ∀ d ∈ tables_1, d.before az Z = true) (ws : List Jvm.Cond) (g : Addr) (f0 : Addr) (f1 : Addr) (f2 : Addr) (h0 : Heap) (n0 : Nat) (Z0 : n0 ≤ h0.size) (hp0 : Sta Z Z.heap "com/example/stockwire/stockwire/codec/Envelope$Part" "MESSAGE_HEADER" "Lcom/example/stockwire/stockwire/codec/Envelope$Part;" (.ref f0)) (hp1 : Sta Z Z.heap "com/example/stockwire/stockwire/codec/Envelope$Part" "FILE_HEADER" "Lcom/example/stockwire/stockwire/codec/Envelope$Part;" (.ref f1)) (hp2 : Sta Z Z.heap "com/example/stockwire/stockwire/codec/Envelope$Part" "BATCH_HEADER" "Lcom/example/stockwire/stockwire/codec/Envelope$Part;" (.ref f2)) (hp3 : g ≠ f0) (hp4 : g ≠ f1) (hp5 : g ≠ f2) (hp6 : Old Z n0 h0) :
    OCon l (⟨"com/example/stockwire/stockwire/codec/Envelope$Part", "opens", "()Z"⟩ : MethodName) prog_22_method_6_code 1 (some .boolean) ws opens5_rm Z #[(.ref g)] h0 (opens5_Q Z g f0 f1 f2 h0 n0) := by
  refine ocon (plainFor_of_name pn_com_example_stockwire_stockwire_codec_Envelope_Part) ?_
  intro p e s m below meth c s₁ hx hby hml hown hnm hret hlk hZ X0 eh0
  have N0 := Fr.nil n0
  have K0 := Keep.refl h0 []
  refine ogoE (opens5_ef m g) ?_
  generalize hG : (OEnd s below (opens5_Q Z g f0 f1 f2 h0 n0) opens5_rm.cells opens5_rm.slots) = G
  show OWay p e below G s₁ (mkF m 0 #[.val (.ref g)] [])
  refine ogo (fun _ z_ => XS.aloadN X0.here hx rfl (hb hby d2_0) rfl rfl z_) ?_
  show OWay p e below G s₁ (mkF m 1 #[.val (.ref g)] [(.ref g)])
  obtain ⟨T1, X1, eT1, st1⟩ := getS2 X0 hx hZ hown (host := "") (Or.inl (hw _ (List.mem_of_getElem? (i := 13) rfl))) Via.refl eh0 (hp0.ext hp6.2) (g := (mkF m 1 #[.val (.ref g)] [(.ref g)])) rfl (hb hby d2_1)
  refine ogo st1 ?_
  show OWay p e below G T1 (mkF m 4 #[.val (.ref g)] [(.ref f0), (.ref g)])
  refine ogo (fun _ z_ => Jvm.RoadKit.acmp (g := (mkF m 4 #[.val (.ref g)] [(.ref f0), (.ref g)])) X1 hx rfl rfl rfl (pc0 := 4) (pc' := 7) (same := false) rfl (hb hby d2_4) rfl (decide_eq_false fun q => hp3 (Value.ref.inj q)) (by decide) (by decide) z_) ?_
  show OWay p e below G T1 (mkF m 7 #[.val (.ref g)] [])
  refine ogo (fun _ z_ => XS.aloadN X1.here hx rfl (hb hby d2_7) rfl rfl z_) ?_
  show OWay p e below G T1 (mkF m 8 #[.val (.ref g)] [(.ref g)])
  obtain ⟨T2, X2, eT2, st2⟩ := getS2 X1 hx hZ hown (host := "") (Or.inl (hw _ (List.mem_of_getElem? (i := 45) rfl))) Via.refl eT1 (hp1.ext hp6.2) (g := (mkF m 8 #[.val (.ref g)] [(.ref g)])) rfl (hb hby d2_8)
  refine ogo st2 ?_
  show OWay p e below G T2 (mkF m 11 #[.val (.ref g)] [(.ref f1), (.ref g)])
  refine ogo (fun _ z_ => Jvm.RoadKit.acmp (g := (mkF m 11 #[.val (.ref g)] [(.ref f1), (.ref g)])) X2 hx rfl rfl rfl (pc0 := 11) (pc' := 14) (same := false) rfl (hb hby d2_11) rfl (decide_eq_false fun q => hp4 (Value.ref.inj q)) (by decide) (by decide) z_) ?_
  show OWay p e below G T2 (mkF m 14 #[.val (.ref g)] [])
  refine ogo (fun _ z_ => XS.aloadN X2.here hx rfl (hb hby d2_14) rfl rfl z_) ?_
  show OWay p e below G T2 (mkF m 15 #[.val (.ref g)] [(.ref g)])
  obtain ⟨T3, X3, eT3, st3⟩ := getS2 X2 hx hZ hown (host := "") (Or.inl (hw _ (List.mem_of_getElem? (i := 47) rfl))) Via.refl eT2 (hp2.ext hp6.2) (g := (mkF m 15 #[.val (.ref g)] [(.ref g)])) rfl (hb hby d2_15)
  refine ogo st3 ?_
  show OWay p e below G T3 (mkF m 18 #[.val (.ref g)] [(.ref f2), (.ref g)])
  refine ogo (fun _ z_ => Jvm.RoadKit.acmp (g := (mkF m 18 #[.val (.ref g)] [(.ref f2), (.ref g)])) X3 hx rfl rfl rfl (pc0 := 18) (pc' := 25) (same := false) rfl (hb hby d2_18) rfl (decide_eq_false fun q => hp5 (Value.ref.inj q)) (by decide) (by decide) z_) ?_
  show OWay p e below G T3 (mkF m 25 #[.val (.ref g)] [])
  refine ogo (fun _ z_ => XS.iconst X3.here hx rfl (hb hby d2_25) z_) ?_
  show OWay p e below G T3 (mkF m 26 #[.val (.ref g)] [(.int (0 : Int32))])
  subst hG
  refine wRetN X3 hx (t := .boolean) hret hlk (by simp) (hb hby d2_26) (by decide) (by decide) eT3 ?_
  exact ⟨rfl, N0, rfl⟩
theorem d3_0 : decode prog_22_method_4_code 0 = .ok (.aload_n 0, 1) := by decide +kernel
theorem d3_1 : decode prog_22_method_4_code 1 = .ok (.getfield 41, 3) := by decide +kernel
theorem d3_4 : decode prog_22_method_4_code 4 = .ok (.areturn, 1) := by decide +kernel
def get3_rm : Room := { frames := 0, cells := 0, slots := 0, locals := 0 }
def get3_Q (Z : State) (a0 : Addr) (w : Addr) (h0 : Heap) (n0 : Nat) (v : Option Value) (h : Heap) (L : List Loc) : Prop := (v = some (.ref w)) ∧ (Fr n0 L) ∧ (h = h0)
theorem get3_ef (m : MethodId) (a0 : Addr) : entryFrame m #[(.ref a0)] 1 = mkF m 0 #[.val (.ref a0)] [] := by first | (simp [entryFrame, mkF, argsToLocals, Value.category]; done) | rfl
set_option maxRecDepth 65536 in
set_option maxHeartbeats 40000000 in
theorem get3_c (l : Launch) (Z : State) (az : Array Value) (hw : ∀ d ∈ tables_1, d.before az Z = true) (ws : List Jvm.Cond) (a0 : Addr) (w : Addr) (h0 : Heap) (n0 : Nat) (Z0 : n0 ≤ h0.size) (hp0 : Fld Z h0 a0 "com/example/stockwire/stockwire/codec/Envelope$Part" "id" "Ljava/lang/String;" (.ref w)) :
    OCon l (⟨"com/example/stockwire/stockwire/codec/Envelope$Part", "id", "()Ljava/lang/String;"⟩ : MethodName) prog_22_method_4_code 1 (some (.object "java/lang/String")) ws get3_rm Z #[(.ref a0)] h0 (get3_Q Z a0 w h0 n0) := by
  refine ocon (plainFor_of_name pn_com_example_stockwire_stockwire_codec_Envelope_Part) ?_
  intro p e s m below meth c s₁ hx hby hml hown hnm hret hlk hZ X0 eh0
  have N0 := Fr.nil n0
  have K0 := Keep.refl h0 []
  refine ogoE (get3_ef m a0) ?_
  generalize hG : (OEnd s below (get3_Q Z a0 w h0 n0) get3_rm.cells get3_rm.slots) = G
  show OWay p e below G s₁ (mkF m 0 #[.val (.ref a0)] [])
  refine ogo (fun _ z_ => XS.aloadN X0.here hx rfl (hb hby d3_0) rfl rfl z_) ?_
  show OWay p e below G s₁ (mkF m 1 #[.val (.ref a0)] [(.ref a0)])
  obtain ⟨T1, X1, eT1, st1⟩ := getF X0 hx hZ hown (host := "") (Or.inl (hw _ (List.mem_of_getElem? (i := 19) rfl))) Via.refl eh0 hp0 (g := (mkF m 1 #[.val (.ref a0)] [(.ref a0)])) rfl rfl (hb hby d3_1)
  refine ogo st1 ?_
  show OWay p e below G T1 (mkF m 4 #[.val (.ref a0)] [(.ref w)])
  subst hG
  refine wRet X1 hx hret hlk rfl (Or.inr (Or.inr (Or.inr (Or.inr ⟨rfl, rfl, rfl⟩)))) (hb hby d3_4) (by decide) (by decide) eT1 ?_
  exact ⟨rfl, N0, rfl⟩
theorem own_c (p v : Int32) (h : v = ((p &&& (2147483647 : Int32)) % (6 : Int32))) : v = (0 : Int32) ∨ v = (1 : Int32) ∨ v = (2 : Int32) ∨ v = (3 : Int32) ∨ v = (4 : Int32) ∨ v = (5 : Int32) := by
  have m := c_mask p 2147483647 31 (by decide) (by decide)
  have d := (c_irem (p &&& 2147483647) 6 6 (by decide)).1 (by omega)
  rw [← h] at d
  have e0 : (0 : Int32).toInt = 0 := by decide
  have e1 : (1 : Int32).toInt = 1 := by decide
  have e2 : (2 : Int32).toInt = 2 := by decide
  have e3 : (3 : Int32).toInt = 3 := by decide
  have e4 : (4 : Int32).toInt = 4 := by decide
  have e5 : (5 : Int32).toInt = 5 := by decide
  simp only [← Int32.toInt_inj, e0, e1, e2, e3, e4, e5]
  omega
theorem pd__I_Lcom_example_stockwire_stockwire_codec_Envelope_Part_ : parseMethodDescriptor "(I)Lcom/example/stockwire/stockwire/codec/Envelope$Part;" = some ⟨[.int], some (.object "com/example/stockwire/stockwire/codec/Envelope$Part")⟩ := by decide +kernel
theorem pd___Z : parseMethodDescriptor "()Z" = some ⟨[], some .boolean⟩ := by decide +kernel
theorem pd___Ljava_lang_String_ : parseMethodDescriptor "()Ljava/lang/String;" = some ⟨[], some (.object "java/lang/String")⟩ := by decide +kernel
theorem own_wS {Z : State} {az : Array Value} (hw : ∀ d ∈ tables_1, d.before az Z = true) : ∀ a ∈ Bundle.stringAtoms, a.before az Z = true := by
  intro a ha
  simp only [Bundle.stringAtoms, List.mem_cons, List.not_mem_nil, or_false] at ha
  rcases ha with rfl | rfl | rfl | rfl | rfl | rfl | rfl
  · exact (hw _ (List.mem_of_getElem? (i := 22) rfl))
  · exact (hw _ (List.mem_of_getElem? (i := 23) rfl))
  · exact (hw _ (List.mem_of_getElem? (i := 24) rfl))
  · exact (hw _ (List.mem_of_getElem? (i := 25) rfl))
  · exact (hw _ (List.mem_of_getElem? (i := 26) rfl))
  · exact (hw _ (List.mem_of_getElem? (i := 27) rfl))
  · exact (hw _ (List.mem_of_getElem? (i := 28) rfl))
theorem pd__Ljava_lang_Object__Z : parseMethodDescriptor "(Ljava/lang/Object;)Z" = some ⟨[(.object "java/lang/Object")], some .boolean⟩ := by decide +kernel
def law_Q (Z : State) (p0 : Int32) (G1 : Int32) (e0 : Addr) (s0 : Addr) (bb0 : Addr) (kc0 : ClassId) (e1 : Addr) (s1 : Addr) (bb1 : Addr) (kc1 : ClassId) (e2 : Addr) (s2 : Addr) (bb2 : Addr) (kc2 : ClassId) (e3 : Addr) (s3 : Addr) (bb3 : Addr) (kc3 : ClassId) (e4 : Addr) (s4 : Addr) (bb4 : Addr) (kc4 : ClassId) (e5 : Addr) (s5 : Addr) (bb5 : Addr) (kc5 : ClassId) (h0 : Heap) (n0 : Nat) (v : Option Value) (h : Heap) (L : List Loc) : Prop := v = some (.int 1) ∧ Fr n0 L
theorem law_ef (m : MethodId) (p0 : Int32) : entryFrame m #[(.int p0)] maxLocals = mkF m 0 #[.val (.int p0), .unset, .unset, .unset, .unset, .unset] [] := by first | (simp [entryFrame, mkF, argsToLocals, Value.category, maxLocals]; done) | rfl
set_option maxRecDepth 65536 in
set_option maxHeartbeats 40000000 in
theorem law_c (l : Launch) (Z : State) (az : Array Value) (hw : ∀ d ∈ tables_1, d.before az Z = true) (ws : List Jvm.Cond) (p0 : Int32) (G1 : Int32) (e0 : Addr) (s0 : Addr) (bb0 : Addr) (kc0 : ClassId) (e1 : Addr) (s1 : Addr) (bb1 : Addr) (kc1 : ClassId) (e2 : Addr) (s2 : Addr) (bb2 : Addr) (kc2 : ClassId) (e3 : Addr) (s3 : Addr) (bb3 : Addr) (kc3 : ClassId) (e4 : Addr) (s4 : Addr) (bb4 : Addr) (kc4 : ClassId) (e5 : Addr) (s5 : Addr) (bb5 : Addr) (kc5 : ClassId) (h0 : Heap) (n0 : Nat) (Z0 : n0 ≤ h0.size) (hp0 : Sta Z Z.heap "java/lang/String" "COMPACT_STRINGS" "Z" (.int G1)) (hp1 : Old Z n0 h0) (hp2 : Sta Z Z.heap "com/example/stockwire/stockwire/codec/Envelope$Part" "MESSAGE_HEADER" "Lcom/example/stockwire/stockwire/codec/Envelope$Part;" (.ref e0)) (hp3 : Exa Z Z.heap e0 "com/example/stockwire/stockwire/codec/Envelope$Part") (hp4 : Fld Z Z.heap e0 "com/example/stockwire/stockwire/codec/Envelope$Part" "id" "Ljava/lang/String;" (.ref s0)) (hp5 : Exa Z Z.heap s0 "java/lang/String") (hp6 : Fld Z Z.heap s0 "java/lang/String" "coder" "B" (.int (0 : Int32))) (hp7 : Fld Z Z.heap s0 "java/lang/String" "value" "[B" (.ref bb0)) (hp8 : Arv Z Z.heap bb0 kc0 .byte (3 : Int32) [(.int (77 : Int32)), (.int (83 : Int32)), (.int (72 : Int32))] (.int (0 : Int32))) (hp9 : Sta Z Z.heap "com/example/stockwire/stockwire/codec/Envelope$Part" "FILE_HEADER" "Lcom/example/stockwire/stockwire/codec/Envelope$Part;" (.ref e1)) (hp10 : Exa Z Z.heap e1 "com/example/stockwire/stockwire/codec/Envelope$Part") (hp11 : Fld Z Z.heap e1 "com/example/stockwire/stockwire/codec/Envelope$Part" "id" "Ljava/lang/String;" (.ref s1)) (hp12 : Exa Z Z.heap s1 "java/lang/String") (hp13 : Fld Z Z.heap s1 "java/lang/String" "coder" "B" (.int (0 : Int32))) (hp14 : Fld Z Z.heap s1 "java/lang/String" "value" "[B" (.ref bb1)) (hp15 : Arv Z Z.heap bb1 kc1 .byte (3 : Int32) [(.int (70 : Int32)), (.int (72 : Int32)), (.int (83 : Int32))] (.int (0 : Int32))) (hp16 : Sta Z Z.heap "com/example/stockwire/stockwire/codec/Envelope$Part" "BATCH_HEADER" "Lcom/example/stockwire/stockwire/codec/Envelope$Part;" (.ref e2)) (hp17 : Exa Z Z.heap e2 "com/example/stockwire/stockwire/codec/Envelope$Part") (hp18 : Fld Z Z.heap e2 "com/example/stockwire/stockwire/codec/Envelope$Part" "id" "Ljava/lang/String;" (.ref s2)) (hp19 : Exa Z Z.heap s2 "java/lang/String") (hp20 : Fld Z Z.heap s2 "java/lang/String" "coder" "B" (.int (0 : Int32))) (hp21 : Fld Z Z.heap s2 "java/lang/String" "value" "[B" (.ref bb2)) (hp22 : Arv Z Z.heap bb2 kc2 .byte (3 : Int32) [(.int (66 : Int32)), (.int (72 : Int32)), (.int (83 : Int32))] (.int (0 : Int32))) (hp23 : Sta Z Z.heap "com/example/stockwire/stockwire/codec/Envelope$Part" "BATCH_TRAILER" "Lcom/example/stockwire/stockwire/codec/Envelope$Part;" (.ref e3)) (hp24 : Exa Z Z.heap e3 "com/example/stockwire/stockwire/codec/Envelope$Part") (hp25 : Fld Z Z.heap e3 "com/example/stockwire/stockwire/codec/Envelope$Part" "id" "Ljava/lang/String;" (.ref s3)) (hp26 : Exa Z Z.heap s3 "java/lang/String") (hp27 : Fld Z Z.heap s3 "java/lang/String" "coder" "B" (.int (0 : Int32))) (hp28 : Fld Z Z.heap s3 "java/lang/String" "value" "[B" (.ref bb3)) (hp29 : Arv Z Z.heap bb3 kc3 .byte (3 : Int32) [(.int (66 : Int32)), (.int (84 : Int32)), (.int (83 : Int32))] (.int (0 : Int32))) (hp30 : Sta Z Z.heap "com/example/stockwire/stockwire/codec/Envelope$Part" "FILE_TRAILER" "Lcom/example/stockwire/stockwire/codec/Envelope$Part;" (.ref e4)) (hp31 : Exa Z Z.heap e4 "com/example/stockwire/stockwire/codec/Envelope$Part") (hp32 : Fld Z Z.heap e4 "com/example/stockwire/stockwire/codec/Envelope$Part" "id" "Ljava/lang/String;" (.ref s4)) (hp33 : Exa Z Z.heap s4 "java/lang/String") (hp34 : Fld Z Z.heap s4 "java/lang/String" "coder" "B" (.int (0 : Int32))) (hp35 : Fld Z Z.heap s4 "java/lang/String" "value" "[B" (.ref bb4)) (hp36 : Arv Z Z.heap bb4 kc4 .byte (3 : Int32) [(.int (70 : Int32)), (.int (84 : Int32)), (.int (83 : Int32))] (.int (0 : Int32))) (hp37 : Sta Z Z.heap "com/example/stockwire/stockwire/codec/Envelope$Part" "SEGMENT" "Lcom/example/stockwire/stockwire/codec/Envelope$Part;" (.ref e5)) (hp38 : Exa Z Z.heap e5 "com/example/stockwire/stockwire/codec/Envelope$Part") (hp39 : Fld Z Z.heap e5 "com/example/stockwire/stockwire/codec/Envelope$Part" "id" "Ljava/lang/String;" (.ref s5)) (hp40 : Exa Z Z.heap s5 "java/lang/String") (hp41 : Fld Z Z.heap s5 "java/lang/String" "coder" "B" (.int (0 : Int32))) (hp42 : Fld Z Z.heap s5 "java/lang/String" "value" "[B" (.ref bb5)) (hp43 : Arv Z Z.heap bb5 kc5 .byte (0 : Int32) [] (.int (0 : Int32))) (hp44 : e1 ≠ e0) (hp45 : e2 ≠ e0) (hp46 : e2 ≠ e1) (hp47 : e3 ≠ e0) (hp48 : e3 ≠ e1) (hp49 : e3 ≠ e2) (hp50 : e4 ≠ e0) (hp51 : e4 ≠ e1) (hp52 : e4 ≠ e2) (hp53 : e5 ≠ e0) (hp54 : e5 ≠ e1) (hp55 : e5 ≠ e2) (hcp : ¬ (G1 = (0 : Int32))) (hcw : Jvm.Lit.compactW.before az Z = true) (hn0 : n0 = h0.size) (hh43 : Jvm.Lit.constHeld Z "com/example/stockwire/stockwire/codec/PartOpensPinLaw" 43) (hh51 : Jvm.Lit.constHeld Z "com/example/stockwire/stockwire/codec/PartOpensPinLaw" 51) (hh53 : Jvm.Lit.constHeld Z "com/example/stockwire/stockwire/codec/PartOpensPinLaw" 53) :
    OConW l x code maxLocals ret ws room_1 Z #[(.int p0)] h0 (law_Q Z p0 G1 e0 s0 bb0 kc0 e1 s1 bb1 kc1 e2 s2 bb2 kc2 e3 s3 bb3 kc3 e4 s4 bb4 kc4 e5 s5 bb5 kc5 h0 n0) := by
  refine oconW (plainFor_of_name pn_com_example_stockwire_stockwire_codec_PartOpensPinLaw) ?_
  intro p e s m below meth c s₁ hx hby hml hown hnm hret hlk hZ X0 eh0 hh0 hU0
  have hS0 : s.Since s.vm s.heap.size := (State.WarmedH.refl s).since _
  have hk0 : s.heap.size ≤ h0.size := Nat.le_of_eq (by rw [hh0])
  have N0 := Fr.nil n0
  have K0 := Keep.refl h0 []
  refine ogoE (law_ef m p0) ?_
  generalize hG : (OEndW s below (law_Q Z p0 G1 e0 s0 bb0 kc0 e1 s1 bb1 kc1 e2 s2 bb2 kc2 e3 s3 bb3 kc3 e4 s4 bb4 kc4 e5 s5 bb5 kc5 h0 n0) room_1.cells room_1.slots) = G
  show OWay p e below G s₁ (mkF m 0 #[.val (.int p0), .unset, .unset, .unset, .unset, .unset] [])
  refine ogo (fun _ z_ => XS.iloadN X0.here hx rfl (hb hby at_0) rfl z_) ?_
  show OWay p e below G s₁ (mkF m 1 #[.val (.int p0), .unset, .unset, .unset, .unset, .unset] [(.int p0)])
  refine ogo (fun _ z_ => X0.ldcInt hx hown (mvT hZ (hw _ (List.mem_of_getElem? (i := 0) rfl))) (g := (mkF m 1 #[.val (.int p0), .unset, .unset, .unset, .unset, .unset] [(.int p0)])) rfl (hb hby at_1) _ z_) ?_
  show OWay p e below G s₁ (mkF m 3 #[.val (.int p0), .unset, .unset, .unset, .unset, .unset] [(.int (2147483647 : Int32)), (.int p0)])
  refine ogo (fun _ z_ => XS.iand X0.here hx rfl (hb hby at_3) rfl z_) ?_
  show OWay p e below G s₁ (mkF m 4 #[.val (.int p0), .unset, .unset, .unset, .unset, .unset] [(.int (p0 &&& (2147483647 : Int32)))])
  refine ogo (fun _ z_ => XS.bipush X0.here hx rfl (hb hby at_4) z_) ?_
  show OWay p e below G s₁ (mkF m 6 #[.val (.int p0), .unset, .unset, .unset, .unset, .unset] [(.int (6 : Int32)), (.int (p0 &&& (2147483647 : Int32)))])
  refine ogo (fun _ z_ => iremM X0 hx rfl (hb hby at_6) rfl (by decide) z_) ?_
  show OWay p e below G s₁ (mkF m 7 #[.val (.int p0), .unset, .unset, .unset, .unset, .unset] [(.int ((p0 &&& (2147483647 : Int32)) % (6 : Int32)))])
  suffices Jv1_1 : ∀ v1_1 : Int32, v1_1 = ((p0 &&& (2147483647 : Int32)) % (6 : Int32)) → OWay p e below G s₁ (mkF m 7 #[.val (.int p0), .unset, .unset, .unset, .unset, .unset] [(.int v1_1)]) from Jv1_1 _ rfl
  intro v1_1 hv1_1
  refine ogo (fun _ z_ => XS.istoreN X0.here hx rfl (hb hby at_7) rfl (l' := #[.val (.int p0), .val (.int v1_1), .unset, .unset, .unset, .unset]) rfl z_) ?_
  show OWay p e below G s₁ (mkF m 8 #[.val (.int p0), .val (.int v1_1), .unset, .unset, .unset, .unset] [])
  rcases (own_c p0 v1_1 hv1_1 : v1_1 = (0 : Int32) ∨ v1_1 = (1 : Int32) ∨ v1_1 = (2 : Int32) ∨ v1_1 = (3 : Int32) ∨ v1_1 = (4 : Int32) ∨ v1_1 = (5 : Int32)) with rfl | rfl | rfl | rfl | rfl | rfl
  · show OWay p e below G s₁ (mkF m 8 #[.val (.int p0), .val (.int (0 : Int32)), .unset, .unset, .unset, .unset] [])
    refine ogo (fun _ z_ => XS.iloadN X0.here hx rfl (hb hby at_8) rfl z_) ?_
    show OWay p e below G s₁ (mkF m 9 #[.val (.int p0), .val (.int (0 : Int32)), .unset, .unset, .unset, .unset] [(.int (0 : Int32))])
    obtain ⟨_, T2, L2, X2, hQ2, st2⟩ := wStatic X0 hx hZ (y := (⟨"com/example/stockwire/stockwire/codec/PartOpensPinLaw", "pick", "(I)Lcom/example/stockwire/stockwire/codec/Envelope$Part;"⟩ : MethodName)) hown (hw _ (List.mem_of_getElem? (i := 1) rfl)) (hw _ (List.mem_of_getElem? (i := 2) rfl)) (hw _ (List.mem_of_getElem? (i := 3) rfl)) (hw _ (List.mem_of_getElem? (i := 4) rfl)) (by decide) (pick0_c l Z az hw [] e0 h0 n0 Z0 hp2 hp1) 0 (by decide) (by decide) (g := (mkF m 9 #[.val (.int p0), .val (.int (0 : Int32)), .unset, .unset, .unset, .unset] [(.int (0 : Int32))])) rfl (by rw [hml]; rfl) (argsL := [(.int (0 : Int32))]) (rest := []) (lenOf pd__I_Lcom_example_stockwire_stockwire_codec_Envelope_Part_ rfl) rfl (by show 2 * 0 + _ ≤ _; exact Nat.le_of_eq rfl) (hb hby at_9) rfl eh0 (by decide) (by decide)
    obtain ⟨rfl, N2q, eq2⟩ := hQ2
    have N2 := Fr.app N0 N2q
    refine ogo st2 ?_
    show OWay p e below G T2 (mkF m 12 #[.val (.int p0), .val (.int (0 : Int32)), .unset, .unset, .unset, .unset] [(.ref e0)])
    refine ogo (fun _ z_ => XS.astoreN X2.here hx rfl (hb hby at_12) rfl rfl (l' := #[.val (.int p0), .val (.int (0 : Int32)), .val (.ref e0), .unset, .unset, .unset]) rfl z_) ?_
    show OWay p e below G T2 (mkF m 13 #[.val (.int p0), .val (.int (0 : Int32)), .val (.ref e0), .unset, .unset, .unset] [])
    refine ogo (fun _ z_ => XS.aloadN X2.here hx rfl (hb hby at_13) rfl rfl z_) ?_
    show OWay p e below G T2 (mkF m 14 #[.val (.int p0), .val (.int (0 : Int32)), .val (.ref e0), .unset, .unset, .unset] [(.ref e0)])
    obtain ⟨_, T3, L3, X3, hQ3, st3⟩ := wVirtual X2 hx hZ (y := (⟨"com/example/stockwire/stockwire/codec/Envelope$Part", "opens", "()Z"⟩ : MethodName)) (z := (⟨"com/example/stockwire/stockwire/codec/Envelope$Part", "opens", "()Z"⟩ : MethodName)) hown (hw _ (List.mem_of_getElem? (i := 8) rfl)) (hw _ (List.mem_of_getElem? (i := 9) rfl)) (notFace_of_selects (args := #[]) (mvT hZ (hw _ (List.mem_of_getElem? (i := 11) rfl)))) (hw _ (List.mem_of_getElem? (i := 11) rfl)) (hw _ (List.mem_of_getElem? (i := 10) rfl)) (hw _ (List.mem_of_getElem? (i := 6) rfl)) (hw _ (List.mem_of_getElem? (i := 12) rfl)) (by decide) (opens0_c l Z az hw [] e0 h0 n0 Z0 hp2 hp1) 0 (by decide) (by decide) (hp3.ext hp1.2) (g := (mkF m 14 #[.val (.int p0), .val (.int (0 : Int32)), .val (.ref e0), .unset, .unset, .unset] [(.ref e0)])) rfl (by rw [hml]; rfl) (argsL := []) (rest := []) (lenOf pd___Z rfl) rfl (by show 2 * 0 + _ ≤ _; exact Nat.le_of_eq rfl) (hb hby at_14) rfl eq2 (by decide) (by decide)
    obtain ⟨rfl, N3q, eq3⟩ := hQ3
    have N3 := Fr.app N2 N3q
    refine ogoS st3 ?_
    show OWay p e below G T3 (mkF m 17 #[.val (.int p0), .val (.int (0 : Int32)), .val (.ref e0), .unset, .unset, .unset] [(.int (1 : Int32))])
    refine ogo (fun _ z_ => XS.istoreN X3.here hx rfl (hb hby at_17) rfl (l' := #[.val (.int p0), .val (.int (0 : Int32)), .val (.ref e0), .val (.int (1 : Int32)), .unset, .unset]) rfl z_) ?_
    show OWay p e below G T3 (mkF m 18 #[.val (.int p0), .val (.int (0 : Int32)), .val (.ref e0), .val (.int (1 : Int32)), .unset, .unset] [])
    refine ogo (fun _ z_ => XS.aloadN X3.here hx rfl (hb hby at_18) rfl rfl z_) ?_
    show OWay p e below G T3 (mkF m 19 #[.val (.int p0), .val (.int (0 : Int32)), .val (.ref e0), .val (.int (1 : Int32)), .unset, .unset] [(.ref e0)])
    obtain ⟨_, T4, L4, X4, hQ4, st4⟩ := wVirtual X3 hx hZ (y := (⟨"com/example/stockwire/stockwire/codec/Envelope$Part", "id", "()Ljava/lang/String;"⟩ : MethodName)) (z := (⟨"com/example/stockwire/stockwire/codec/Envelope$Part", "id", "()Ljava/lang/String;"⟩ : MethodName)) hown (hw _ (List.mem_of_getElem? (i := 14) rfl)) (hw _ (List.mem_of_getElem? (i := 15) rfl)) (notFace_of_selects (args := #[]) (mvT hZ (hw _ (List.mem_of_getElem? (i := 17) rfl)))) (hw _ (List.mem_of_getElem? (i := 17) rfl)) (hw _ (List.mem_of_getElem? (i := 16) rfl)) (hw _ (List.mem_of_getElem? (i := 6) rfl)) (hw _ (List.mem_of_getElem? (i := 18) rfl)) (by decide) (get3_c l Z az hw [] e0 s0 h0 n0 Z0 (hp4.ext hp1.2)) 0 (by decide) (by decide) (hp3.ext hp1.2) (g := (mkF m 19 #[.val (.int p0), .val (.int (0 : Int32)), .val (.ref e0), .val (.int (1 : Int32)), .unset, .unset] [(.ref e0)])) rfl (by rw [hml]; rfl) (argsL := []) (rest := []) (lenOf pd___Ljava_lang_String_ rfl) rfl (by show 2 * 0 + _ ≤ _; exact Nat.le_of_eq rfl) (hb hby at_19) rfl eq3 (by decide) (by decide)
    obtain ⟨rfl, N4q, eq4⟩ := hQ4
    have N4 := Fr.app N3 N4q
    refine ogoS st4 ?_
    show OWay p e below G T4 (mkF m 22 #[.val (.int p0), .val (.int (0 : Int32)), .val (.ref e0), .val (.int (1 : Int32)), .unset, .unset] [(.ref s0)])
    refine ogo (fun _ z_ => XS.astore X4.here hx rfl (hb hby at_22) rfl rfl (l' := #[.val (.int p0), .val (.int (0 : Int32)), .val (.ref e0), .val (.int (1 : Int32)), .val (.ref s0), .unset]) rfl z_) ?_
    show OWay p e below G T4 (mkF m 24 #[.val (.int p0), .val (.int (0 : Int32)), .val (.ref e0), .val (.int (1 : Int32)), .val (.ref s0), .unset] [])
    refine ogo (fun _ z_ => XS.aload X4.here hx rfl (hb hby at_24) rfl rfl z_) ?_
    show OWay p e below G T4 (mkF m 26 #[.val (.int p0), .val (.int (0 : Int32)), .val (.ref e0), .val (.int (1 : Int32)), .val (.ref s0), .unset] [(.ref s0)])
    have I0 : IB Z s.vm [] := by rw [hU0]; exact IB.start
    obtain ⟨a5, T5, h5, k5, b5, kc5, X5, eT5, E5, hS5, hk5, hZ5, hown5, Ex5, Co5, Va5, Ar5, la5, lb5, IB5, st5⟩ := ldcSV (s := s) (vm0 := s.vm) (Z := Z) (Ts := []) X4 hx hZ hown (hw _ (List.mem_of_getElem? (i := 21) rfl)) (own_wS hw) eq4 hS0 hk0 (by rw [hh0, ← hn0]; exact N4) (fun b cl q => by rw [hU0]; exact q) I0 (by decide) hh43 hcw (vs := [(.int (77 : Int32)), (.int (83 : Int32)), (.int (72 : Int32))]) (z := (3 : Int32)) ⟨by decide, by decide⟩ (by decide) (by decide) (g := (mkF m 26 #[.val (.int p0), .val (.int (0 : Int32)), .val (.ref e0), .val (.int (1 : Int32)), .val (.ref s0), .unset] [(.ref s0)])) rfl (hb hby at_26) (n := 12) (by decide) (by decide) (by decide) (by decide)
    have hZ := hZ5
    have hown := hown5
    have K6 : Keep h0 h5 [] := K0.ext E5
    refine ogo st5 ?_
    show OWay p e below G T5 (mkF m 28 #[.val (.int p0), .val (.int (0 : Int32)), .val (.ref e0), .val (.int (1 : Int32)), .val (.ref s0), .unset] [(.ref a5), (.ref s0)])
    have F8 : Old Z n0 h5 := (hp1.ext E5)
    have hwe : ∀ d ∈ StrChars.Road.wordsEq, d.before az Z = true := fun d hd => hw d ((by decide +kernel : ∀ d ∈ StrChars.Road.wordsEq, d ∈ tables_1) d hd)
    obtain ⟨cq7, kq7, q7a, q7b, q7c⟩ := isOf hZ eT5 (hp5.ext F8.2)
    obtain ⟨v7, _, ⟨T7, L7, k7, n7⟩, -, X7, ⟨Lc7, hQ7, l7, y7, z7⟩, st7⟩ := X5.virtualBack hx (y := (⟨"java/lang/String", "equals", "(Ljava/lang/Object;)Z"⟩ : MethodName)) (z := (⟨"java/lang/String", "equals", "(Ljava/lang/Object;)Z"⟩ : MethodName)) hown (mvT hZ (hw _ (List.mem_of_getElem? (i := 29) rfl))) (mvT hZ (hw _ (List.mem_of_getElem? (i := 30) rfl))) (notFace_of_selects (args := #[]) (mvT hZ (hw _ (List.mem_of_getElem? (i := 32) rfl)))) (mvT hZ (hw _ (List.mem_of_getElem? (i := 32) rfl))) (mvT hZ (hw _ (List.mem_of_getElem? (i := 31) rfl))) (by decide) (StrChars.Road.eqW (W := 0) hZ hwe (kI := 4) (hw _ (List.mem_of_getElem? (i := 23) rfl)) (hp5.ext F8.2) (hp7.ext F8.2) (hp6.ext F8.2) (hp8.ext F8.2) (show StrChars.Road.CodA [77, 83, 72] 0 (3 : Int32) [(.int (77 : Int32)), (.int (83 : Int32)), (.int (72 : Int32))] from Or.inl ⟨rfl, by decide, by decide, by decide⟩) (by decide) (by decide) Ex5 Va5 Co5 Ar5 (show StrChars.Road.CodA [77, 83, 72] 0 (3 : Int32) [(.int (77 : Int32)), (.int (83 : Int32)), (.int (72 : Int32))] from Or.inl ⟨rfl, by decide, by decide, by decide⟩) (by decide) (by decide) (hp0.ext F8.2) hcp (by decide) (by decide)) q7a q7c (g := (mkF m 28 #[.val (.int p0), .val (.int (0 : Int32)), .val (.ref e0), .val (.int (1 : Int32)), .val (.ref s0), .unset] [(.ref a5), (.ref s0)])) rfl (by rw [hml]; rfl) (Steps.refl _) (argsL := [(.ref a5)]) (rest := []) (lenOf pd__Ljava_lang_Object__Z rfl) rfl (by show 2 * 0 + _ ≤ _; exact Nat.le_of_eq rfl) (hb hby at_28) (fun _ _ => ⟨rfl, eT5, (by decide : 2 + 0 ≤ room_1.cells), (by decide : 16 + 0 ≤ room_1.slots)⟩)
    dsimp only [Pt.U, Pt.locs, Pt.cells, Pt.slots] at X7 l7 y7 z7 st7 hQ7
    subst l7 y7 z7
    obtain ⟨hv7, rfl, eq7⟩ := hQ7
    obtain rfl : v7 = some (.int (1 : Int32)) := hv7.elim And.left (fun q => absurd rfl q.2)
    have N7 := Fr.app N4 (Fr.nil n0)
    refine ogoS st7 ?_
    show OWay p e below G T7 (mkF m 31 #[.val (.int p0), .val (.int (0 : Int32)), .val (.ref e0), .val (.int (1 : Int32)), .val (.ref s0), .unset] [(.int (1 : Int32))])
    refine ogo (fun _ z_ => XS.ifYes X7.here hx rfl (pc0 := 31) (pc' := 54) rfl (hb hby at_31) rfl ((if0 _ _).trans (feq (by decide)).2) (by decide) (by decide) z_) ?_
    show OWay p e below G T7 (mkF m 54 #[.val (.int p0), .val (.int (0 : Int32)), .val (.ref e0), .val (.int (1 : Int32)), .val (.ref s0), .unset] [])
    refine ogo (fun _ z_ => XS.iconst X7.here hx rfl (hb hby at_54) z_) ?_
    show OWay p e below G T7 (mkF m 55 #[.val (.int p0), .val (.int (0 : Int32)), .val (.ref e0), .val (.int (1 : Int32)), .val (.ref s0), .unset] [(.int (1 : Int32))])
    refine ogo (fun _ z_ => XS.goto X7.here hx rfl (pc0 := 55) (pc' := 59) rfl (hb hby at_55) (by decide) (by decide) z_) ?_
    show OWay p e below G T7 (mkF m 59 #[.val (.int p0), .val (.int (0 : Int32)), .val (.ref e0), .val (.int (1 : Int32)), .val (.ref s0), .unset] [(.int (1 : Int32))])
    refine ogo (fun _ z_ => XS.istore X7.here hx rfl (hb hby at_59) rfl (l' := #[.val (.int p0), .val (.int (0 : Int32)), .val (.ref e0), .val (.int (1 : Int32)), .val (.ref s0), .val (.int (1 : Int32))]) rfl z_) ?_
    show OWay p e below G T7 (mkF m 61 #[.val (.int p0), .val (.int (0 : Int32)), .val (.ref e0), .val (.int (1 : Int32)), .val (.ref s0), .val (.int (1 : Int32))] [])
    refine ogo (fun _ z_ => XS.iloadN X7.here hx rfl (hb hby at_61) rfl z_) ?_
    show OWay p e below G T7 (mkF m 62 #[.val (.int p0), .val (.int (0 : Int32)), .val (.ref e0), .val (.int (1 : Int32)), .val (.ref s0), .val (.int (1 : Int32))] [(.int (1 : Int32))])
    refine ogo (fun _ z_ => XS.iloadN X7.here hx rfl (hb hby at_62) rfl z_) ?_
    show OWay p e below G T7 (mkF m 63 #[.val (.int p0), .val (.int (0 : Int32)), .val (.ref e0), .val (.int (1 : Int32)), .val (.ref s0), .val (.int (1 : Int32))] [(.int (0 : Int32)), (.int (1 : Int32))])
    refine ogo (fun _ z_ => XS.iconst X7.here hx rfl (hb hby at_63) z_) ?_
    show OWay p e below G T7 (mkF m 64 #[.val (.int p0), .val (.int (0 : Int32)), .val (.ref e0), .val (.int (1 : Int32)), .val (.ref s0), .val (.int (1 : Int32))] [(.int (3 : Int32)), (.int (0 : Int32)), (.int (1 : Int32))])
    refine ogo (fun _ z_ => XS.icmpNo X7.here hx rfl (hb hby at_64) rfl (tlt (by decide)).2.1 z_) ?_
    show OWay p e below G T7 (mkF m 67 #[.val (.int p0), .val (.int (0 : Int32)), .val (.ref e0), .val (.int (1 : Int32)), .val (.ref s0), .val (.int (1 : Int32))] [(.int (1 : Int32))])
    refine ogo (fun _ z_ => XS.iconst X7.here hx rfl (hb hby at_67) z_) ?_
    show OWay p e below G T7 (mkF m 68 #[.val (.int p0), .val (.int (0 : Int32)), .val (.ref e0), .val (.int (1 : Int32)), .val (.ref s0), .val (.int (1 : Int32))] [(.int (1 : Int32)), (.int (1 : Int32))])
    refine ogo (fun _ z_ => XS.goto X7.here hx rfl (pc0 := 68) (pc' := 72) rfl (hb hby at_68) (by decide) (by decide) z_) ?_
    show OWay p e below G T7 (mkF m 72 #[.val (.int p0), .val (.int (0 : Int32)), .val (.ref e0), .val (.int (1 : Int32)), .val (.ref s0), .val (.int (1 : Int32))] [(.int (1 : Int32)), (.int (1 : Int32))])
    refine ogo (fun _ z_ => XS.icmpNo X7.here hx rfl (hb hby at_72) rfl (teq rfl).2 z_) ?_
    show OWay p e below G T7 (mkF m 75 #[.val (.int p0), .val (.int (0 : Int32)), .val (.ref e0), .val (.int (1 : Int32)), .val (.ref s0), .val (.int (1 : Int32))] [])
    refine ogo (fun _ z_ => XS.iloadN X7.here hx rfl (hb hby at_75) rfl z_) ?_
    show OWay p e below G T7 (mkF m 76 #[.val (.int p0), .val (.int (0 : Int32)), .val (.ref e0), .val (.int (1 : Int32)), .val (.ref s0), .val (.int (1 : Int32))] [(.int (1 : Int32))])
    refine ogo (fun _ z_ => XS.iload X7.here hx rfl (hb hby at_76) rfl z_) ?_
    show OWay p e below G T7 (mkF m 78 #[.val (.int p0), .val (.int (0 : Int32)), .val (.ref e0), .val (.int (1 : Int32)), .val (.ref s0), .val (.int (1 : Int32))] [(.int (1 : Int32)), (.int (1 : Int32))])
    refine ogo (fun _ z_ => XS.icmpNo X7.here hx rfl (hb hby at_78) rfl (teq rfl).2 z_) ?_
    show OWay p e below G T7 (mkF m 81 #[.val (.int p0), .val (.int (0 : Int32)), .val (.ref e0), .val (.int (1 : Int32)), .val (.ref s0), .val (.int (1 : Int32))] [])
    refine ogo (fun _ z_ => XS.iconst X7.here hx rfl (hb hby at_81) z_) ?_
    show OWay p e below G T7 (mkF m 82 #[.val (.int p0), .val (.int (0 : Int32)), .val (.ref e0), .val (.int (1 : Int32)), .val (.ref s0), .val (.int (1 : Int32))] [(.int (1 : Int32))])
    refine ogo (fun _ z_ => XS.goto X7.here hx rfl (pc0 := 82) (pc' := 86) rfl (hb hby at_82) (by decide) (by decide) z_) ?_
    show OWay p e below G T7 (mkF m 86 #[.val (.int p0), .val (.int (0 : Int32)), .val (.ref e0), .val (.int (1 : Int32)), .val (.ref s0), .val (.int (1 : Int32))] [(.int (1 : Int32))])
    subst hG
    refine wRetNW (s := s) (vm0 := T5.vm) X7 hx (t := .boolean) hret hlk (by simp) (hb hby at_86) (by decide) (by decide) hS5 hk5 eq7 ?_
    exact ⟨rfl, N7⟩
  · show OWay p e below G s₁ (mkF m 8 #[.val (.int p0), .val (.int (1 : Int32)), .unset, .unset, .unset, .unset] [])
    refine ogo (fun _ z_ => XS.iloadN X0.here hx rfl (hb hby at_8) rfl z_) ?_
    show OWay p e below G s₁ (mkF m 9 #[.val (.int p0), .val (.int (1 : Int32)), .unset, .unset, .unset, .unset] [(.int (1 : Int32))])
    obtain ⟨_, T9, L9, X9, hQ9, st9⟩ := wStatic X0 hx hZ (y := (⟨"com/example/stockwire/stockwire/codec/PartOpensPinLaw", "pick", "(I)Lcom/example/stockwire/stockwire/codec/Envelope$Part;"⟩ : MethodName)) hown (hw _ (List.mem_of_getElem? (i := 1) rfl)) (hw _ (List.mem_of_getElem? (i := 2) rfl)) (hw _ (List.mem_of_getElem? (i := 3) rfl)) (hw _ (List.mem_of_getElem? (i := 4) rfl)) (by decide) (pick1_c l Z az hw [] e1 h0 n0 Z0 hp9 hp1) 0 (by decide) (by decide) (g := (mkF m 9 #[.val (.int p0), .val (.int (1 : Int32)), .unset, .unset, .unset, .unset] [(.int (1 : Int32))])) rfl (by rw [hml]; rfl) (argsL := [(.int (1 : Int32))]) (rest := []) (lenOf pd__I_Lcom_example_stockwire_stockwire_codec_Envelope_Part_ rfl) rfl (by show 2 * 0 + _ ≤ _; exact Nat.le_of_eq rfl) (hb hby at_9) rfl eh0 (by decide) (by decide)
    obtain ⟨rfl, N9q, eq9⟩ := hQ9
    have N9 := Fr.app N0 N9q
    refine ogo st9 ?_
    show OWay p e below G T9 (mkF m 12 #[.val (.int p0), .val (.int (1 : Int32)), .unset, .unset, .unset, .unset] [(.ref e1)])
    refine ogo (fun _ z_ => XS.astoreN X9.here hx rfl (hb hby at_12) rfl rfl (l' := #[.val (.int p0), .val (.int (1 : Int32)), .val (.ref e1), .unset, .unset, .unset]) rfl z_) ?_
    show OWay p e below G T9 (mkF m 13 #[.val (.int p0), .val (.int (1 : Int32)), .val (.ref e1), .unset, .unset, .unset] [])
    refine ogo (fun _ z_ => XS.aloadN X9.here hx rfl (hb hby at_13) rfl rfl z_) ?_
    show OWay p e below G T9 (mkF m 14 #[.val (.int p0), .val (.int (1 : Int32)), .val (.ref e1), .unset, .unset, .unset] [(.ref e1)])
    obtain ⟨_, T10, L10, X10, hQ10, st10⟩ := wVirtual X9 hx hZ (y := (⟨"com/example/stockwire/stockwire/codec/Envelope$Part", "opens", "()Z"⟩ : MethodName)) (z := (⟨"com/example/stockwire/stockwire/codec/Envelope$Part", "opens", "()Z"⟩ : MethodName)) hown (hw _ (List.mem_of_getElem? (i := 8) rfl)) (hw _ (List.mem_of_getElem? (i := 9) rfl)) (notFace_of_selects (args := #[]) (mvT hZ (hw _ (List.mem_of_getElem? (i := 11) rfl)))) (hw _ (List.mem_of_getElem? (i := 11) rfl)) (hw _ (List.mem_of_getElem? (i := 10) rfl)) (hw _ (List.mem_of_getElem? (i := 6) rfl)) (hw _ (List.mem_of_getElem? (i := 12) rfl)) (by decide) (opens1_c l Z az hw [] e1 e0 h0 n0 Z0 hp2 hp9 hp44 hp1) 0 (by decide) (by decide) (hp10.ext hp1.2) (g := (mkF m 14 #[.val (.int p0), .val (.int (1 : Int32)), .val (.ref e1), .unset, .unset, .unset] [(.ref e1)])) rfl (by rw [hml]; rfl) (argsL := []) (rest := []) (lenOf pd___Z rfl) rfl (by show 2 * 0 + _ ≤ _; exact Nat.le_of_eq rfl) (hb hby at_14) rfl eq9 (by decide) (by decide)
    obtain ⟨rfl, N10q, eq10⟩ := hQ10
    have N10 := Fr.app N9 N10q
    refine ogoS st10 ?_
    show OWay p e below G T10 (mkF m 17 #[.val (.int p0), .val (.int (1 : Int32)), .val (.ref e1), .unset, .unset, .unset] [(.int (1 : Int32))])
    refine ogo (fun _ z_ => XS.istoreN X10.here hx rfl (hb hby at_17) rfl (l' := #[.val (.int p0), .val (.int (1 : Int32)), .val (.ref e1), .val (.int (1 : Int32)), .unset, .unset]) rfl z_) ?_
    show OWay p e below G T10 (mkF m 18 #[.val (.int p0), .val (.int (1 : Int32)), .val (.ref e1), .val (.int (1 : Int32)), .unset, .unset] [])
    refine ogo (fun _ z_ => XS.aloadN X10.here hx rfl (hb hby at_18) rfl rfl z_) ?_
    show OWay p e below G T10 (mkF m 19 #[.val (.int p0), .val (.int (1 : Int32)), .val (.ref e1), .val (.int (1 : Int32)), .unset, .unset] [(.ref e1)])
    obtain ⟨_, T11, L11, X11, hQ11, st11⟩ := wVirtual X10 hx hZ (y := (⟨"com/example/stockwire/stockwire/codec/Envelope$Part", "id", "()Ljava/lang/String;"⟩ : MethodName)) (z := (⟨"com/example/stockwire/stockwire/codec/Envelope$Part", "id", "()Ljava/lang/String;"⟩ : MethodName)) hown (hw _ (List.mem_of_getElem? (i := 14) rfl)) (hw _ (List.mem_of_getElem? (i := 15) rfl)) (notFace_of_selects (args := #[]) (mvT hZ (hw _ (List.mem_of_getElem? (i := 17) rfl)))) (hw _ (List.mem_of_getElem? (i := 17) rfl)) (hw _ (List.mem_of_getElem? (i := 16) rfl)) (hw _ (List.mem_of_getElem? (i := 6) rfl)) (hw _ (List.mem_of_getElem? (i := 18) rfl)) (by decide) (get3_c l Z az hw [] e1 s1 h0 n0 Z0 (hp11.ext hp1.2)) 0 (by decide) (by decide) (hp10.ext hp1.2) (g := (mkF m 19 #[.val (.int p0), .val (.int (1 : Int32)), .val (.ref e1), .val (.int (1 : Int32)), .unset, .unset] [(.ref e1)])) rfl (by rw [hml]; rfl) (argsL := []) (rest := []) (lenOf pd___Ljava_lang_String_ rfl) rfl (by show 2 * 0 + _ ≤ _; exact Nat.le_of_eq rfl) (hb hby at_19) rfl eq10 (by decide) (by decide)
    obtain ⟨rfl, N11q, eq11⟩ := hQ11
    have N11 := Fr.app N10 N11q
    refine ogoS st11 ?_
    show OWay p e below G T11 (mkF m 22 #[.val (.int p0), .val (.int (1 : Int32)), .val (.ref e1), .val (.int (1 : Int32)), .unset, .unset] [(.ref s1)])
    refine ogo (fun _ z_ => XS.astore X11.here hx rfl (hb hby at_22) rfl rfl (l' := #[.val (.int p0), .val (.int (1 : Int32)), .val (.ref e1), .val (.int (1 : Int32)), .val (.ref s1), .unset]) rfl z_) ?_
    show OWay p e below G T11 (mkF m 24 #[.val (.int p0), .val (.int (1 : Int32)), .val (.ref e1), .val (.int (1 : Int32)), .val (.ref s1), .unset] [])
    refine ogo (fun _ z_ => XS.aload X11.here hx rfl (hb hby at_24) rfl rfl z_) ?_
    show OWay p e below G T11 (mkF m 26 #[.val (.int p0), .val (.int (1 : Int32)), .val (.ref e1), .val (.int (1 : Int32)), .val (.ref s1), .unset] [(.ref s1)])
    have I0 : IB Z s.vm [] := by rw [hU0]; exact IB.start
    obtain ⟨a12, T12, h12, k12, b12, kc12, X12, eT12, E12, hS12, hk12, hZ12, hown12, Ex12, Co12, Va12, Ar12, la12, lb12, IB12, st12⟩ := ldcSV (s := s) (vm0 := s.vm) (Z := Z) (Ts := []) X11 hx hZ hown (hw _ (List.mem_of_getElem? (i := 21) rfl)) (own_wS hw) eq11 hS0 hk0 (by rw [hh0, ← hn0]; exact N11) (fun b cl q => by rw [hU0]; exact q) I0 (by decide) hh43 hcw (vs := [(.int (77 : Int32)), (.int (83 : Int32)), (.int (72 : Int32))]) (z := (3 : Int32)) ⟨by decide, by decide⟩ (by decide) (by decide) (g := (mkF m 26 #[.val (.int p0), .val (.int (1 : Int32)), .val (.ref e1), .val (.int (1 : Int32)), .val (.ref s1), .unset] [(.ref s1)])) rfl (hb hby at_26) (n := 12) (by decide) (by decide) (by decide) (by decide)
    have hZ := hZ12
    have hown := hown12
    have K13 : Keep h0 h12 [] := K0.ext E12
    refine ogo st12 ?_
    show OWay p e below G T12 (mkF m 28 #[.val (.int p0), .val (.int (1 : Int32)), .val (.ref e1), .val (.int (1 : Int32)), .val (.ref s1), .unset] [(.ref a12), (.ref s1)])
    have F15 : Old Z n0 h12 := (hp1.ext E12)
    have hwe : ∀ d ∈ StrChars.Road.wordsEq, d.before az Z = true := fun d hd => hw d ((by decide +kernel : ∀ d ∈ StrChars.Road.wordsEq, d ∈ tables_1) d hd)
    obtain ⟨cq14, kq14, q14a, q14b, q14c⟩ := isOf hZ eT12 (hp12.ext F15.2)
    obtain ⟨v14, _, ⟨T14, L14, k14, n14⟩, -, X14, ⟨Lc14, hQ14, l14, y14, z14⟩, st14⟩ := X12.virtualBack hx (y := (⟨"java/lang/String", "equals", "(Ljava/lang/Object;)Z"⟩ : MethodName)) (z := (⟨"java/lang/String", "equals", "(Ljava/lang/Object;)Z"⟩ : MethodName)) hown (mvT hZ (hw _ (List.mem_of_getElem? (i := 29) rfl))) (mvT hZ (hw _ (List.mem_of_getElem? (i := 30) rfl))) (notFace_of_selects (args := #[]) (mvT hZ (hw _ (List.mem_of_getElem? (i := 32) rfl)))) (mvT hZ (hw _ (List.mem_of_getElem? (i := 32) rfl))) (mvT hZ (hw _ (List.mem_of_getElem? (i := 31) rfl))) (by decide) (StrChars.Road.eqW (W := 0) hZ hwe (kI := 4) (hw _ (List.mem_of_getElem? (i := 23) rfl)) (hp12.ext F15.2) (hp14.ext F15.2) (hp13.ext F15.2) (hp15.ext F15.2) (show StrChars.Road.CodA [70, 72, 83] 0 (3 : Int32) [(.int (70 : Int32)), (.int (72 : Int32)), (.int (83 : Int32))] from Or.inl ⟨rfl, by decide, by decide, by decide⟩) (by decide) (by decide) Ex12 Va12 Co12 Ar12 (show StrChars.Road.CodA [77, 83, 72] 0 (3 : Int32) [(.int (77 : Int32)), (.int (83 : Int32)), (.int (72 : Int32))] from Or.inl ⟨rfl, by decide, by decide, by decide⟩) (by decide) (by decide) (hp0.ext F15.2) hcp (by decide) (by decide)) q14a q14c (g := (mkF m 28 #[.val (.int p0), .val (.int (1 : Int32)), .val (.ref e1), .val (.int (1 : Int32)), .val (.ref s1), .unset] [(.ref a12), (.ref s1)])) rfl (by rw [hml]; rfl) (Steps.refl _) (argsL := [(.ref a12)]) (rest := []) (lenOf pd__Ljava_lang_Object__Z rfl) rfl (by show 2 * 0 + _ ≤ _; exact Nat.le_of_eq rfl) (hb hby at_28) (fun _ _ => ⟨rfl, eT12, (by decide : 2 + 0 ≤ room_1.cells), (by decide : 16 + 0 ≤ room_1.slots)⟩)
    dsimp only [Pt.U, Pt.locs, Pt.cells, Pt.slots] at X14 l14 y14 z14 st14 hQ14
    subst l14 y14 z14
    obtain ⟨hv14, rfl, eq14⟩ := hQ14
    obtain rfl : v14 = some (.int (0 : Int32)) := hv14.elim (fun q => absurd q.2 (by decide)) And.left
    have N14 := Fr.app N11 (Fr.nil n0)
    refine ogoS st14 ?_
    show OWay p e below G T14 (mkF m 31 #[.val (.int p0), .val (.int (1 : Int32)), .val (.ref e1), .val (.int (1 : Int32)), .val (.ref s1), .unset] [(.int (0 : Int32))])
    refine ogo (fun _ z_ => XS.ifNo X14.here hx rfl (hb hby at_31) rfl ((if0 _ _).trans (teq rfl).2) z_) ?_
    show OWay p e below G T14 (mkF m 34 #[.val (.int p0), .val (.int (1 : Int32)), .val (.ref e1), .val (.int (1 : Int32)), .val (.ref s1), .unset] [])
    refine ogo (fun _ z_ => XS.aload X14.here hx rfl (hb hby at_34) rfl rfl z_) ?_
    show OWay p e below G T14 (mkF m 36 #[.val (.int p0), .val (.int (1 : Int32)), .val (.ref e1), .val (.int (1 : Int32)), .val (.ref s1), .unset] [(.ref s1)])
    obtain ⟨a16, T16, h16, k16, b16, kc16, X16, eT16, E16, hS16, hk16, hZ16, hown16, Ex16, Co16, Va16, Ar16, la16, lb16, IB16, st16⟩ := ldcSV (s := s) (vm0 := T12.vm) (Z := Z) (Ts := ["MSH"]) X14 hx hZ hown (hw _ (List.mem_of_getElem? (i := 49) rfl)) (own_wS hw) eq14 hS12 hk12 (by rw [hh0, ← hn0]; exact N14) (fun b cl q => by rw [hU0]; exact q) IB12 (by decide) hh51 hcw (vs := [(.int (70 : Int32)), (.int (72 : Int32)), (.int (83 : Int32))]) (z := (3 : Int32)) ⟨by decide, by decide⟩ (by decide) (by decide) (g := (mkF m 36 #[.val (.int p0), .val (.int (1 : Int32)), .val (.ref e1), .val (.int (1 : Int32)), .val (.ref s1), .unset] [(.ref s1)])) rfl (hb hby at_36) (n := 12) (by decide) (by decide) (by decide) (by decide)
    have hZ := hZ16
    have hown := hown16
    have K17 : Keep h0 h16 [] := K13.ext E16
    refine ogo st16 ?_
    show OWay p e below G T16 (mkF m 38 #[.val (.int p0), .val (.int (1 : Int32)), .val (.ref e1), .val (.int (1 : Int32)), .val (.ref s1), .unset] [(.ref a16), (.ref s1)])
    have F19 : Old Z n0 h16 := (F15.ext E16)
    have hwe : ∀ d ∈ StrChars.Road.wordsEq, d.before az Z = true := fun d hd => hw d ((by decide +kernel : ∀ d ∈ StrChars.Road.wordsEq, d ∈ tables_1) d hd)
    obtain ⟨cq18, kq18, q18a, q18b, q18c⟩ := isOf hZ eT16 (hp12.ext F19.2)
    obtain ⟨v18, _, ⟨T18, L18, k18, n18⟩, -, X18, ⟨Lc18, hQ18, l18, y18, z18⟩, st18⟩ := X16.virtualBack hx (y := (⟨"java/lang/String", "equals", "(Ljava/lang/Object;)Z"⟩ : MethodName)) (z := (⟨"java/lang/String", "equals", "(Ljava/lang/Object;)Z"⟩ : MethodName)) hown (mvT hZ (hw _ (List.mem_of_getElem? (i := 29) rfl))) (mvT hZ (hw _ (List.mem_of_getElem? (i := 30) rfl))) (notFace_of_selects (args := #[]) (mvT hZ (hw _ (List.mem_of_getElem? (i := 32) rfl)))) (mvT hZ (hw _ (List.mem_of_getElem? (i := 32) rfl))) (mvT hZ (hw _ (List.mem_of_getElem? (i := 31) rfl))) (by decide) (StrChars.Road.eqW (W := 0) hZ hwe (kI := 4) (hw _ (List.mem_of_getElem? (i := 23) rfl)) (hp12.ext F19.2) (hp14.ext F19.2) (hp13.ext F19.2) (hp15.ext F19.2) (show StrChars.Road.CodA [70, 72, 83] 0 (3 : Int32) [(.int (70 : Int32)), (.int (72 : Int32)), (.int (83 : Int32))] from Or.inl ⟨rfl, by decide, by decide, by decide⟩) (by decide) (by decide) Ex16 Va16 Co16 Ar16 (show StrChars.Road.CodA [70, 72, 83] 0 (3 : Int32) [(.int (70 : Int32)), (.int (72 : Int32)), (.int (83 : Int32))] from Or.inl ⟨rfl, by decide, by decide, by decide⟩) (by decide) (by decide) (hp0.ext F19.2) hcp (by decide) (by decide)) q18a q18c (g := (mkF m 38 #[.val (.int p0), .val (.int (1 : Int32)), .val (.ref e1), .val (.int (1 : Int32)), .val (.ref s1), .unset] [(.ref a16), (.ref s1)])) rfl (by rw [hml]; rfl) (Steps.refl _) (argsL := [(.ref a16)]) (rest := []) (lenOf pd__Ljava_lang_Object__Z rfl) rfl (by show 2 * 0 + _ ≤ _; exact Nat.le_of_eq rfl) (hb hby at_38) (fun _ _ => ⟨rfl, eT16, (by decide : 4 + 0 ≤ room_1.cells), (by decide : 32 + 0 ≤ room_1.slots)⟩)
    dsimp only [Pt.U, Pt.locs, Pt.cells, Pt.slots] at X18 l18 y18 z18 st18 hQ18
    subst l18 y18 z18
    obtain ⟨hv18, rfl, eq18⟩ := hQ18
    obtain rfl : v18 = some (.int (1 : Int32)) := hv18.elim And.left (fun q => absurd rfl q.2)
    have N18 := Fr.app N14 (Fr.nil n0)
    refine ogoS st18 ?_
    show OWay p e below G T18 (mkF m 41 #[.val (.int p0), .val (.int (1 : Int32)), .val (.ref e1), .val (.int (1 : Int32)), .val (.ref s1), .unset] [(.int (1 : Int32))])
    refine ogo (fun _ z_ => XS.ifYes X18.here hx rfl (pc0 := 41) (pc' := 54) rfl (hb hby at_41) rfl ((if0 _ _).trans (feq (by decide)).2) (by decide) (by decide) z_) ?_
    show OWay p e below G T18 (mkF m 54 #[.val (.int p0), .val (.int (1 : Int32)), .val (.ref e1), .val (.int (1 : Int32)), .val (.ref s1), .unset] [])
    refine ogo (fun _ z_ => XS.iconst X18.here hx rfl (hb hby at_54) z_) ?_
    show OWay p e below G T18 (mkF m 55 #[.val (.int p0), .val (.int (1 : Int32)), .val (.ref e1), .val (.int (1 : Int32)), .val (.ref s1), .unset] [(.int (1 : Int32))])
    refine ogo (fun _ z_ => XS.goto X18.here hx rfl (pc0 := 55) (pc' := 59) rfl (hb hby at_55) (by decide) (by decide) z_) ?_
    show OWay p e below G T18 (mkF m 59 #[.val (.int p0), .val (.int (1 : Int32)), .val (.ref e1), .val (.int (1 : Int32)), .val (.ref s1), .unset] [(.int (1 : Int32))])
    refine ogo (fun _ z_ => XS.istore X18.here hx rfl (hb hby at_59) rfl (l' := #[.val (.int p0), .val (.int (1 : Int32)), .val (.ref e1), .val (.int (1 : Int32)), .val (.ref s1), .val (.int (1 : Int32))]) rfl z_) ?_
    show OWay p e below G T18 (mkF m 61 #[.val (.int p0), .val (.int (1 : Int32)), .val (.ref e1), .val (.int (1 : Int32)), .val (.ref s1), .val (.int (1 : Int32))] [])
    refine ogo (fun _ z_ => XS.iloadN X18.here hx rfl (hb hby at_61) rfl z_) ?_
    show OWay p e below G T18 (mkF m 62 #[.val (.int p0), .val (.int (1 : Int32)), .val (.ref e1), .val (.int (1 : Int32)), .val (.ref s1), .val (.int (1 : Int32))] [(.int (1 : Int32))])
    refine ogo (fun _ z_ => XS.iloadN X18.here hx rfl (hb hby at_62) rfl z_) ?_
    show OWay p e below G T18 (mkF m 63 #[.val (.int p0), .val (.int (1 : Int32)), .val (.ref e1), .val (.int (1 : Int32)), .val (.ref s1), .val (.int (1 : Int32))] [(.int (1 : Int32)), (.int (1 : Int32))])
    refine ogo (fun _ z_ => XS.iconst X18.here hx rfl (hb hby at_63) z_) ?_
    show OWay p e below G T18 (mkF m 64 #[.val (.int p0), .val (.int (1 : Int32)), .val (.ref e1), .val (.int (1 : Int32)), .val (.ref s1), .val (.int (1 : Int32))] [(.int (3 : Int32)), (.int (1 : Int32)), (.int (1 : Int32))])
    refine ogo (fun _ z_ => XS.icmpNo X18.here hx rfl (hb hby at_64) rfl (tlt (by decide)).2.1 z_) ?_
    show OWay p e below G T18 (mkF m 67 #[.val (.int p0), .val (.int (1 : Int32)), .val (.ref e1), .val (.int (1 : Int32)), .val (.ref s1), .val (.int (1 : Int32))] [(.int (1 : Int32))])
    refine ogo (fun _ z_ => XS.iconst X18.here hx rfl (hb hby at_67) z_) ?_
    show OWay p e below G T18 (mkF m 68 #[.val (.int p0), .val (.int (1 : Int32)), .val (.ref e1), .val (.int (1 : Int32)), .val (.ref s1), .val (.int (1 : Int32))] [(.int (1 : Int32)), (.int (1 : Int32))])
    refine ogo (fun _ z_ => XS.goto X18.here hx rfl (pc0 := 68) (pc' := 72) rfl (hb hby at_68) (by decide) (by decide) z_) ?_
    show OWay p e below G T18 (mkF m 72 #[.val (.int p0), .val (.int (1 : Int32)), .val (.ref e1), .val (.int (1 : Int32)), .val (.ref s1), .val (.int (1 : Int32))] [(.int (1 : Int32)), (.int (1 : Int32))])
    refine ogo (fun _ z_ => XS.icmpNo X18.here hx rfl (hb hby at_72) rfl (teq rfl).2 z_) ?_
    show OWay p e below G T18 (mkF m 75 #[.val (.int p0), .val (.int (1 : Int32)), .val (.ref e1), .val (.int (1 : Int32)), .val (.ref s1), .val (.int (1 : Int32))] [])
    refine ogo (fun _ z_ => XS.iloadN X18.here hx rfl (hb hby at_75) rfl z_) ?_
    show OWay p e below G T18 (mkF m 76 #[.val (.int p0), .val (.int (1 : Int32)), .val (.ref e1), .val (.int (1 : Int32)), .val (.ref s1), .val (.int (1 : Int32))] [(.int (1 : Int32))])
    refine ogo (fun _ z_ => XS.iload X18.here hx rfl (hb hby at_76) rfl z_) ?_
    show OWay p e below G T18 (mkF m 78 #[.val (.int p0), .val (.int (1 : Int32)), .val (.ref e1), .val (.int (1 : Int32)), .val (.ref s1), .val (.int (1 : Int32))] [(.int (1 : Int32)), (.int (1 : Int32))])
    refine ogo (fun _ z_ => XS.icmpNo X18.here hx rfl (hb hby at_78) rfl (teq rfl).2 z_) ?_
    show OWay p e below G T18 (mkF m 81 #[.val (.int p0), .val (.int (1 : Int32)), .val (.ref e1), .val (.int (1 : Int32)), .val (.ref s1), .val (.int (1 : Int32))] [])
    refine ogo (fun _ z_ => XS.iconst X18.here hx rfl (hb hby at_81) z_) ?_
    show OWay p e below G T18 (mkF m 82 #[.val (.int p0), .val (.int (1 : Int32)), .val (.ref e1), .val (.int (1 : Int32)), .val (.ref s1), .val (.int (1 : Int32))] [(.int (1 : Int32))])
    refine ogo (fun _ z_ => XS.goto X18.here hx rfl (pc0 := 82) (pc' := 86) rfl (hb hby at_82) (by decide) (by decide) z_) ?_
    show OWay p e below G T18 (mkF m 86 #[.val (.int p0), .val (.int (1 : Int32)), .val (.ref e1), .val (.int (1 : Int32)), .val (.ref s1), .val (.int (1 : Int32))] [(.int (1 : Int32))])
    subst hG
    refine wRetNW (s := s) (vm0 := T16.vm) X18 hx (t := .boolean) hret hlk (by simp) (hb hby at_86) (by decide) (by decide) hS16 hk16 eq18 ?_
    exact ⟨rfl, N18⟩
  · show OWay p e below G s₁ (mkF m 8 #[.val (.int p0), .val (.int (2 : Int32)), .unset, .unset, .unset, .unset] [])
    refine ogo (fun _ z_ => XS.iloadN X0.here hx rfl (hb hby at_8) rfl z_) ?_
    show OWay p e below G s₁ (mkF m 9 #[.val (.int p0), .val (.int (2 : Int32)), .unset, .unset, .unset, .unset] [(.int (2 : Int32))])
    obtain ⟨_, T20, L20, X20, hQ20, st20⟩ := wStatic X0 hx hZ (y := (⟨"com/example/stockwire/stockwire/codec/PartOpensPinLaw", "pick", "(I)Lcom/example/stockwire/stockwire/codec/Envelope$Part;"⟩ : MethodName)) hown (hw _ (List.mem_of_getElem? (i := 1) rfl)) (hw _ (List.mem_of_getElem? (i := 2) rfl)) (hw _ (List.mem_of_getElem? (i := 3) rfl)) (hw _ (List.mem_of_getElem? (i := 4) rfl)) (by decide) (pick2_c l Z az hw [] e2 h0 n0 Z0 hp16 hp1) 0 (by decide) (by decide) (g := (mkF m 9 #[.val (.int p0), .val (.int (2 : Int32)), .unset, .unset, .unset, .unset] [(.int (2 : Int32))])) rfl (by rw [hml]; rfl) (argsL := [(.int (2 : Int32))]) (rest := []) (lenOf pd__I_Lcom_example_stockwire_stockwire_codec_Envelope_Part_ rfl) rfl (by show 2 * 0 + _ ≤ _; exact Nat.le_of_eq rfl) (hb hby at_9) rfl eh0 (by decide) (by decide)
    obtain ⟨rfl, N20q, eq20⟩ := hQ20
    have N20 := Fr.app N0 N20q
    refine ogo st20 ?_
    show OWay p e below G T20 (mkF m 12 #[.val (.int p0), .val (.int (2 : Int32)), .unset, .unset, .unset, .unset] [(.ref e2)])
    refine ogo (fun _ z_ => XS.astoreN X20.here hx rfl (hb hby at_12) rfl rfl (l' := #[.val (.int p0), .val (.int (2 : Int32)), .val (.ref e2), .unset, .unset, .unset]) rfl z_) ?_
    show OWay p e below G T20 (mkF m 13 #[.val (.int p0), .val (.int (2 : Int32)), .val (.ref e2), .unset, .unset, .unset] [])
    refine ogo (fun _ z_ => XS.aloadN X20.here hx rfl (hb hby at_13) rfl rfl z_) ?_
    show OWay p e below G T20 (mkF m 14 #[.val (.int p0), .val (.int (2 : Int32)), .val (.ref e2), .unset, .unset, .unset] [(.ref e2)])
    obtain ⟨_, T21, L21, X21, hQ21, st21⟩ := wVirtual X20 hx hZ (y := (⟨"com/example/stockwire/stockwire/codec/Envelope$Part", "opens", "()Z"⟩ : MethodName)) (z := (⟨"com/example/stockwire/stockwire/codec/Envelope$Part", "opens", "()Z"⟩ : MethodName)) hown (hw _ (List.mem_of_getElem? (i := 8) rfl)) (hw _ (List.mem_of_getElem? (i := 9) rfl)) (notFace_of_selects (args := #[]) (mvT hZ (hw _ (List.mem_of_getElem? (i := 11) rfl)))) (hw _ (List.mem_of_getElem? (i := 11) rfl)) (hw _ (List.mem_of_getElem? (i := 10) rfl)) (hw _ (List.mem_of_getElem? (i := 6) rfl)) (hw _ (List.mem_of_getElem? (i := 12) rfl)) (by decide) (opens2_c l Z az hw [] e2 e0 e1 h0 n0 Z0 hp2 hp9 hp16 hp45 hp46 hp1) 0 (by decide) (by decide) (hp17.ext hp1.2) (g := (mkF m 14 #[.val (.int p0), .val (.int (2 : Int32)), .val (.ref e2), .unset, .unset, .unset] [(.ref e2)])) rfl (by rw [hml]; rfl) (argsL := []) (rest := []) (lenOf pd___Z rfl) rfl (by show 2 * 0 + _ ≤ _; exact Nat.le_of_eq rfl) (hb hby at_14) rfl eq20 (by decide) (by decide)
    obtain ⟨rfl, N21q, eq21⟩ := hQ21
    have N21 := Fr.app N20 N21q
    refine ogoS st21 ?_
    show OWay p e below G T21 (mkF m 17 #[.val (.int p0), .val (.int (2 : Int32)), .val (.ref e2), .unset, .unset, .unset] [(.int (1 : Int32))])
    refine ogo (fun _ z_ => XS.istoreN X21.here hx rfl (hb hby at_17) rfl (l' := #[.val (.int p0), .val (.int (2 : Int32)), .val (.ref e2), .val (.int (1 : Int32)), .unset, .unset]) rfl z_) ?_
    show OWay p e below G T21 (mkF m 18 #[.val (.int p0), .val (.int (2 : Int32)), .val (.ref e2), .val (.int (1 : Int32)), .unset, .unset] [])
    refine ogo (fun _ z_ => XS.aloadN X21.here hx rfl (hb hby at_18) rfl rfl z_) ?_
    show OWay p e below G T21 (mkF m 19 #[.val (.int p0), .val (.int (2 : Int32)), .val (.ref e2), .val (.int (1 : Int32)), .unset, .unset] [(.ref e2)])
    obtain ⟨_, T22, L22, X22, hQ22, st22⟩ := wVirtual X21 hx hZ (y := (⟨"com/example/stockwire/stockwire/codec/Envelope$Part", "id", "()Ljava/lang/String;"⟩ : MethodName)) (z := (⟨"com/example/stockwire/stockwire/codec/Envelope$Part", "id", "()Ljava/lang/String;"⟩ : MethodName)) hown (hw _ (List.mem_of_getElem? (i := 14) rfl)) (hw _ (List.mem_of_getElem? (i := 15) rfl)) (notFace_of_selects (args := #[]) (mvT hZ (hw _ (List.mem_of_getElem? (i := 17) rfl)))) (hw _ (List.mem_of_getElem? (i := 17) rfl)) (hw _ (List.mem_of_getElem? (i := 16) rfl)) (hw _ (List.mem_of_getElem? (i := 6) rfl)) (hw _ (List.mem_of_getElem? (i := 18) rfl)) (by decide) (get3_c l Z az hw [] e2 s2 h0 n0 Z0 (hp18.ext hp1.2)) 0 (by decide) (by decide) (hp17.ext hp1.2) (g := (mkF m 19 #[.val (.int p0), .val (.int (2 : Int32)), .val (.ref e2), .val (.int (1 : Int32)), .unset, .unset] [(.ref e2)])) rfl (by rw [hml]; rfl) (argsL := []) (rest := []) (lenOf pd___Ljava_lang_String_ rfl) rfl (by show 2 * 0 + _ ≤ _; exact Nat.le_of_eq rfl) (hb hby at_19) rfl eq21 (by decide) (by decide)
    obtain ⟨rfl, N22q, eq22⟩ := hQ22
    have N22 := Fr.app N21 N22q
    refine ogoS st22 ?_
    show OWay p e below G T22 (mkF m 22 #[.val (.int p0), .val (.int (2 : Int32)), .val (.ref e2), .val (.int (1 : Int32)), .unset, .unset] [(.ref s2)])
    refine ogo (fun _ z_ => XS.astore X22.here hx rfl (hb hby at_22) rfl rfl (l' := #[.val (.int p0), .val (.int (2 : Int32)), .val (.ref e2), .val (.int (1 : Int32)), .val (.ref s2), .unset]) rfl z_) ?_
    show OWay p e below G T22 (mkF m 24 #[.val (.int p0), .val (.int (2 : Int32)), .val (.ref e2), .val (.int (1 : Int32)), .val (.ref s2), .unset] [])
    refine ogo (fun _ z_ => XS.aload X22.here hx rfl (hb hby at_24) rfl rfl z_) ?_
    show OWay p e below G T22 (mkF m 26 #[.val (.int p0), .val (.int (2 : Int32)), .val (.ref e2), .val (.int (1 : Int32)), .val (.ref s2), .unset] [(.ref s2)])
    have I0 : IB Z s.vm [] := by rw [hU0]; exact IB.start
    obtain ⟨a23, T23, h23, k23, b23, kc23, X23, eT23, E23, hS23, hk23, hZ23, hown23, Ex23, Co23, Va23, Ar23, la23, lb23, IB23, st23⟩ := ldcSV (s := s) (vm0 := s.vm) (Z := Z) (Ts := []) X22 hx hZ hown (hw _ (List.mem_of_getElem? (i := 21) rfl)) (own_wS hw) eq22 hS0 hk0 (by rw [hh0, ← hn0]; exact N22) (fun b cl q => by rw [hU0]; exact q) I0 (by decide) hh43 hcw (vs := [(.int (77 : Int32)), (.int (83 : Int32)), (.int (72 : Int32))]) (z := (3 : Int32)) ⟨by decide, by decide⟩ (by decide) (by decide) (g := (mkF m 26 #[.val (.int p0), .val (.int (2 : Int32)), .val (.ref e2), .val (.int (1 : Int32)), .val (.ref s2), .unset] [(.ref s2)])) rfl (hb hby at_26) (n := 12) (by decide) (by decide) (by decide) (by decide)
    have hZ := hZ23
    have hown := hown23
    have K24 : Keep h0 h23 [] := K0.ext E23
    refine ogo st23 ?_
    show OWay p e below G T23 (mkF m 28 #[.val (.int p0), .val (.int (2 : Int32)), .val (.ref e2), .val (.int (1 : Int32)), .val (.ref s2), .unset] [(.ref a23), (.ref s2)])
    have F26 : Old Z n0 h23 := (hp1.ext E23)
    have hwe : ∀ d ∈ StrChars.Road.wordsEq, d.before az Z = true := fun d hd => hw d ((by decide +kernel : ∀ d ∈ StrChars.Road.wordsEq, d ∈ tables_1) d hd)
    obtain ⟨cq25, kq25, q25a, q25b, q25c⟩ := isOf hZ eT23 (hp19.ext F26.2)
    obtain ⟨v25, _, ⟨T25, L25, k25, n25⟩, -, X25, ⟨Lc25, hQ25, l25, y25, z25⟩, st25⟩ := X23.virtualBack hx (y := (⟨"java/lang/String", "equals", "(Ljava/lang/Object;)Z"⟩ : MethodName)) (z := (⟨"java/lang/String", "equals", "(Ljava/lang/Object;)Z"⟩ : MethodName)) hown (mvT hZ (hw _ (List.mem_of_getElem? (i := 29) rfl))) (mvT hZ (hw _ (List.mem_of_getElem? (i := 30) rfl))) (notFace_of_selects (args := #[]) (mvT hZ (hw _ (List.mem_of_getElem? (i := 32) rfl)))) (mvT hZ (hw _ (List.mem_of_getElem? (i := 32) rfl))) (mvT hZ (hw _ (List.mem_of_getElem? (i := 31) rfl))) (by decide) (StrChars.Road.eqW (W := 0) hZ hwe (kI := 4) (hw _ (List.mem_of_getElem? (i := 23) rfl)) (hp19.ext F26.2) (hp21.ext F26.2) (hp20.ext F26.2) (hp22.ext F26.2) (show StrChars.Road.CodA [66, 72, 83] 0 (3 : Int32) [(.int (66 : Int32)), (.int (72 : Int32)), (.int (83 : Int32))] from Or.inl ⟨rfl, by decide, by decide, by decide⟩) (by decide) (by decide) Ex23 Va23 Co23 Ar23 (show StrChars.Road.CodA [77, 83, 72] 0 (3 : Int32) [(.int (77 : Int32)), (.int (83 : Int32)), (.int (72 : Int32))] from Or.inl ⟨rfl, by decide, by decide, by decide⟩) (by decide) (by decide) (hp0.ext F26.2) hcp (by decide) (by decide)) q25a q25c (g := (mkF m 28 #[.val (.int p0), .val (.int (2 : Int32)), .val (.ref e2), .val (.int (1 : Int32)), .val (.ref s2), .unset] [(.ref a23), (.ref s2)])) rfl (by rw [hml]; rfl) (Steps.refl _) (argsL := [(.ref a23)]) (rest := []) (lenOf pd__Ljava_lang_Object__Z rfl) rfl (by show 2 * 0 + _ ≤ _; exact Nat.le_of_eq rfl) (hb hby at_28) (fun _ _ => ⟨rfl, eT23, (by decide : 2 + 0 ≤ room_1.cells), (by decide : 16 + 0 ≤ room_1.slots)⟩)
    dsimp only [Pt.U, Pt.locs, Pt.cells, Pt.slots] at X25 l25 y25 z25 st25 hQ25
    subst l25 y25 z25
    obtain ⟨hv25, rfl, eq25⟩ := hQ25
    obtain rfl : v25 = some (.int (0 : Int32)) := hv25.elim (fun q => absurd q.2 (by decide)) And.left
    have N25 := Fr.app N22 (Fr.nil n0)
    refine ogoS st25 ?_
    show OWay p e below G T25 (mkF m 31 #[.val (.int p0), .val (.int (2 : Int32)), .val (.ref e2), .val (.int (1 : Int32)), .val (.ref s2), .unset] [(.int (0 : Int32))])
    refine ogo (fun _ z_ => XS.ifNo X25.here hx rfl (hb hby at_31) rfl ((if0 _ _).trans (teq rfl).2) z_) ?_
    show OWay p e below G T25 (mkF m 34 #[.val (.int p0), .val (.int (2 : Int32)), .val (.ref e2), .val (.int (1 : Int32)), .val (.ref s2), .unset] [])
    refine ogo (fun _ z_ => XS.aload X25.here hx rfl (hb hby at_34) rfl rfl z_) ?_
    show OWay p e below G T25 (mkF m 36 #[.val (.int p0), .val (.int (2 : Int32)), .val (.ref e2), .val (.int (1 : Int32)), .val (.ref s2), .unset] [(.ref s2)])
    obtain ⟨a27, T27, h27, k27, b27, kc27, X27, eT27, E27, hS27, hk27, hZ27, hown27, Ex27, Co27, Va27, Ar27, la27, lb27, IB27, st27⟩ := ldcSV (s := s) (vm0 := T23.vm) (Z := Z) (Ts := ["MSH"]) X25 hx hZ hown (hw _ (List.mem_of_getElem? (i := 49) rfl)) (own_wS hw) eq25 hS23 hk23 (by rw [hh0, ← hn0]; exact N25) (fun b cl q => by rw [hU0]; exact q) IB23 (by decide) hh51 hcw (vs := [(.int (70 : Int32)), (.int (72 : Int32)), (.int (83 : Int32))]) (z := (3 : Int32)) ⟨by decide, by decide⟩ (by decide) (by decide) (g := (mkF m 36 #[.val (.int p0), .val (.int (2 : Int32)), .val (.ref e2), .val (.int (1 : Int32)), .val (.ref s2), .unset] [(.ref s2)])) rfl (hb hby at_36) (n := 12) (by decide) (by decide) (by decide) (by decide)
    have hZ := hZ27
    have hown := hown27
    have K28 : Keep h0 h27 [] := K24.ext E27
    refine ogo st27 ?_
    show OWay p e below G T27 (mkF m 38 #[.val (.int p0), .val (.int (2 : Int32)), .val (.ref e2), .val (.int (1 : Int32)), .val (.ref s2), .unset] [(.ref a27), (.ref s2)])
    have F30 : Old Z n0 h27 := (F26.ext E27)
    have hwe : ∀ d ∈ StrChars.Road.wordsEq, d.before az Z = true := fun d hd => hw d ((by decide +kernel : ∀ d ∈ StrChars.Road.wordsEq, d ∈ tables_1) d hd)
    obtain ⟨cq29, kq29, q29a, q29b, q29c⟩ := isOf hZ eT27 (hp19.ext F30.2)
    obtain ⟨v29, _, ⟨T29, L29, k29, n29⟩, -, X29, ⟨Lc29, hQ29, l29, y29, z29⟩, st29⟩ := X27.virtualBack hx (y := (⟨"java/lang/String", "equals", "(Ljava/lang/Object;)Z"⟩ : MethodName)) (z := (⟨"java/lang/String", "equals", "(Ljava/lang/Object;)Z"⟩ : MethodName)) hown (mvT hZ (hw _ (List.mem_of_getElem? (i := 29) rfl))) (mvT hZ (hw _ (List.mem_of_getElem? (i := 30) rfl))) (notFace_of_selects (args := #[]) (mvT hZ (hw _ (List.mem_of_getElem? (i := 32) rfl)))) (mvT hZ (hw _ (List.mem_of_getElem? (i := 32) rfl))) (mvT hZ (hw _ (List.mem_of_getElem? (i := 31) rfl))) (by decide) (StrChars.Road.eqW (W := 0) hZ hwe (kI := 4) (hw _ (List.mem_of_getElem? (i := 23) rfl)) (hp19.ext F30.2) (hp21.ext F30.2) (hp20.ext F30.2) (hp22.ext F30.2) (show StrChars.Road.CodA [66, 72, 83] 0 (3 : Int32) [(.int (66 : Int32)), (.int (72 : Int32)), (.int (83 : Int32))] from Or.inl ⟨rfl, by decide, by decide, by decide⟩) (by decide) (by decide) Ex27 Va27 Co27 Ar27 (show StrChars.Road.CodA [70, 72, 83] 0 (3 : Int32) [(.int (70 : Int32)), (.int (72 : Int32)), (.int (83 : Int32))] from Or.inl ⟨rfl, by decide, by decide, by decide⟩) (by decide) (by decide) (hp0.ext F30.2) hcp (by decide) (by decide)) q29a q29c (g := (mkF m 38 #[.val (.int p0), .val (.int (2 : Int32)), .val (.ref e2), .val (.int (1 : Int32)), .val (.ref s2), .unset] [(.ref a27), (.ref s2)])) rfl (by rw [hml]; rfl) (Steps.refl _) (argsL := [(.ref a27)]) (rest := []) (lenOf pd__Ljava_lang_Object__Z rfl) rfl (by show 2 * 0 + _ ≤ _; exact Nat.le_of_eq rfl) (hb hby at_38) (fun _ _ => ⟨rfl, eT27, (by decide : 4 + 0 ≤ room_1.cells), (by decide : 32 + 0 ≤ room_1.slots)⟩)
    dsimp only [Pt.U, Pt.locs, Pt.cells, Pt.slots] at X29 l29 y29 z29 st29 hQ29
    subst l29 y29 z29
    obtain ⟨hv29, rfl, eq29⟩ := hQ29
    obtain rfl : v29 = some (.int (0 : Int32)) := hv29.elim (fun q => absurd q.2 (by decide)) And.left
    have N29 := Fr.app N25 (Fr.nil n0)
    refine ogoS st29 ?_
    show OWay p e below G T29 (mkF m 41 #[.val (.int p0), .val (.int (2 : Int32)), .val (.ref e2), .val (.int (1 : Int32)), .val (.ref s2), .unset] [(.int (0 : Int32))])
    refine ogo (fun _ z_ => XS.ifNo X29.here hx rfl (hb hby at_41) rfl ((if0 _ _).trans (teq rfl).2) z_) ?_
    show OWay p e below G T29 (mkF m 44 #[.val (.int p0), .val (.int (2 : Int32)), .val (.ref e2), .val (.int (1 : Int32)), .val (.ref s2), .unset] [])
    refine ogo (fun _ z_ => XS.aload X29.here hx rfl (hb hby at_44) rfl rfl z_) ?_
    show OWay p e below G T29 (mkF m 46 #[.val (.int p0), .val (.int (2 : Int32)), .val (.ref e2), .val (.int (1 : Int32)), .val (.ref s2), .unset] [(.ref s2)])
    obtain ⟨a31, T31, h31, k31, b31, kc31, X31, eT31, E31, hS31, hk31, hZ31, hown31, Ex31, Co31, Va31, Ar31, la31, lb31, IB31, st31⟩ := ldcSV (s := s) (vm0 := T27.vm) (Z := Z) (Ts := ["FHS", "MSH"]) X29 hx hZ hown (hw _ (List.mem_of_getElem? (i := 50) rfl)) (own_wS hw) eq29 hS27 hk27 (by rw [hh0, ← hn0]; exact N29) (fun b cl q => by rw [hU0]; exact q) IB27 (by decide) hh53 hcw (vs := [(.int (66 : Int32)), (.int (72 : Int32)), (.int (83 : Int32))]) (z := (3 : Int32)) ⟨by decide, by decide⟩ (by decide) (by decide) (g := (mkF m 46 #[.val (.int p0), .val (.int (2 : Int32)), .val (.ref e2), .val (.int (1 : Int32)), .val (.ref s2), .unset] [(.ref s2)])) rfl (hb hby at_46) (n := 12) (by decide) (by decide) (by decide) (by decide)
    have hZ := hZ31
    have hown := hown31
    have K32 : Keep h0 h31 [] := K28.ext E31
    refine ogo st31 ?_
    show OWay p e below G T31 (mkF m 48 #[.val (.int p0), .val (.int (2 : Int32)), .val (.ref e2), .val (.int (1 : Int32)), .val (.ref s2), .unset] [(.ref a31), (.ref s2)])
    have F34 : Old Z n0 h31 := (F30.ext E31)
    have hwe : ∀ d ∈ StrChars.Road.wordsEq, d.before az Z = true := fun d hd => hw d ((by decide +kernel : ∀ d ∈ StrChars.Road.wordsEq, d ∈ tables_1) d hd)
    obtain ⟨cq33, kq33, q33a, q33b, q33c⟩ := isOf hZ eT31 (hp19.ext F34.2)
    obtain ⟨v33, _, ⟨T33, L33, k33, n33⟩, -, X33, ⟨Lc33, hQ33, l33, y33, z33⟩, st33⟩ := X31.virtualBack hx (y := (⟨"java/lang/String", "equals", "(Ljava/lang/Object;)Z"⟩ : MethodName)) (z := (⟨"java/lang/String", "equals", "(Ljava/lang/Object;)Z"⟩ : MethodName)) hown (mvT hZ (hw _ (List.mem_of_getElem? (i := 29) rfl))) (mvT hZ (hw _ (List.mem_of_getElem? (i := 30) rfl))) (notFace_of_selects (args := #[]) (mvT hZ (hw _ (List.mem_of_getElem? (i := 32) rfl)))) (mvT hZ (hw _ (List.mem_of_getElem? (i := 32) rfl))) (mvT hZ (hw _ (List.mem_of_getElem? (i := 31) rfl))) (by decide) (StrChars.Road.eqW (W := 0) hZ hwe (kI := 4) (hw _ (List.mem_of_getElem? (i := 23) rfl)) (hp19.ext F34.2) (hp21.ext F34.2) (hp20.ext F34.2) (hp22.ext F34.2) (show StrChars.Road.CodA [66, 72, 83] 0 (3 : Int32) [(.int (66 : Int32)), (.int (72 : Int32)), (.int (83 : Int32))] from Or.inl ⟨rfl, by decide, by decide, by decide⟩) (by decide) (by decide) Ex31 Va31 Co31 Ar31 (show StrChars.Road.CodA [66, 72, 83] 0 (3 : Int32) [(.int (66 : Int32)), (.int (72 : Int32)), (.int (83 : Int32))] from Or.inl ⟨rfl, by decide, by decide, by decide⟩) (by decide) (by decide) (hp0.ext F34.2) hcp (by decide) (by decide)) q33a q33c (g := (mkF m 48 #[.val (.int p0), .val (.int (2 : Int32)), .val (.ref e2), .val (.int (1 : Int32)), .val (.ref s2), .unset] [(.ref a31), (.ref s2)])) rfl (by rw [hml]; rfl) (Steps.refl _) (argsL := [(.ref a31)]) (rest := []) (lenOf pd__Ljava_lang_Object__Z rfl) rfl (by show 2 * 0 + _ ≤ _; exact Nat.le_of_eq rfl) (hb hby at_48) (fun _ _ => ⟨rfl, eT31, (by decide : 6 + 0 ≤ room_1.cells), (by decide : 48 + 0 ≤ room_1.slots)⟩)
    dsimp only [Pt.U, Pt.locs, Pt.cells, Pt.slots] at X33 l33 y33 z33 st33 hQ33
    subst l33 y33 z33
    obtain ⟨hv33, rfl, eq33⟩ := hQ33
    obtain rfl : v33 = some (.int (1 : Int32)) := hv33.elim And.left (fun q => absurd rfl q.2)
    have N33 := Fr.app N29 (Fr.nil n0)
    refine ogoS st33 ?_
    show OWay p e below G T33 (mkF m 51 #[.val (.int p0), .val (.int (2 : Int32)), .val (.ref e2), .val (.int (1 : Int32)), .val (.ref s2), .unset] [(.int (1 : Int32))])
    refine ogo (fun _ z_ => XS.ifNo X33.here hx rfl (hb hby at_51) rfl ((if0 _ _).trans (feq (by decide)).1) z_) ?_
    show OWay p e below G T33 (mkF m 54 #[.val (.int p0), .val (.int (2 : Int32)), .val (.ref e2), .val (.int (1 : Int32)), .val (.ref s2), .unset] [])
    refine ogo (fun _ z_ => XS.iconst X33.here hx rfl (hb hby at_54) z_) ?_
    show OWay p e below G T33 (mkF m 55 #[.val (.int p0), .val (.int (2 : Int32)), .val (.ref e2), .val (.int (1 : Int32)), .val (.ref s2), .unset] [(.int (1 : Int32))])
    refine ogo (fun _ z_ => XS.goto X33.here hx rfl (pc0 := 55) (pc' := 59) rfl (hb hby at_55) (by decide) (by decide) z_) ?_
    show OWay p e below G T33 (mkF m 59 #[.val (.int p0), .val (.int (2 : Int32)), .val (.ref e2), .val (.int (1 : Int32)), .val (.ref s2), .unset] [(.int (1 : Int32))])
    refine ogo (fun _ z_ => XS.istore X33.here hx rfl (hb hby at_59) rfl (l' := #[.val (.int p0), .val (.int (2 : Int32)), .val (.ref e2), .val (.int (1 : Int32)), .val (.ref s2), .val (.int (1 : Int32))]) rfl z_) ?_
    show OWay p e below G T33 (mkF m 61 #[.val (.int p0), .val (.int (2 : Int32)), .val (.ref e2), .val (.int (1 : Int32)), .val (.ref s2), .val (.int (1 : Int32))] [])
    refine ogo (fun _ z_ => XS.iloadN X33.here hx rfl (hb hby at_61) rfl z_) ?_
    show OWay p e below G T33 (mkF m 62 #[.val (.int p0), .val (.int (2 : Int32)), .val (.ref e2), .val (.int (1 : Int32)), .val (.ref s2), .val (.int (1 : Int32))] [(.int (1 : Int32))])
    refine ogo (fun _ z_ => XS.iloadN X33.here hx rfl (hb hby at_62) rfl z_) ?_
    show OWay p e below G T33 (mkF m 63 #[.val (.int p0), .val (.int (2 : Int32)), .val (.ref e2), .val (.int (1 : Int32)), .val (.ref s2), .val (.int (1 : Int32))] [(.int (2 : Int32)), (.int (1 : Int32))])
    refine ogo (fun _ z_ => XS.iconst X33.here hx rfl (hb hby at_63) z_) ?_
    show OWay p e below G T33 (mkF m 64 #[.val (.int p0), .val (.int (2 : Int32)), .val (.ref e2), .val (.int (1 : Int32)), .val (.ref s2), .val (.int (1 : Int32))] [(.int (3 : Int32)), (.int (2 : Int32)), (.int (1 : Int32))])
    refine ogo (fun _ z_ => XS.icmpNo X33.here hx rfl (hb hby at_64) rfl (tlt (by decide)).2.1 z_) ?_
    show OWay p e below G T33 (mkF m 67 #[.val (.int p0), .val (.int (2 : Int32)), .val (.ref e2), .val (.int (1 : Int32)), .val (.ref s2), .val (.int (1 : Int32))] [(.int (1 : Int32))])
    refine ogo (fun _ z_ => XS.iconst X33.here hx rfl (hb hby at_67) z_) ?_
    show OWay p e below G T33 (mkF m 68 #[.val (.int p0), .val (.int (2 : Int32)), .val (.ref e2), .val (.int (1 : Int32)), .val (.ref s2), .val (.int (1 : Int32))] [(.int (1 : Int32)), (.int (1 : Int32))])
    refine ogo (fun _ z_ => XS.goto X33.here hx rfl (pc0 := 68) (pc' := 72) rfl (hb hby at_68) (by decide) (by decide) z_) ?_
    show OWay p e below G T33 (mkF m 72 #[.val (.int p0), .val (.int (2 : Int32)), .val (.ref e2), .val (.int (1 : Int32)), .val (.ref s2), .val (.int (1 : Int32))] [(.int (1 : Int32)), (.int (1 : Int32))])
    refine ogo (fun _ z_ => XS.icmpNo X33.here hx rfl (hb hby at_72) rfl (teq rfl).2 z_) ?_
    show OWay p e below G T33 (mkF m 75 #[.val (.int p0), .val (.int (2 : Int32)), .val (.ref e2), .val (.int (1 : Int32)), .val (.ref s2), .val (.int (1 : Int32))] [])
    refine ogo (fun _ z_ => XS.iloadN X33.here hx rfl (hb hby at_75) rfl z_) ?_
    show OWay p e below G T33 (mkF m 76 #[.val (.int p0), .val (.int (2 : Int32)), .val (.ref e2), .val (.int (1 : Int32)), .val (.ref s2), .val (.int (1 : Int32))] [(.int (1 : Int32))])
    refine ogo (fun _ z_ => XS.iload X33.here hx rfl (hb hby at_76) rfl z_) ?_
    show OWay p e below G T33 (mkF m 78 #[.val (.int p0), .val (.int (2 : Int32)), .val (.ref e2), .val (.int (1 : Int32)), .val (.ref s2), .val (.int (1 : Int32))] [(.int (1 : Int32)), (.int (1 : Int32))])
    refine ogo (fun _ z_ => XS.icmpNo X33.here hx rfl (hb hby at_78) rfl (teq rfl).2 z_) ?_
    show OWay p e below G T33 (mkF m 81 #[.val (.int p0), .val (.int (2 : Int32)), .val (.ref e2), .val (.int (1 : Int32)), .val (.ref s2), .val (.int (1 : Int32))] [])
    refine ogo (fun _ z_ => XS.iconst X33.here hx rfl (hb hby at_81) z_) ?_
    show OWay p e below G T33 (mkF m 82 #[.val (.int p0), .val (.int (2 : Int32)), .val (.ref e2), .val (.int (1 : Int32)), .val (.ref s2), .val (.int (1 : Int32))] [(.int (1 : Int32))])
    refine ogo (fun _ z_ => XS.goto X33.here hx rfl (pc0 := 82) (pc' := 86) rfl (hb hby at_82) (by decide) (by decide) z_) ?_
    show OWay p e below G T33 (mkF m 86 #[.val (.int p0), .val (.int (2 : Int32)), .val (.ref e2), .val (.int (1 : Int32)), .val (.ref s2), .val (.int (1 : Int32))] [(.int (1 : Int32))])
    subst hG
    refine wRetNW (s := s) (vm0 := T31.vm) X33 hx (t := .boolean) hret hlk (by simp) (hb hby at_86) (by decide) (by decide) hS31 hk31 eq33 ?_
    exact ⟨rfl, N33⟩
  · show OWay p e below G s₁ (mkF m 8 #[.val (.int p0), .val (.int (3 : Int32)), .unset, .unset, .unset, .unset] [])
    refine ogo (fun _ z_ => XS.iloadN X0.here hx rfl (hb hby at_8) rfl z_) ?_
    show OWay p e below G s₁ (mkF m 9 #[.val (.int p0), .val (.int (3 : Int32)), .unset, .unset, .unset, .unset] [(.int (3 : Int32))])
    obtain ⟨_, T35, L35, X35, hQ35, st35⟩ := wStatic X0 hx hZ (y := (⟨"com/example/stockwire/stockwire/codec/PartOpensPinLaw", "pick", "(I)Lcom/example/stockwire/stockwire/codec/Envelope$Part;"⟩ : MethodName)) hown (hw _ (List.mem_of_getElem? (i := 1) rfl)) (hw _ (List.mem_of_getElem? (i := 2) rfl)) (hw _ (List.mem_of_getElem? (i := 3) rfl)) (hw _ (List.mem_of_getElem? (i := 4) rfl)) (by decide) (pick3_c l Z az hw [] e3 h0 n0 Z0 hp23 hp1) 0 (by decide) (by decide) (g := (mkF m 9 #[.val (.int p0), .val (.int (3 : Int32)), .unset, .unset, .unset, .unset] [(.int (3 : Int32))])) rfl (by rw [hml]; rfl) (argsL := [(.int (3 : Int32))]) (rest := []) (lenOf pd__I_Lcom_example_stockwire_stockwire_codec_Envelope_Part_ rfl) rfl (by show 2 * 0 + _ ≤ _; exact Nat.le_of_eq rfl) (hb hby at_9) rfl eh0 (by decide) (by decide)
    obtain ⟨rfl, N35q, eq35⟩ := hQ35
    have N35 := Fr.app N0 N35q
    refine ogo st35 ?_
    show OWay p e below G T35 (mkF m 12 #[.val (.int p0), .val (.int (3 : Int32)), .unset, .unset, .unset, .unset] [(.ref e3)])
    refine ogo (fun _ z_ => XS.astoreN X35.here hx rfl (hb hby at_12) rfl rfl (l' := #[.val (.int p0), .val (.int (3 : Int32)), .val (.ref e3), .unset, .unset, .unset]) rfl z_) ?_
    show OWay p e below G T35 (mkF m 13 #[.val (.int p0), .val (.int (3 : Int32)), .val (.ref e3), .unset, .unset, .unset] [])
    refine ogo (fun _ z_ => XS.aloadN X35.here hx rfl (hb hby at_13) rfl rfl z_) ?_
    show OWay p e below G T35 (mkF m 14 #[.val (.int p0), .val (.int (3 : Int32)), .val (.ref e3), .unset, .unset, .unset] [(.ref e3)])
    obtain ⟨_, T36, L36, X36, hQ36, st36⟩ := wVirtual X35 hx hZ (y := (⟨"com/example/stockwire/stockwire/codec/Envelope$Part", "opens", "()Z"⟩ : MethodName)) (z := (⟨"com/example/stockwire/stockwire/codec/Envelope$Part", "opens", "()Z"⟩ : MethodName)) hown (hw _ (List.mem_of_getElem? (i := 8) rfl)) (hw _ (List.mem_of_getElem? (i := 9) rfl)) (notFace_of_selects (args := #[]) (mvT hZ (hw _ (List.mem_of_getElem? (i := 11) rfl)))) (hw _ (List.mem_of_getElem? (i := 11) rfl)) (hw _ (List.mem_of_getElem? (i := 10) rfl)) (hw _ (List.mem_of_getElem? (i := 6) rfl)) (hw _ (List.mem_of_getElem? (i := 12) rfl)) (by decide) (opens3_c l Z az hw [] e3 e0 e1 e2 h0 n0 Z0 hp2 hp9 hp16 hp47 hp48 hp49 hp1) 0 (by decide) (by decide) (hp24.ext hp1.2) (g := (mkF m 14 #[.val (.int p0), .val (.int (3 : Int32)), .val (.ref e3), .unset, .unset, .unset] [(.ref e3)])) rfl (by rw [hml]; rfl) (argsL := []) (rest := []) (lenOf pd___Z rfl) rfl (by show 2 * 0 + _ ≤ _; exact Nat.le_of_eq rfl) (hb hby at_14) rfl eq35 (by decide) (by decide)
    obtain ⟨rfl, N36q, eq36⟩ := hQ36
    have N36 := Fr.app N35 N36q
    refine ogoS st36 ?_
    show OWay p e below G T36 (mkF m 17 #[.val (.int p0), .val (.int (3 : Int32)), .val (.ref e3), .unset, .unset, .unset] [(.int (0 : Int32))])
    refine ogo (fun _ z_ => XS.istoreN X36.here hx rfl (hb hby at_17) rfl (l' := #[.val (.int p0), .val (.int (3 : Int32)), .val (.ref e3), .val (.int (0 : Int32)), .unset, .unset]) rfl z_) ?_
    show OWay p e below G T36 (mkF m 18 #[.val (.int p0), .val (.int (3 : Int32)), .val (.ref e3), .val (.int (0 : Int32)), .unset, .unset] [])
    refine ogo (fun _ z_ => XS.aloadN X36.here hx rfl (hb hby at_18) rfl rfl z_) ?_
    show OWay p e below G T36 (mkF m 19 #[.val (.int p0), .val (.int (3 : Int32)), .val (.ref e3), .val (.int (0 : Int32)), .unset, .unset] [(.ref e3)])
    obtain ⟨_, T37, L37, X37, hQ37, st37⟩ := wVirtual X36 hx hZ (y := (⟨"com/example/stockwire/stockwire/codec/Envelope$Part", "id", "()Ljava/lang/String;"⟩ : MethodName)) (z := (⟨"com/example/stockwire/stockwire/codec/Envelope$Part", "id", "()Ljava/lang/String;"⟩ : MethodName)) hown (hw _ (List.mem_of_getElem? (i := 14) rfl)) (hw _ (List.mem_of_getElem? (i := 15) rfl)) (notFace_of_selects (args := #[]) (mvT hZ (hw _ (List.mem_of_getElem? (i := 17) rfl)))) (hw _ (List.mem_of_getElem? (i := 17) rfl)) (hw _ (List.mem_of_getElem? (i := 16) rfl)) (hw _ (List.mem_of_getElem? (i := 6) rfl)) (hw _ (List.mem_of_getElem? (i := 18) rfl)) (by decide) (get3_c l Z az hw [] e3 s3 h0 n0 Z0 (hp25.ext hp1.2)) 0 (by decide) (by decide) (hp24.ext hp1.2) (g := (mkF m 19 #[.val (.int p0), .val (.int (3 : Int32)), .val (.ref e3), .val (.int (0 : Int32)), .unset, .unset] [(.ref e3)])) rfl (by rw [hml]; rfl) (argsL := []) (rest := []) (lenOf pd___Ljava_lang_String_ rfl) rfl (by show 2 * 0 + _ ≤ _; exact Nat.le_of_eq rfl) (hb hby at_19) rfl eq36 (by decide) (by decide)
    obtain ⟨rfl, N37q, eq37⟩ := hQ37
    have N37 := Fr.app N36 N37q
    refine ogoS st37 ?_
    show OWay p e below G T37 (mkF m 22 #[.val (.int p0), .val (.int (3 : Int32)), .val (.ref e3), .val (.int (0 : Int32)), .unset, .unset] [(.ref s3)])
    refine ogo (fun _ z_ => XS.astore X37.here hx rfl (hb hby at_22) rfl rfl (l' := #[.val (.int p0), .val (.int (3 : Int32)), .val (.ref e3), .val (.int (0 : Int32)), .val (.ref s3), .unset]) rfl z_) ?_
    show OWay p e below G T37 (mkF m 24 #[.val (.int p0), .val (.int (3 : Int32)), .val (.ref e3), .val (.int (0 : Int32)), .val (.ref s3), .unset] [])
    refine ogo (fun _ z_ => XS.aload X37.here hx rfl (hb hby at_24) rfl rfl z_) ?_
    show OWay p e below G T37 (mkF m 26 #[.val (.int p0), .val (.int (3 : Int32)), .val (.ref e3), .val (.int (0 : Int32)), .val (.ref s3), .unset] [(.ref s3)])
    have I0 : IB Z s.vm [] := by rw [hU0]; exact IB.start
    obtain ⟨a38, T38, h38, k38, b38, kc38, X38, eT38, E38, hS38, hk38, hZ38, hown38, Ex38, Co38, Va38, Ar38, la38, lb38, IB38, st38⟩ := ldcSV (s := s) (vm0 := s.vm) (Z := Z) (Ts := []) X37 hx hZ hown (hw _ (List.mem_of_getElem? (i := 21) rfl)) (own_wS hw) eq37 hS0 hk0 (by rw [hh0, ← hn0]; exact N37) (fun b cl q => by rw [hU0]; exact q) I0 (by decide) hh43 hcw (vs := [(.int (77 : Int32)), (.int (83 : Int32)), (.int (72 : Int32))]) (z := (3 : Int32)) ⟨by decide, by decide⟩ (by decide) (by decide) (g := (mkF m 26 #[.val (.int p0), .val (.int (3 : Int32)), .val (.ref e3), .val (.int (0 : Int32)), .val (.ref s3), .unset] [(.ref s3)])) rfl (hb hby at_26) (n := 12) (by decide) (by decide) (by decide) (by decide)
    have hZ := hZ38
    have hown := hown38
    have K39 : Keep h0 h38 [] := K0.ext E38
    refine ogo st38 ?_
    show OWay p e below G T38 (mkF m 28 #[.val (.int p0), .val (.int (3 : Int32)), .val (.ref e3), .val (.int (0 : Int32)), .val (.ref s3), .unset] [(.ref a38), (.ref s3)])
    have F41 : Old Z n0 h38 := (hp1.ext E38)
    have hwe : ∀ d ∈ StrChars.Road.wordsEq, d.before az Z = true := fun d hd => hw d ((by decide +kernel : ∀ d ∈ StrChars.Road.wordsEq, d ∈ tables_1) d hd)
    obtain ⟨cq40, kq40, q40a, q40b, q40c⟩ := isOf hZ eT38 (hp26.ext F41.2)
    obtain ⟨v40, _, ⟨T40, L40, k40, n40⟩, -, X40, ⟨Lc40, hQ40, l40, y40, z40⟩, st40⟩ := X38.virtualBack hx (y := (⟨"java/lang/String", "equals", "(Ljava/lang/Object;)Z"⟩ : MethodName)) (z := (⟨"java/lang/String", "equals", "(Ljava/lang/Object;)Z"⟩ : MethodName)) hown (mvT hZ (hw _ (List.mem_of_getElem? (i := 29) rfl))) (mvT hZ (hw _ (List.mem_of_getElem? (i := 30) rfl))) (notFace_of_selects (args := #[]) (mvT hZ (hw _ (List.mem_of_getElem? (i := 32) rfl)))) (mvT hZ (hw _ (List.mem_of_getElem? (i := 32) rfl))) (mvT hZ (hw _ (List.mem_of_getElem? (i := 31) rfl))) (by decide) (StrChars.Road.eqW (W := 0) hZ hwe (kI := 4) (hw _ (List.mem_of_getElem? (i := 23) rfl)) (hp26.ext F41.2) (hp28.ext F41.2) (hp27.ext F41.2) (hp29.ext F41.2) (show StrChars.Road.CodA [66, 84, 83] 0 (3 : Int32) [(.int (66 : Int32)), (.int (84 : Int32)), (.int (83 : Int32))] from Or.inl ⟨rfl, by decide, by decide, by decide⟩) (by decide) (by decide) Ex38 Va38 Co38 Ar38 (show StrChars.Road.CodA [77, 83, 72] 0 (3 : Int32) [(.int (77 : Int32)), (.int (83 : Int32)), (.int (72 : Int32))] from Or.inl ⟨rfl, by decide, by decide, by decide⟩) (by decide) (by decide) (hp0.ext F41.2) hcp (by decide) (by decide)) q40a q40c (g := (mkF m 28 #[.val (.int p0), .val (.int (3 : Int32)), .val (.ref e3), .val (.int (0 : Int32)), .val (.ref s3), .unset] [(.ref a38), (.ref s3)])) rfl (by rw [hml]; rfl) (Steps.refl _) (argsL := [(.ref a38)]) (rest := []) (lenOf pd__Ljava_lang_Object__Z rfl) rfl (by show 2 * 0 + _ ≤ _; exact Nat.le_of_eq rfl) (hb hby at_28) (fun _ _ => ⟨rfl, eT38, (by decide : 2 + 0 ≤ room_1.cells), (by decide : 16 + 0 ≤ room_1.slots)⟩)
    dsimp only [Pt.U, Pt.locs, Pt.cells, Pt.slots] at X40 l40 y40 z40 st40 hQ40
    subst l40 y40 z40
    obtain ⟨hv40, rfl, eq40⟩ := hQ40
    obtain rfl : v40 = some (.int (0 : Int32)) := hv40.elim (fun q => absurd q.2 (by decide)) And.left
    have N40 := Fr.app N37 (Fr.nil n0)
    refine ogoS st40 ?_
    show OWay p e below G T40 (mkF m 31 #[.val (.int p0), .val (.int (3 : Int32)), .val (.ref e3), .val (.int (0 : Int32)), .val (.ref s3), .unset] [(.int (0 : Int32))])
    refine ogo (fun _ z_ => XS.ifNo X40.here hx rfl (hb hby at_31) rfl ((if0 _ _).trans (teq rfl).2) z_) ?_
    show OWay p e below G T40 (mkF m 34 #[.val (.int p0), .val (.int (3 : Int32)), .val (.ref e3), .val (.int (0 : Int32)), .val (.ref s3), .unset] [])
    refine ogo (fun _ z_ => XS.aload X40.here hx rfl (hb hby at_34) rfl rfl z_) ?_
    show OWay p e below G T40 (mkF m 36 #[.val (.int p0), .val (.int (3 : Int32)), .val (.ref e3), .val (.int (0 : Int32)), .val (.ref s3), .unset] [(.ref s3)])
    obtain ⟨a42, T42, h42, k42, b42, kc42, X42, eT42, E42, hS42, hk42, hZ42, hown42, Ex42, Co42, Va42, Ar42, la42, lb42, IB42, st42⟩ := ldcSV (s := s) (vm0 := T38.vm) (Z := Z) (Ts := ["MSH"]) X40 hx hZ hown (hw _ (List.mem_of_getElem? (i := 49) rfl)) (own_wS hw) eq40 hS38 hk38 (by rw [hh0, ← hn0]; exact N40) (fun b cl q => by rw [hU0]; exact q) IB38 (by decide) hh51 hcw (vs := [(.int (70 : Int32)), (.int (72 : Int32)), (.int (83 : Int32))]) (z := (3 : Int32)) ⟨by decide, by decide⟩ (by decide) (by decide) (g := (mkF m 36 #[.val (.int p0), .val (.int (3 : Int32)), .val (.ref e3), .val (.int (0 : Int32)), .val (.ref s3), .unset] [(.ref s3)])) rfl (hb hby at_36) (n := 12) (by decide) (by decide) (by decide) (by decide)
    have hZ := hZ42
    have hown := hown42
    have K43 : Keep h0 h42 [] := K39.ext E42
    refine ogo st42 ?_
    show OWay p e below G T42 (mkF m 38 #[.val (.int p0), .val (.int (3 : Int32)), .val (.ref e3), .val (.int (0 : Int32)), .val (.ref s3), .unset] [(.ref a42), (.ref s3)])
    have F45 : Old Z n0 h42 := (F41.ext E42)
    have hwe : ∀ d ∈ StrChars.Road.wordsEq, d.before az Z = true := fun d hd => hw d ((by decide +kernel : ∀ d ∈ StrChars.Road.wordsEq, d ∈ tables_1) d hd)
    obtain ⟨cq44, kq44, q44a, q44b, q44c⟩ := isOf hZ eT42 (hp26.ext F45.2)
    obtain ⟨v44, _, ⟨T44, L44, k44, n44⟩, -, X44, ⟨Lc44, hQ44, l44, y44, z44⟩, st44⟩ := X42.virtualBack hx (y := (⟨"java/lang/String", "equals", "(Ljava/lang/Object;)Z"⟩ : MethodName)) (z := (⟨"java/lang/String", "equals", "(Ljava/lang/Object;)Z"⟩ : MethodName)) hown (mvT hZ (hw _ (List.mem_of_getElem? (i := 29) rfl))) (mvT hZ (hw _ (List.mem_of_getElem? (i := 30) rfl))) (notFace_of_selects (args := #[]) (mvT hZ (hw _ (List.mem_of_getElem? (i := 32) rfl)))) (mvT hZ (hw _ (List.mem_of_getElem? (i := 32) rfl))) (mvT hZ (hw _ (List.mem_of_getElem? (i := 31) rfl))) (by decide) (StrChars.Road.eqW (W := 0) hZ hwe (kI := 4) (hw _ (List.mem_of_getElem? (i := 23) rfl)) (hp26.ext F45.2) (hp28.ext F45.2) (hp27.ext F45.2) (hp29.ext F45.2) (show StrChars.Road.CodA [66, 84, 83] 0 (3 : Int32) [(.int (66 : Int32)), (.int (84 : Int32)), (.int (83 : Int32))] from Or.inl ⟨rfl, by decide, by decide, by decide⟩) (by decide) (by decide) Ex42 Va42 Co42 Ar42 (show StrChars.Road.CodA [70, 72, 83] 0 (3 : Int32) [(.int (70 : Int32)), (.int (72 : Int32)), (.int (83 : Int32))] from Or.inl ⟨rfl, by decide, by decide, by decide⟩) (by decide) (by decide) (hp0.ext F45.2) hcp (by decide) (by decide)) q44a q44c (g := (mkF m 38 #[.val (.int p0), .val (.int (3 : Int32)), .val (.ref e3), .val (.int (0 : Int32)), .val (.ref s3), .unset] [(.ref a42), (.ref s3)])) rfl (by rw [hml]; rfl) (Steps.refl _) (argsL := [(.ref a42)]) (rest := []) (lenOf pd__Ljava_lang_Object__Z rfl) rfl (by show 2 * 0 + _ ≤ _; exact Nat.le_of_eq rfl) (hb hby at_38) (fun _ _ => ⟨rfl, eT42, (by decide : 4 + 0 ≤ room_1.cells), (by decide : 32 + 0 ≤ room_1.slots)⟩)
    dsimp only [Pt.U, Pt.locs, Pt.cells, Pt.slots] at X44 l44 y44 z44 st44 hQ44
    subst l44 y44 z44
    obtain ⟨hv44, rfl, eq44⟩ := hQ44
    obtain rfl : v44 = some (.int (0 : Int32)) := hv44.elim (fun q => absurd q.2 (by decide)) And.left
    have N44 := Fr.app N40 (Fr.nil n0)
    refine ogoS st44 ?_
    show OWay p e below G T44 (mkF m 41 #[.val (.int p0), .val (.int (3 : Int32)), .val (.ref e3), .val (.int (0 : Int32)), .val (.ref s3), .unset] [(.int (0 : Int32))])
    refine ogo (fun _ z_ => XS.ifNo X44.here hx rfl (hb hby at_41) rfl ((if0 _ _).trans (teq rfl).2) z_) ?_
    show OWay p e below G T44 (mkF m 44 #[.val (.int p0), .val (.int (3 : Int32)), .val (.ref e3), .val (.int (0 : Int32)), .val (.ref s3), .unset] [])
    refine ogo (fun _ z_ => XS.aload X44.here hx rfl (hb hby at_44) rfl rfl z_) ?_
    show OWay p e below G T44 (mkF m 46 #[.val (.int p0), .val (.int (3 : Int32)), .val (.ref e3), .val (.int (0 : Int32)), .val (.ref s3), .unset] [(.ref s3)])
    obtain ⟨a46, T46, h46, k46, b46, kc46, X46, eT46, E46, hS46, hk46, hZ46, hown46, Ex46, Co46, Va46, Ar46, la46, lb46, IB46, st46⟩ := ldcSV (s := s) (vm0 := T42.vm) (Z := Z) (Ts := ["FHS", "MSH"]) X44 hx hZ hown (hw _ (List.mem_of_getElem? (i := 50) rfl)) (own_wS hw) eq44 hS42 hk42 (by rw [hh0, ← hn0]; exact N44) (fun b cl q => by rw [hU0]; exact q) IB42 (by decide) hh53 hcw (vs := [(.int (66 : Int32)), (.int (72 : Int32)), (.int (83 : Int32))]) (z := (3 : Int32)) ⟨by decide, by decide⟩ (by decide) (by decide) (g := (mkF m 46 #[.val (.int p0), .val (.int (3 : Int32)), .val (.ref e3), .val (.int (0 : Int32)), .val (.ref s3), .unset] [(.ref s3)])) rfl (hb hby at_46) (n := 12) (by decide) (by decide) (by decide) (by decide)
    have hZ := hZ46
    have hown := hown46
    have K47 : Keep h0 h46 [] := K43.ext E46
    refine ogo st46 ?_
    show OWay p e below G T46 (mkF m 48 #[.val (.int p0), .val (.int (3 : Int32)), .val (.ref e3), .val (.int (0 : Int32)), .val (.ref s3), .unset] [(.ref a46), (.ref s3)])
    have F49 : Old Z n0 h46 := (F45.ext E46)
    have hwe : ∀ d ∈ StrChars.Road.wordsEq, d.before az Z = true := fun d hd => hw d ((by decide +kernel : ∀ d ∈ StrChars.Road.wordsEq, d ∈ tables_1) d hd)
    obtain ⟨cq48, kq48, q48a, q48b, q48c⟩ := isOf hZ eT46 (hp26.ext F49.2)
    obtain ⟨v48, _, ⟨T48, L48, k48, n48⟩, -, X48, ⟨Lc48, hQ48, l48, y48, z48⟩, st48⟩ := X46.virtualBack hx (y := (⟨"java/lang/String", "equals", "(Ljava/lang/Object;)Z"⟩ : MethodName)) (z := (⟨"java/lang/String", "equals", "(Ljava/lang/Object;)Z"⟩ : MethodName)) hown (mvT hZ (hw _ (List.mem_of_getElem? (i := 29) rfl))) (mvT hZ (hw _ (List.mem_of_getElem? (i := 30) rfl))) (notFace_of_selects (args := #[]) (mvT hZ (hw _ (List.mem_of_getElem? (i := 32) rfl)))) (mvT hZ (hw _ (List.mem_of_getElem? (i := 32) rfl))) (mvT hZ (hw _ (List.mem_of_getElem? (i := 31) rfl))) (by decide) (StrChars.Road.eqW (W := 0) hZ hwe (kI := 4) (hw _ (List.mem_of_getElem? (i := 23) rfl)) (hp26.ext F49.2) (hp28.ext F49.2) (hp27.ext F49.2) (hp29.ext F49.2) (show StrChars.Road.CodA [66, 84, 83] 0 (3 : Int32) [(.int (66 : Int32)), (.int (84 : Int32)), (.int (83 : Int32))] from Or.inl ⟨rfl, by decide, by decide, by decide⟩) (by decide) (by decide) Ex46 Va46 Co46 Ar46 (show StrChars.Road.CodA [66, 72, 83] 0 (3 : Int32) [(.int (66 : Int32)), (.int (72 : Int32)), (.int (83 : Int32))] from Or.inl ⟨rfl, by decide, by decide, by decide⟩) (by decide) (by decide) (hp0.ext F49.2) hcp (by decide) (by decide)) q48a q48c (g := (mkF m 48 #[.val (.int p0), .val (.int (3 : Int32)), .val (.ref e3), .val (.int (0 : Int32)), .val (.ref s3), .unset] [(.ref a46), (.ref s3)])) rfl (by rw [hml]; rfl) (Steps.refl _) (argsL := [(.ref a46)]) (rest := []) (lenOf pd__Ljava_lang_Object__Z rfl) rfl (by show 2 * 0 + _ ≤ _; exact Nat.le_of_eq rfl) (hb hby at_48) (fun _ _ => ⟨rfl, eT46, (by decide : 6 + 0 ≤ room_1.cells), (by decide : 48 + 0 ≤ room_1.slots)⟩)
    dsimp only [Pt.U, Pt.locs, Pt.cells, Pt.slots] at X48 l48 y48 z48 st48 hQ48
    subst l48 y48 z48
    obtain ⟨hv48, rfl, eq48⟩ := hQ48
    obtain rfl : v48 = some (.int (0 : Int32)) := hv48.elim (fun q => absurd q.2 (by decide)) And.left
    have N48 := Fr.app N44 (Fr.nil n0)
    refine ogoS st48 ?_
    show OWay p e below G T48 (mkF m 51 #[.val (.int p0), .val (.int (3 : Int32)), .val (.ref e3), .val (.int (0 : Int32)), .val (.ref s3), .unset] [(.int (0 : Int32))])
    refine ogo (fun _ z_ => XS.ifYes X48.here hx rfl (pc0 := 51) (pc' := 58) rfl (hb hby at_51) rfl ((if0 _ _).trans (teq rfl).1) (by decide) (by decide) z_) ?_
    show OWay p e below G T48 (mkF m 58 #[.val (.int p0), .val (.int (3 : Int32)), .val (.ref e3), .val (.int (0 : Int32)), .val (.ref s3), .unset] [])
    refine ogo (fun _ z_ => XS.iconst X48.here hx rfl (hb hby at_58) z_) ?_
    show OWay p e below G T48 (mkF m 59 #[.val (.int p0), .val (.int (3 : Int32)), .val (.ref e3), .val (.int (0 : Int32)), .val (.ref s3), .unset] [(.int (0 : Int32))])
    refine ogo (fun _ z_ => XS.istore X48.here hx rfl (hb hby at_59) rfl (l' := #[.val (.int p0), .val (.int (3 : Int32)), .val (.ref e3), .val (.int (0 : Int32)), .val (.ref s3), .val (.int (0 : Int32))]) rfl z_) ?_
    show OWay p e below G T48 (mkF m 61 #[.val (.int p0), .val (.int (3 : Int32)), .val (.ref e3), .val (.int (0 : Int32)), .val (.ref s3), .val (.int (0 : Int32))] [])
    refine ogo (fun _ z_ => XS.iloadN X48.here hx rfl (hb hby at_61) rfl z_) ?_
    show OWay p e below G T48 (mkF m 62 #[.val (.int p0), .val (.int (3 : Int32)), .val (.ref e3), .val (.int (0 : Int32)), .val (.ref s3), .val (.int (0 : Int32))] [(.int (0 : Int32))])
    refine ogo (fun _ z_ => XS.iloadN X48.here hx rfl (hb hby at_62) rfl z_) ?_
    show OWay p e below G T48 (mkF m 63 #[.val (.int p0), .val (.int (3 : Int32)), .val (.ref e3), .val (.int (0 : Int32)), .val (.ref s3), .val (.int (0 : Int32))] [(.int (3 : Int32)), (.int (0 : Int32))])
    refine ogo (fun _ z_ => XS.iconst X48.here hx rfl (hb hby at_63) z_) ?_
    show OWay p e below G T48 (mkF m 64 #[.val (.int p0), .val (.int (3 : Int32)), .val (.ref e3), .val (.int (0 : Int32)), .val (.ref s3), .val (.int (0 : Int32))] [(.int (3 : Int32)), (.int (3 : Int32)), (.int (0 : Int32))])
    refine ogo (fun _ z_ => XS.icmpYes X48.here hx rfl (pc0 := 64) (pc' := 71) rfl (hb hby at_64) rfl (flt (by decide)).2.1 (by decide) (by decide) z_) ?_
    show OWay p e below G T48 (mkF m 71 #[.val (.int p0), .val (.int (3 : Int32)), .val (.ref e3), .val (.int (0 : Int32)), .val (.ref s3), .val (.int (0 : Int32))] [(.int (0 : Int32))])
    refine ogo (fun _ z_ => XS.iconst X48.here hx rfl (hb hby at_71) z_) ?_
    show OWay p e below G T48 (mkF m 72 #[.val (.int p0), .val (.int (3 : Int32)), .val (.ref e3), .val (.int (0 : Int32)), .val (.ref s3), .val (.int (0 : Int32))] [(.int (0 : Int32)), (.int (0 : Int32))])
    refine ogo (fun _ z_ => XS.icmpNo X48.here hx rfl (hb hby at_72) rfl (teq rfl).2 z_) ?_
    show OWay p e below G T48 (mkF m 75 #[.val (.int p0), .val (.int (3 : Int32)), .val (.ref e3), .val (.int (0 : Int32)), .val (.ref s3), .val (.int (0 : Int32))] [])
    refine ogo (fun _ z_ => XS.iloadN X48.here hx rfl (hb hby at_75) rfl z_) ?_
    show OWay p e below G T48 (mkF m 76 #[.val (.int p0), .val (.int (3 : Int32)), .val (.ref e3), .val (.int (0 : Int32)), .val (.ref s3), .val (.int (0 : Int32))] [(.int (0 : Int32))])
    refine ogo (fun _ z_ => XS.iload X48.here hx rfl (hb hby at_76) rfl z_) ?_
    show OWay p e below G T48 (mkF m 78 #[.val (.int p0), .val (.int (3 : Int32)), .val (.ref e3), .val (.int (0 : Int32)), .val (.ref s3), .val (.int (0 : Int32))] [(.int (0 : Int32)), (.int (0 : Int32))])
    refine ogo (fun _ z_ => XS.icmpNo X48.here hx rfl (hb hby at_78) rfl (teq rfl).2 z_) ?_
    show OWay p e below G T48 (mkF m 81 #[.val (.int p0), .val (.int (3 : Int32)), .val (.ref e3), .val (.int (0 : Int32)), .val (.ref s3), .val (.int (0 : Int32))] [])
    refine ogo (fun _ z_ => XS.iconst X48.here hx rfl (hb hby at_81) z_) ?_
    show OWay p e below G T48 (mkF m 82 #[.val (.int p0), .val (.int (3 : Int32)), .val (.ref e3), .val (.int (0 : Int32)), .val (.ref s3), .val (.int (0 : Int32))] [(.int (1 : Int32))])
    refine ogo (fun _ z_ => XS.goto X48.here hx rfl (pc0 := 82) (pc' := 86) rfl (hb hby at_82) (by decide) (by decide) z_) ?_
    show OWay p e below G T48 (mkF m 86 #[.val (.int p0), .val (.int (3 : Int32)), .val (.ref e3), .val (.int (0 : Int32)), .val (.ref s3), .val (.int (0 : Int32))] [(.int (1 : Int32))])
    subst hG
    refine wRetNW (s := s) (vm0 := T46.vm) X48 hx (t := .boolean) hret hlk (by simp) (hb hby at_86) (by decide) (by decide) hS46 hk46 eq48 ?_
    exact ⟨rfl, N48⟩
  · show OWay p e below G s₁ (mkF m 8 #[.val (.int p0), .val (.int (4 : Int32)), .unset, .unset, .unset, .unset] [])
    refine ogo (fun _ z_ => XS.iloadN X0.here hx rfl (hb hby at_8) rfl z_) ?_
    show OWay p e below G s₁ (mkF m 9 #[.val (.int p0), .val (.int (4 : Int32)), .unset, .unset, .unset, .unset] [(.int (4 : Int32))])
    obtain ⟨_, T50, L50, X50, hQ50, st50⟩ := wStatic X0 hx hZ (y := (⟨"com/example/stockwire/stockwire/codec/PartOpensPinLaw", "pick", "(I)Lcom/example/stockwire/stockwire/codec/Envelope$Part;"⟩ : MethodName)) hown (hw _ (List.mem_of_getElem? (i := 1) rfl)) (hw _ (List.mem_of_getElem? (i := 2) rfl)) (hw _ (List.mem_of_getElem? (i := 3) rfl)) (hw _ (List.mem_of_getElem? (i := 4) rfl)) (by decide) (pick4_c l Z az hw [] e4 h0 n0 Z0 hp30 hp1) 0 (by decide) (by decide) (g := (mkF m 9 #[.val (.int p0), .val (.int (4 : Int32)), .unset, .unset, .unset, .unset] [(.int (4 : Int32))])) rfl (by rw [hml]; rfl) (argsL := [(.int (4 : Int32))]) (rest := []) (lenOf pd__I_Lcom_example_stockwire_stockwire_codec_Envelope_Part_ rfl) rfl (by show 2 * 0 + _ ≤ _; exact Nat.le_of_eq rfl) (hb hby at_9) rfl eh0 (by decide) (by decide)
    obtain ⟨rfl, N50q, eq50⟩ := hQ50
    have N50 := Fr.app N0 N50q
    refine ogo st50 ?_
    show OWay p e below G T50 (mkF m 12 #[.val (.int p0), .val (.int (4 : Int32)), .unset, .unset, .unset, .unset] [(.ref e4)])
    refine ogo (fun _ z_ => XS.astoreN X50.here hx rfl (hb hby at_12) rfl rfl (l' := #[.val (.int p0), .val (.int (4 : Int32)), .val (.ref e4), .unset, .unset, .unset]) rfl z_) ?_
    show OWay p e below G T50 (mkF m 13 #[.val (.int p0), .val (.int (4 : Int32)), .val (.ref e4), .unset, .unset, .unset] [])
    refine ogo (fun _ z_ => XS.aloadN X50.here hx rfl (hb hby at_13) rfl rfl z_) ?_
    show OWay p e below G T50 (mkF m 14 #[.val (.int p0), .val (.int (4 : Int32)), .val (.ref e4), .unset, .unset, .unset] [(.ref e4)])
    obtain ⟨_, T51, L51, X51, hQ51, st51⟩ := wVirtual X50 hx hZ (y := (⟨"com/example/stockwire/stockwire/codec/Envelope$Part", "opens", "()Z"⟩ : MethodName)) (z := (⟨"com/example/stockwire/stockwire/codec/Envelope$Part", "opens", "()Z"⟩ : MethodName)) hown (hw _ (List.mem_of_getElem? (i := 8) rfl)) (hw _ (List.mem_of_getElem? (i := 9) rfl)) (notFace_of_selects (args := #[]) (mvT hZ (hw _ (List.mem_of_getElem? (i := 11) rfl)))) (hw _ (List.mem_of_getElem? (i := 11) rfl)) (hw _ (List.mem_of_getElem? (i := 10) rfl)) (hw _ (List.mem_of_getElem? (i := 6) rfl)) (hw _ (List.mem_of_getElem? (i := 12) rfl)) (by decide) (opens4_c l Z az hw [] e4 e0 e1 e2 h0 n0 Z0 hp2 hp9 hp16 hp50 hp51 hp52 hp1) 0 (by decide) (by decide) (hp31.ext hp1.2) (g := (mkF m 14 #[.val (.int p0), .val (.int (4 : Int32)), .val (.ref e4), .unset, .unset, .unset] [(.ref e4)])) rfl (by rw [hml]; rfl) (argsL := []) (rest := []) (lenOf pd___Z rfl) rfl (by show 2 * 0 + _ ≤ _; exact Nat.le_of_eq rfl) (hb hby at_14) rfl eq50 (by decide) (by decide)
    obtain ⟨rfl, N51q, eq51⟩ := hQ51
    have N51 := Fr.app N50 N51q
    refine ogoS st51 ?_
    show OWay p e below G T51 (mkF m 17 #[.val (.int p0), .val (.int (4 : Int32)), .val (.ref e4), .unset, .unset, .unset] [(.int (0 : Int32))])
    refine ogo (fun _ z_ => XS.istoreN X51.here hx rfl (hb hby at_17) rfl (l' := #[.val (.int p0), .val (.int (4 : Int32)), .val (.ref e4), .val (.int (0 : Int32)), .unset, .unset]) rfl z_) ?_
    show OWay p e below G T51 (mkF m 18 #[.val (.int p0), .val (.int (4 : Int32)), .val (.ref e4), .val (.int (0 : Int32)), .unset, .unset] [])
    refine ogo (fun _ z_ => XS.aloadN X51.here hx rfl (hb hby at_18) rfl rfl z_) ?_
    show OWay p e below G T51 (mkF m 19 #[.val (.int p0), .val (.int (4 : Int32)), .val (.ref e4), .val (.int (0 : Int32)), .unset, .unset] [(.ref e4)])
    obtain ⟨_, T52, L52, X52, hQ52, st52⟩ := wVirtual X51 hx hZ (y := (⟨"com/example/stockwire/stockwire/codec/Envelope$Part", "id", "()Ljava/lang/String;"⟩ : MethodName)) (z := (⟨"com/example/stockwire/stockwire/codec/Envelope$Part", "id", "()Ljava/lang/String;"⟩ : MethodName)) hown (hw _ (List.mem_of_getElem? (i := 14) rfl)) (hw _ (List.mem_of_getElem? (i := 15) rfl)) (notFace_of_selects (args := #[]) (mvT hZ (hw _ (List.mem_of_getElem? (i := 17) rfl)))) (hw _ (List.mem_of_getElem? (i := 17) rfl)) (hw _ (List.mem_of_getElem? (i := 16) rfl)) (hw _ (List.mem_of_getElem? (i := 6) rfl)) (hw _ (List.mem_of_getElem? (i := 18) rfl)) (by decide) (get3_c l Z az hw [] e4 s4 h0 n0 Z0 (hp32.ext hp1.2)) 0 (by decide) (by decide) (hp31.ext hp1.2) (g := (mkF m 19 #[.val (.int p0), .val (.int (4 : Int32)), .val (.ref e4), .val (.int (0 : Int32)), .unset, .unset] [(.ref e4)])) rfl (by rw [hml]; rfl) (argsL := []) (rest := []) (lenOf pd___Ljava_lang_String_ rfl) rfl (by show 2 * 0 + _ ≤ _; exact Nat.le_of_eq rfl) (hb hby at_19) rfl eq51 (by decide) (by decide)
    obtain ⟨rfl, N52q, eq52⟩ := hQ52
    have N52 := Fr.app N51 N52q
    refine ogoS st52 ?_
    show OWay p e below G T52 (mkF m 22 #[.val (.int p0), .val (.int (4 : Int32)), .val (.ref e4), .val (.int (0 : Int32)), .unset, .unset] [(.ref s4)])
    refine ogo (fun _ z_ => XS.astore X52.here hx rfl (hb hby at_22) rfl rfl (l' := #[.val (.int p0), .val (.int (4 : Int32)), .val (.ref e4), .val (.int (0 : Int32)), .val (.ref s4), .unset]) rfl z_) ?_
    show OWay p e below G T52 (mkF m 24 #[.val (.int p0), .val (.int (4 : Int32)), .val (.ref e4), .val (.int (0 : Int32)), .val (.ref s4), .unset] [])
    refine ogo (fun _ z_ => XS.aload X52.here hx rfl (hb hby at_24) rfl rfl z_) ?_
    show OWay p e below G T52 (mkF m 26 #[.val (.int p0), .val (.int (4 : Int32)), .val (.ref e4), .val (.int (0 : Int32)), .val (.ref s4), .unset] [(.ref s4)])
    have I0 : IB Z s.vm [] := by rw [hU0]; exact IB.start
    obtain ⟨a53, T53, h53, k53, b53, kc53, X53, eT53, E53, hS53, hk53, hZ53, hown53, Ex53, Co53, Va53, Ar53, la53, lb53, IB53, st53⟩ := ldcSV (s := s) (vm0 := s.vm) (Z := Z) (Ts := []) X52 hx hZ hown (hw _ (List.mem_of_getElem? (i := 21) rfl)) (own_wS hw) eq52 hS0 hk0 (by rw [hh0, ← hn0]; exact N52) (fun b cl q => by rw [hU0]; exact q) I0 (by decide) hh43 hcw (vs := [(.int (77 : Int32)), (.int (83 : Int32)), (.int (72 : Int32))]) (z := (3 : Int32)) ⟨by decide, by decide⟩ (by decide) (by decide) (g := (mkF m 26 #[.val (.int p0), .val (.int (4 : Int32)), .val (.ref e4), .val (.int (0 : Int32)), .val (.ref s4), .unset] [(.ref s4)])) rfl (hb hby at_26) (n := 12) (by decide) (by decide) (by decide) (by decide)
    have hZ := hZ53
    have hown := hown53
    have K54 : Keep h0 h53 [] := K0.ext E53
    refine ogo st53 ?_
    show OWay p e below G T53 (mkF m 28 #[.val (.int p0), .val (.int (4 : Int32)), .val (.ref e4), .val (.int (0 : Int32)), .val (.ref s4), .unset] [(.ref a53), (.ref s4)])
    have F56 : Old Z n0 h53 := (hp1.ext E53)
    have hwe : ∀ d ∈ StrChars.Road.wordsEq, d.before az Z = true := fun d hd => hw d ((by decide +kernel : ∀ d ∈ StrChars.Road.wordsEq, d ∈ tables_1) d hd)
    obtain ⟨cq55, kq55, q55a, q55b, q55c⟩ := isOf hZ eT53 (hp33.ext F56.2)
    obtain ⟨v55, _, ⟨T55, L55, k55, n55⟩, -, X55, ⟨Lc55, hQ55, l55, y55, z55⟩, st55⟩ := X53.virtualBack hx (y := (⟨"java/lang/String", "equals", "(Ljava/lang/Object;)Z"⟩ : MethodName)) (z := (⟨"java/lang/String", "equals", "(Ljava/lang/Object;)Z"⟩ : MethodName)) hown (mvT hZ (hw _ (List.mem_of_getElem? (i := 29) rfl))) (mvT hZ (hw _ (List.mem_of_getElem? (i := 30) rfl))) (notFace_of_selects (args := #[]) (mvT hZ (hw _ (List.mem_of_getElem? (i := 32) rfl)))) (mvT hZ (hw _ (List.mem_of_getElem? (i := 32) rfl))) (mvT hZ (hw _ (List.mem_of_getElem? (i := 31) rfl))) (by decide) (StrChars.Road.eqW (W := 0) hZ hwe (kI := 4) (hw _ (List.mem_of_getElem? (i := 23) rfl)) (hp33.ext F56.2) (hp35.ext F56.2) (hp34.ext F56.2) (hp36.ext F56.2) (show StrChars.Road.CodA [70, 84, 83] 0 (3 : Int32) [(.int (70 : Int32)), (.int (84 : Int32)), (.int (83 : Int32))] from Or.inl ⟨rfl, by decide, by decide, by decide⟩) (by decide) (by decide) Ex53 Va53 Co53 Ar53 (show StrChars.Road.CodA [77, 83, 72] 0 (3 : Int32) [(.int (77 : Int32)), (.int (83 : Int32)), (.int (72 : Int32))] from Or.inl ⟨rfl, by decide, by decide, by decide⟩) (by decide) (by decide) (hp0.ext F56.2) hcp (by decide) (by decide)) q55a q55c (g := (mkF m 28 #[.val (.int p0), .val (.int (4 : Int32)), .val (.ref e4), .val (.int (0 : Int32)), .val (.ref s4), .unset] [(.ref a53), (.ref s4)])) rfl (by rw [hml]; rfl) (Steps.refl _) (argsL := [(.ref a53)]) (rest := []) (lenOf pd__Ljava_lang_Object__Z rfl) rfl (by show 2 * 0 + _ ≤ _; exact Nat.le_of_eq rfl) (hb hby at_28) (fun _ _ => ⟨rfl, eT53, (by decide : 2 + 0 ≤ room_1.cells), (by decide : 16 + 0 ≤ room_1.slots)⟩)
    dsimp only [Pt.U, Pt.locs, Pt.cells, Pt.slots] at X55 l55 y55 z55 st55 hQ55
    subst l55 y55 z55
    obtain ⟨hv55, rfl, eq55⟩ := hQ55
    obtain rfl : v55 = some (.int (0 : Int32)) := hv55.elim (fun q => absurd q.2 (by decide)) And.left
    have N55 := Fr.app N52 (Fr.nil n0)
    refine ogoS st55 ?_
    show OWay p e below G T55 (mkF m 31 #[.val (.int p0), .val (.int (4 : Int32)), .val (.ref e4), .val (.int (0 : Int32)), .val (.ref s4), .unset] [(.int (0 : Int32))])
    refine ogo (fun _ z_ => XS.ifNo X55.here hx rfl (hb hby at_31) rfl ((if0 _ _).trans (teq rfl).2) z_) ?_
    show OWay p e below G T55 (mkF m 34 #[.val (.int p0), .val (.int (4 : Int32)), .val (.ref e4), .val (.int (0 : Int32)), .val (.ref s4), .unset] [])
    refine ogo (fun _ z_ => XS.aload X55.here hx rfl (hb hby at_34) rfl rfl z_) ?_
    show OWay p e below G T55 (mkF m 36 #[.val (.int p0), .val (.int (4 : Int32)), .val (.ref e4), .val (.int (0 : Int32)), .val (.ref s4), .unset] [(.ref s4)])
    obtain ⟨a57, T57, h57, k57, b57, kc57, X57, eT57, E57, hS57, hk57, hZ57, hown57, Ex57, Co57, Va57, Ar57, la57, lb57, IB57, st57⟩ := ldcSV (s := s) (vm0 := T53.vm) (Z := Z) (Ts := ["MSH"]) X55 hx hZ hown (hw _ (List.mem_of_getElem? (i := 49) rfl)) (own_wS hw) eq55 hS53 hk53 (by rw [hh0, ← hn0]; exact N55) (fun b cl q => by rw [hU0]; exact q) IB53 (by decide) hh51 hcw (vs := [(.int (70 : Int32)), (.int (72 : Int32)), (.int (83 : Int32))]) (z := (3 : Int32)) ⟨by decide, by decide⟩ (by decide) (by decide) (g := (mkF m 36 #[.val (.int p0), .val (.int (4 : Int32)), .val (.ref e4), .val (.int (0 : Int32)), .val (.ref s4), .unset] [(.ref s4)])) rfl (hb hby at_36) (n := 12) (by decide) (by decide) (by decide) (by decide)
    have hZ := hZ57
    have hown := hown57
    have K58 : Keep h0 h57 [] := K54.ext E57
    refine ogo st57 ?_
    show OWay p e below G T57 (mkF m 38 #[.val (.int p0), .val (.int (4 : Int32)), .val (.ref e4), .val (.int (0 : Int32)), .val (.ref s4), .unset] [(.ref a57), (.ref s4)])
    have F60 : Old Z n0 h57 := (F56.ext E57)
    have hwe : ∀ d ∈ StrChars.Road.wordsEq, d.before az Z = true := fun d hd => hw d ((by decide +kernel : ∀ d ∈ StrChars.Road.wordsEq, d ∈ tables_1) d hd)
    obtain ⟨cq59, kq59, q59a, q59b, q59c⟩ := isOf hZ eT57 (hp33.ext F60.2)
    obtain ⟨v59, _, ⟨T59, L59, k59, n59⟩, -, X59, ⟨Lc59, hQ59, l59, y59, z59⟩, st59⟩ := X57.virtualBack hx (y := (⟨"java/lang/String", "equals", "(Ljava/lang/Object;)Z"⟩ : MethodName)) (z := (⟨"java/lang/String", "equals", "(Ljava/lang/Object;)Z"⟩ : MethodName)) hown (mvT hZ (hw _ (List.mem_of_getElem? (i := 29) rfl))) (mvT hZ (hw _ (List.mem_of_getElem? (i := 30) rfl))) (notFace_of_selects (args := #[]) (mvT hZ (hw _ (List.mem_of_getElem? (i := 32) rfl)))) (mvT hZ (hw _ (List.mem_of_getElem? (i := 32) rfl))) (mvT hZ (hw _ (List.mem_of_getElem? (i := 31) rfl))) (by decide) (StrChars.Road.eqW (W := 0) hZ hwe (kI := 4) (hw _ (List.mem_of_getElem? (i := 23) rfl)) (hp33.ext F60.2) (hp35.ext F60.2) (hp34.ext F60.2) (hp36.ext F60.2) (show StrChars.Road.CodA [70, 84, 83] 0 (3 : Int32) [(.int (70 : Int32)), (.int (84 : Int32)), (.int (83 : Int32))] from Or.inl ⟨rfl, by decide, by decide, by decide⟩) (by decide) (by decide) Ex57 Va57 Co57 Ar57 (show StrChars.Road.CodA [70, 72, 83] 0 (3 : Int32) [(.int (70 : Int32)), (.int (72 : Int32)), (.int (83 : Int32))] from Or.inl ⟨rfl, by decide, by decide, by decide⟩) (by decide) (by decide) (hp0.ext F60.2) hcp (by decide) (by decide)) q59a q59c (g := (mkF m 38 #[.val (.int p0), .val (.int (4 : Int32)), .val (.ref e4), .val (.int (0 : Int32)), .val (.ref s4), .unset] [(.ref a57), (.ref s4)])) rfl (by rw [hml]; rfl) (Steps.refl _) (argsL := [(.ref a57)]) (rest := []) (lenOf pd__Ljava_lang_Object__Z rfl) rfl (by show 2 * 0 + _ ≤ _; exact Nat.le_of_eq rfl) (hb hby at_38) (fun _ _ => ⟨rfl, eT57, (by decide : 4 + 0 ≤ room_1.cells), (by decide : 32 + 0 ≤ room_1.slots)⟩)
    dsimp only [Pt.U, Pt.locs, Pt.cells, Pt.slots] at X59 l59 y59 z59 st59 hQ59
    subst l59 y59 z59
    obtain ⟨hv59, rfl, eq59⟩ := hQ59
    obtain rfl : v59 = some (.int (0 : Int32)) := hv59.elim (fun q => absurd q.2 (by decide)) And.left
    have N59 := Fr.app N55 (Fr.nil n0)
    refine ogoS st59 ?_
    show OWay p e below G T59 (mkF m 41 #[.val (.int p0), .val (.int (4 : Int32)), .val (.ref e4), .val (.int (0 : Int32)), .val (.ref s4), .unset] [(.int (0 : Int32))])
    refine ogo (fun _ z_ => XS.ifNo X59.here hx rfl (hb hby at_41) rfl ((if0 _ _).trans (teq rfl).2) z_) ?_
    show OWay p e below G T59 (mkF m 44 #[.val (.int p0), .val (.int (4 : Int32)), .val (.ref e4), .val (.int (0 : Int32)), .val (.ref s4), .unset] [])
    refine ogo (fun _ z_ => XS.aload X59.here hx rfl (hb hby at_44) rfl rfl z_) ?_
    show OWay p e below G T59 (mkF m 46 #[.val (.int p0), .val (.int (4 : Int32)), .val (.ref e4), .val (.int (0 : Int32)), .val (.ref s4), .unset] [(.ref s4)])
    obtain ⟨a61, T61, h61, k61, b61, kc61, X61, eT61, E61, hS61, hk61, hZ61, hown61, Ex61, Co61, Va61, Ar61, la61, lb61, IB61, st61⟩ := ldcSV (s := s) (vm0 := T57.vm) (Z := Z) (Ts := ["FHS", "MSH"]) X59 hx hZ hown (hw _ (List.mem_of_getElem? (i := 50) rfl)) (own_wS hw) eq59 hS57 hk57 (by rw [hh0, ← hn0]; exact N59) (fun b cl q => by rw [hU0]; exact q) IB57 (by decide) hh53 hcw (vs := [(.int (66 : Int32)), (.int (72 : Int32)), (.int (83 : Int32))]) (z := (3 : Int32)) ⟨by decide, by decide⟩ (by decide) (by decide) (g := (mkF m 46 #[.val (.int p0), .val (.int (4 : Int32)), .val (.ref e4), .val (.int (0 : Int32)), .val (.ref s4), .unset] [(.ref s4)])) rfl (hb hby at_46) (n := 12) (by decide) (by decide) (by decide) (by decide)
    have hZ := hZ61
    have hown := hown61
    have K62 : Keep h0 h61 [] := K58.ext E61
    refine ogo st61 ?_
    show OWay p e below G T61 (mkF m 48 #[.val (.int p0), .val (.int (4 : Int32)), .val (.ref e4), .val (.int (0 : Int32)), .val (.ref s4), .unset] [(.ref a61), (.ref s4)])
    have F64 : Old Z n0 h61 := (F60.ext E61)
    have hwe : ∀ d ∈ StrChars.Road.wordsEq, d.before az Z = true := fun d hd => hw d ((by decide +kernel : ∀ d ∈ StrChars.Road.wordsEq, d ∈ tables_1) d hd)
    obtain ⟨cq63, kq63, q63a, q63b, q63c⟩ := isOf hZ eT61 (hp33.ext F64.2)
    obtain ⟨v63, _, ⟨T63, L63, k63, n63⟩, -, X63, ⟨Lc63, hQ63, l63, y63, z63⟩, st63⟩ := X61.virtualBack hx (y := (⟨"java/lang/String", "equals", "(Ljava/lang/Object;)Z"⟩ : MethodName)) (z := (⟨"java/lang/String", "equals", "(Ljava/lang/Object;)Z"⟩ : MethodName)) hown (mvT hZ (hw _ (List.mem_of_getElem? (i := 29) rfl))) (mvT hZ (hw _ (List.mem_of_getElem? (i := 30) rfl))) (notFace_of_selects (args := #[]) (mvT hZ (hw _ (List.mem_of_getElem? (i := 32) rfl)))) (mvT hZ (hw _ (List.mem_of_getElem? (i := 32) rfl))) (mvT hZ (hw _ (List.mem_of_getElem? (i := 31) rfl))) (by decide) (StrChars.Road.eqW (W := 0) hZ hwe (kI := 4) (hw _ (List.mem_of_getElem? (i := 23) rfl)) (hp33.ext F64.2) (hp35.ext F64.2) (hp34.ext F64.2) (hp36.ext F64.2) (show StrChars.Road.CodA [70, 84, 83] 0 (3 : Int32) [(.int (70 : Int32)), (.int (84 : Int32)), (.int (83 : Int32))] from Or.inl ⟨rfl, by decide, by decide, by decide⟩) (by decide) (by decide) Ex61 Va61 Co61 Ar61 (show StrChars.Road.CodA [66, 72, 83] 0 (3 : Int32) [(.int (66 : Int32)), (.int (72 : Int32)), (.int (83 : Int32))] from Or.inl ⟨rfl, by decide, by decide, by decide⟩) (by decide) (by decide) (hp0.ext F64.2) hcp (by decide) (by decide)) q63a q63c (g := (mkF m 48 #[.val (.int p0), .val (.int (4 : Int32)), .val (.ref e4), .val (.int (0 : Int32)), .val (.ref s4), .unset] [(.ref a61), (.ref s4)])) rfl (by rw [hml]; rfl) (Steps.refl _) (argsL := [(.ref a61)]) (rest := []) (lenOf pd__Ljava_lang_Object__Z rfl) rfl (by show 2 * 0 + _ ≤ _; exact Nat.le_of_eq rfl) (hb hby at_48) (fun _ _ => ⟨rfl, eT61, (by decide : 6 + 0 ≤ room_1.cells), (by decide : 48 + 0 ≤ room_1.slots)⟩)
    dsimp only [Pt.U, Pt.locs, Pt.cells, Pt.slots] at X63 l63 y63 z63 st63 hQ63
    subst l63 y63 z63
    obtain ⟨hv63, rfl, eq63⟩ := hQ63
    obtain rfl : v63 = some (.int (0 : Int32)) := hv63.elim (fun q => absurd q.2 (by decide)) And.left
    have N63 := Fr.app N59 (Fr.nil n0)
    refine ogoS st63 ?_
    show OWay p e below G T63 (mkF m 51 #[.val (.int p0), .val (.int (4 : Int32)), .val (.ref e4), .val (.int (0 : Int32)), .val (.ref s4), .unset] [(.int (0 : Int32))])
    refine ogo (fun _ z_ => XS.ifYes X63.here hx rfl (pc0 := 51) (pc' := 58) rfl (hb hby at_51) rfl ((if0 _ _).trans (teq rfl).1) (by decide) (by decide) z_) ?_
    show OWay p e below G T63 (mkF m 58 #[.val (.int p0), .val (.int (4 : Int32)), .val (.ref e4), .val (.int (0 : Int32)), .val (.ref s4), .unset] [])
    refine ogo (fun _ z_ => XS.iconst X63.here hx rfl (hb hby at_58) z_) ?_
    show OWay p e below G T63 (mkF m 59 #[.val (.int p0), .val (.int (4 : Int32)), .val (.ref e4), .val (.int (0 : Int32)), .val (.ref s4), .unset] [(.int (0 : Int32))])
    refine ogo (fun _ z_ => XS.istore X63.here hx rfl (hb hby at_59) rfl (l' := #[.val (.int p0), .val (.int (4 : Int32)), .val (.ref e4), .val (.int (0 : Int32)), .val (.ref s4), .val (.int (0 : Int32))]) rfl z_) ?_
    show OWay p e below G T63 (mkF m 61 #[.val (.int p0), .val (.int (4 : Int32)), .val (.ref e4), .val (.int (0 : Int32)), .val (.ref s4), .val (.int (0 : Int32))] [])
    refine ogo (fun _ z_ => XS.iloadN X63.here hx rfl (hb hby at_61) rfl z_) ?_
    show OWay p e below G T63 (mkF m 62 #[.val (.int p0), .val (.int (4 : Int32)), .val (.ref e4), .val (.int (0 : Int32)), .val (.ref s4), .val (.int (0 : Int32))] [(.int (0 : Int32))])
    refine ogo (fun _ z_ => XS.iloadN X63.here hx rfl (hb hby at_62) rfl z_) ?_
    show OWay p e below G T63 (mkF m 63 #[.val (.int p0), .val (.int (4 : Int32)), .val (.ref e4), .val (.int (0 : Int32)), .val (.ref s4), .val (.int (0 : Int32))] [(.int (4 : Int32)), (.int (0 : Int32))])
    refine ogo (fun _ z_ => XS.iconst X63.here hx rfl (hb hby at_63) z_) ?_
    show OWay p e below G T63 (mkF m 64 #[.val (.int p0), .val (.int (4 : Int32)), .val (.ref e4), .val (.int (0 : Int32)), .val (.ref s4), .val (.int (0 : Int32))] [(.int (3 : Int32)), (.int (4 : Int32)), (.int (0 : Int32))])
    refine ogo (fun _ z_ => XS.icmpYes X63.here hx rfl (pc0 := 64) (pc' := 71) rfl (hb hby at_64) rfl (flt (by decide)).2.1 (by decide) (by decide) z_) ?_
    show OWay p e below G T63 (mkF m 71 #[.val (.int p0), .val (.int (4 : Int32)), .val (.ref e4), .val (.int (0 : Int32)), .val (.ref s4), .val (.int (0 : Int32))] [(.int (0 : Int32))])
    refine ogo (fun _ z_ => XS.iconst X63.here hx rfl (hb hby at_71) z_) ?_
    show OWay p e below G T63 (mkF m 72 #[.val (.int p0), .val (.int (4 : Int32)), .val (.ref e4), .val (.int (0 : Int32)), .val (.ref s4), .val (.int (0 : Int32))] [(.int (0 : Int32)), (.int (0 : Int32))])
    refine ogo (fun _ z_ => XS.icmpNo X63.here hx rfl (hb hby at_72) rfl (teq rfl).2 z_) ?_
    show OWay p e below G T63 (mkF m 75 #[.val (.int p0), .val (.int (4 : Int32)), .val (.ref e4), .val (.int (0 : Int32)), .val (.ref s4), .val (.int (0 : Int32))] [])
    refine ogo (fun _ z_ => XS.iloadN X63.here hx rfl (hb hby at_75) rfl z_) ?_
    show OWay p e below G T63 (mkF m 76 #[.val (.int p0), .val (.int (4 : Int32)), .val (.ref e4), .val (.int (0 : Int32)), .val (.ref s4), .val (.int (0 : Int32))] [(.int (0 : Int32))])
    refine ogo (fun _ z_ => XS.iload X63.here hx rfl (hb hby at_76) rfl z_) ?_
    show OWay p e below G T63 (mkF m 78 #[.val (.int p0), .val (.int (4 : Int32)), .val (.ref e4), .val (.int (0 : Int32)), .val (.ref s4), .val (.int (0 : Int32))] [(.int (0 : Int32)), (.int (0 : Int32))])
    refine ogo (fun _ z_ => XS.icmpNo X63.here hx rfl (hb hby at_78) rfl (teq rfl).2 z_) ?_
    show OWay p e below G T63 (mkF m 81 #[.val (.int p0), .val (.int (4 : Int32)), .val (.ref e4), .val (.int (0 : Int32)), .val (.ref s4), .val (.int (0 : Int32))] [])
    refine ogo (fun _ z_ => XS.iconst X63.here hx rfl (hb hby at_81) z_) ?_
    show OWay p e below G T63 (mkF m 82 #[.val (.int p0), .val (.int (4 : Int32)), .val (.ref e4), .val (.int (0 : Int32)), .val (.ref s4), .val (.int (0 : Int32))] [(.int (1 : Int32))])
    refine ogo (fun _ z_ => XS.goto X63.here hx rfl (pc0 := 82) (pc' := 86) rfl (hb hby at_82) (by decide) (by decide) z_) ?_
    show OWay p e below G T63 (mkF m 86 #[.val (.int p0), .val (.int (4 : Int32)), .val (.ref e4), .val (.int (0 : Int32)), .val (.ref s4), .val (.int (0 : Int32))] [(.int (1 : Int32))])
    subst hG
    refine wRetNW (s := s) (vm0 := T61.vm) X63 hx (t := .boolean) hret hlk (by simp) (hb hby at_86) (by decide) (by decide) hS61 hk61 eq63 ?_
    exact ⟨rfl, N63⟩
  · show OWay p e below G s₁ (mkF m 8 #[.val (.int p0), .val (.int (5 : Int32)), .unset, .unset, .unset, .unset] [])
    refine ogo (fun _ z_ => XS.iloadN X0.here hx rfl (hb hby at_8) rfl z_) ?_
    show OWay p e below G s₁ (mkF m 9 #[.val (.int p0), .val (.int (5 : Int32)), .unset, .unset, .unset, .unset] [(.int (5 : Int32))])
    obtain ⟨_, T65, L65, X65, hQ65, st65⟩ := wStatic X0 hx hZ (y := (⟨"com/example/stockwire/stockwire/codec/PartOpensPinLaw", "pick", "(I)Lcom/example/stockwire/stockwire/codec/Envelope$Part;"⟩ : MethodName)) hown (hw _ (List.mem_of_getElem? (i := 1) rfl)) (hw _ (List.mem_of_getElem? (i := 2) rfl)) (hw _ (List.mem_of_getElem? (i := 3) rfl)) (hw _ (List.mem_of_getElem? (i := 4) rfl)) (by decide) (pick5_c l Z az hw [] e5 h0 n0 Z0 hp37 hp1) 0 (by decide) (by decide) (g := (mkF m 9 #[.val (.int p0), .val (.int (5 : Int32)), .unset, .unset, .unset, .unset] [(.int (5 : Int32))])) rfl (by rw [hml]; rfl) (argsL := [(.int (5 : Int32))]) (rest := []) (lenOf pd__I_Lcom_example_stockwire_stockwire_codec_Envelope_Part_ rfl) rfl (by show 2 * 0 + _ ≤ _; exact Nat.le_of_eq rfl) (hb hby at_9) rfl eh0 (by decide) (by decide)
    obtain ⟨rfl, N65q, eq65⟩ := hQ65
    have N65 := Fr.app N0 N65q
    refine ogo st65 ?_
    show OWay p e below G T65 (mkF m 12 #[.val (.int p0), .val (.int (5 : Int32)), .unset, .unset, .unset, .unset] [(.ref e5)])
    refine ogo (fun _ z_ => XS.astoreN X65.here hx rfl (hb hby at_12) rfl rfl (l' := #[.val (.int p0), .val (.int (5 : Int32)), .val (.ref e5), .unset, .unset, .unset]) rfl z_) ?_
    show OWay p e below G T65 (mkF m 13 #[.val (.int p0), .val (.int (5 : Int32)), .val (.ref e5), .unset, .unset, .unset] [])
    refine ogo (fun _ z_ => XS.aloadN X65.here hx rfl (hb hby at_13) rfl rfl z_) ?_
    show OWay p e below G T65 (mkF m 14 #[.val (.int p0), .val (.int (5 : Int32)), .val (.ref e5), .unset, .unset, .unset] [(.ref e5)])
    obtain ⟨_, T66, L66, X66, hQ66, st66⟩ := wVirtual X65 hx hZ (y := (⟨"com/example/stockwire/stockwire/codec/Envelope$Part", "opens", "()Z"⟩ : MethodName)) (z := (⟨"com/example/stockwire/stockwire/codec/Envelope$Part", "opens", "()Z"⟩ : MethodName)) hown (hw _ (List.mem_of_getElem? (i := 8) rfl)) (hw _ (List.mem_of_getElem? (i := 9) rfl)) (notFace_of_selects (args := #[]) (mvT hZ (hw _ (List.mem_of_getElem? (i := 11) rfl)))) (hw _ (List.mem_of_getElem? (i := 11) rfl)) (hw _ (List.mem_of_getElem? (i := 10) rfl)) (hw _ (List.mem_of_getElem? (i := 6) rfl)) (hw _ (List.mem_of_getElem? (i := 12) rfl)) (by decide) (opens5_c l Z az hw [] e5 e0 e1 e2 h0 n0 Z0 hp2 hp9 hp16 hp53 hp54 hp55 hp1) 0 (by decide) (by decide) (hp38.ext hp1.2) (g := (mkF m 14 #[.val (.int p0), .val (.int (5 : Int32)), .val (.ref e5), .unset, .unset, .unset] [(.ref e5)])) rfl (by rw [hml]; rfl) (argsL := []) (rest := []) (lenOf pd___Z rfl) rfl (by show 2 * 0 + _ ≤ _; exact Nat.le_of_eq rfl) (hb hby at_14) rfl eq65 (by decide) (by decide)
    obtain ⟨rfl, N66q, eq66⟩ := hQ66
    have N66 := Fr.app N65 N66q
    refine ogoS st66 ?_
    show OWay p e below G T66 (mkF m 17 #[.val (.int p0), .val (.int (5 : Int32)), .val (.ref e5), .unset, .unset, .unset] [(.int (0 : Int32))])
    refine ogo (fun _ z_ => XS.istoreN X66.here hx rfl (hb hby at_17) rfl (l' := #[.val (.int p0), .val (.int (5 : Int32)), .val (.ref e5), .val (.int (0 : Int32)), .unset, .unset]) rfl z_) ?_
    show OWay p e below G T66 (mkF m 18 #[.val (.int p0), .val (.int (5 : Int32)), .val (.ref e5), .val (.int (0 : Int32)), .unset, .unset] [])
    refine ogo (fun _ z_ => XS.aloadN X66.here hx rfl (hb hby at_18) rfl rfl z_) ?_
    show OWay p e below G T66 (mkF m 19 #[.val (.int p0), .val (.int (5 : Int32)), .val (.ref e5), .val (.int (0 : Int32)), .unset, .unset] [(.ref e5)])
    obtain ⟨_, T67, L67, X67, hQ67, st67⟩ := wVirtual X66 hx hZ (y := (⟨"com/example/stockwire/stockwire/codec/Envelope$Part", "id", "()Ljava/lang/String;"⟩ : MethodName)) (z := (⟨"com/example/stockwire/stockwire/codec/Envelope$Part", "id", "()Ljava/lang/String;"⟩ : MethodName)) hown (hw _ (List.mem_of_getElem? (i := 14) rfl)) (hw _ (List.mem_of_getElem? (i := 15) rfl)) (notFace_of_selects (args := #[]) (mvT hZ (hw _ (List.mem_of_getElem? (i := 17) rfl)))) (hw _ (List.mem_of_getElem? (i := 17) rfl)) (hw _ (List.mem_of_getElem? (i := 16) rfl)) (hw _ (List.mem_of_getElem? (i := 6) rfl)) (hw _ (List.mem_of_getElem? (i := 18) rfl)) (by decide) (get3_c l Z az hw [] e5 s5 h0 n0 Z0 (hp39.ext hp1.2)) 0 (by decide) (by decide) (hp38.ext hp1.2) (g := (mkF m 19 #[.val (.int p0), .val (.int (5 : Int32)), .val (.ref e5), .val (.int (0 : Int32)), .unset, .unset] [(.ref e5)])) rfl (by rw [hml]; rfl) (argsL := []) (rest := []) (lenOf pd___Ljava_lang_String_ rfl) rfl (by show 2 * 0 + _ ≤ _; exact Nat.le_of_eq rfl) (hb hby at_19) rfl eq66 (by decide) (by decide)
    obtain ⟨rfl, N67q, eq67⟩ := hQ67
    have N67 := Fr.app N66 N67q
    refine ogoS st67 ?_
    show OWay p e below G T67 (mkF m 22 #[.val (.int p0), .val (.int (5 : Int32)), .val (.ref e5), .val (.int (0 : Int32)), .unset, .unset] [(.ref s5)])
    refine ogo (fun _ z_ => XS.astore X67.here hx rfl (hb hby at_22) rfl rfl (l' := #[.val (.int p0), .val (.int (5 : Int32)), .val (.ref e5), .val (.int (0 : Int32)), .val (.ref s5), .unset]) rfl z_) ?_
    show OWay p e below G T67 (mkF m 24 #[.val (.int p0), .val (.int (5 : Int32)), .val (.ref e5), .val (.int (0 : Int32)), .val (.ref s5), .unset] [])
    refine ogo (fun _ z_ => XS.aload X67.here hx rfl (hb hby at_24) rfl rfl z_) ?_
    show OWay p e below G T67 (mkF m 26 #[.val (.int p0), .val (.int (5 : Int32)), .val (.ref e5), .val (.int (0 : Int32)), .val (.ref s5), .unset] [(.ref s5)])
    have I0 : IB Z s.vm [] := by rw [hU0]; exact IB.start
    obtain ⟨a68, T68, h68, k68, b68, kc68, X68, eT68, E68, hS68, hk68, hZ68, hown68, Ex68, Co68, Va68, Ar68, la68, lb68, IB68, st68⟩ := ldcSV (s := s) (vm0 := s.vm) (Z := Z) (Ts := []) X67 hx hZ hown (hw _ (List.mem_of_getElem? (i := 21) rfl)) (own_wS hw) eq67 hS0 hk0 (by rw [hh0, ← hn0]; exact N67) (fun b cl q => by rw [hU0]; exact q) I0 (by decide) hh43 hcw (vs := [(.int (77 : Int32)), (.int (83 : Int32)), (.int (72 : Int32))]) (z := (3 : Int32)) ⟨by decide, by decide⟩ (by decide) (by decide) (g := (mkF m 26 #[.val (.int p0), .val (.int (5 : Int32)), .val (.ref e5), .val (.int (0 : Int32)), .val (.ref s5), .unset] [(.ref s5)])) rfl (hb hby at_26) (n := 12) (by decide) (by decide) (by decide) (by decide)
    have hZ := hZ68
    have hown := hown68
    have K69 : Keep h0 h68 [] := K0.ext E68
    refine ogo st68 ?_
    show OWay p e below G T68 (mkF m 28 #[.val (.int p0), .val (.int (5 : Int32)), .val (.ref e5), .val (.int (0 : Int32)), .val (.ref s5), .unset] [(.ref a68), (.ref s5)])
    have F71 : Old Z n0 h68 := (hp1.ext E68)
    have hwe : ∀ d ∈ StrChars.Road.wordsEq, d.before az Z = true := fun d hd => hw d ((by decide +kernel : ∀ d ∈ StrChars.Road.wordsEq, d ∈ tables_1) d hd)
    obtain ⟨cq70, kq70, q70a, q70b, q70c⟩ := isOf hZ eT68 (hp40.ext F71.2)
    obtain ⟨v70, _, ⟨T70, L70, k70, n70⟩, -, X70, ⟨Lc70, hQ70, l70, y70, z70⟩, st70⟩ := X68.virtualBack hx (y := (⟨"java/lang/String", "equals", "(Ljava/lang/Object;)Z"⟩ : MethodName)) (z := (⟨"java/lang/String", "equals", "(Ljava/lang/Object;)Z"⟩ : MethodName)) hown (mvT hZ (hw _ (List.mem_of_getElem? (i := 29) rfl))) (mvT hZ (hw _ (List.mem_of_getElem? (i := 30) rfl))) (notFace_of_selects (args := #[]) (mvT hZ (hw _ (List.mem_of_getElem? (i := 32) rfl)))) (mvT hZ (hw _ (List.mem_of_getElem? (i := 32) rfl))) (mvT hZ (hw _ (List.mem_of_getElem? (i := 31) rfl))) (by decide) (StrChars.Road.eqW (W := 0) hZ hwe (kI := 4) (hw _ (List.mem_of_getElem? (i := 23) rfl)) (hp40.ext F71.2) (hp42.ext F71.2) (hp41.ext F71.2) (hp43.ext F71.2) (show StrChars.Road.CodA [] 0 (0 : Int32) [] from Or.inl ⟨rfl, by decide, by decide, by decide⟩) (by decide) (by decide) Ex68 Va68 Co68 Ar68 (show StrChars.Road.CodA [77, 83, 72] 0 (3 : Int32) [(.int (77 : Int32)), (.int (83 : Int32)), (.int (72 : Int32))] from Or.inl ⟨rfl, by decide, by decide, by decide⟩) (by decide) (by decide) (hp0.ext F71.2) hcp (by decide) (by decide)) q70a q70c (g := (mkF m 28 #[.val (.int p0), .val (.int (5 : Int32)), .val (.ref e5), .val (.int (0 : Int32)), .val (.ref s5), .unset] [(.ref a68), (.ref s5)])) rfl (by rw [hml]; rfl) (Steps.refl _) (argsL := [(.ref a68)]) (rest := []) (lenOf pd__Ljava_lang_Object__Z rfl) rfl (by show 2 * 0 + _ ≤ _; exact Nat.le_of_eq rfl) (hb hby at_28) (fun _ _ => ⟨rfl, eT68, (by decide : 2 + 0 ≤ room_1.cells), (by decide : 16 + 0 ≤ room_1.slots)⟩)
    dsimp only [Pt.U, Pt.locs, Pt.cells, Pt.slots] at X70 l70 y70 z70 st70 hQ70
    subst l70 y70 z70
    obtain ⟨hv70, rfl, eq70⟩ := hQ70
    obtain rfl : v70 = some (.int (0 : Int32)) := hv70.elim (fun q => absurd q.2 (by decide)) And.left
    have N70 := Fr.app N67 (Fr.nil n0)
    refine ogoS st70 ?_
    show OWay p e below G T70 (mkF m 31 #[.val (.int p0), .val (.int (5 : Int32)), .val (.ref e5), .val (.int (0 : Int32)), .val (.ref s5), .unset] [(.int (0 : Int32))])
    refine ogo (fun _ z_ => XS.ifNo X70.here hx rfl (hb hby at_31) rfl ((if0 _ _).trans (teq rfl).2) z_) ?_
    show OWay p e below G T70 (mkF m 34 #[.val (.int p0), .val (.int (5 : Int32)), .val (.ref e5), .val (.int (0 : Int32)), .val (.ref s5), .unset] [])
    refine ogo (fun _ z_ => XS.aload X70.here hx rfl (hb hby at_34) rfl rfl z_) ?_
    show OWay p e below G T70 (mkF m 36 #[.val (.int p0), .val (.int (5 : Int32)), .val (.ref e5), .val (.int (0 : Int32)), .val (.ref s5), .unset] [(.ref s5)])
    obtain ⟨a72, T72, h72, k72, b72, kc72, X72, eT72, E72, hS72, hk72, hZ72, hown72, Ex72, Co72, Va72, Ar72, la72, lb72, IB72, st72⟩ := ldcSV (s := s) (vm0 := T68.vm) (Z := Z) (Ts := ["MSH"]) X70 hx hZ hown (hw _ (List.mem_of_getElem? (i := 49) rfl)) (own_wS hw) eq70 hS68 hk68 (by rw [hh0, ← hn0]; exact N70) (fun b cl q => by rw [hU0]; exact q) IB68 (by decide) hh51 hcw (vs := [(.int (70 : Int32)), (.int (72 : Int32)), (.int (83 : Int32))]) (z := (3 : Int32)) ⟨by decide, by decide⟩ (by decide) (by decide) (g := (mkF m 36 #[.val (.int p0), .val (.int (5 : Int32)), .val (.ref e5), .val (.int (0 : Int32)), .val (.ref s5), .unset] [(.ref s5)])) rfl (hb hby at_36) (n := 12) (by decide) (by decide) (by decide) (by decide)
    have hZ := hZ72
    have hown := hown72
    have K73 : Keep h0 h72 [] := K69.ext E72
    refine ogo st72 ?_
    show OWay p e below G T72 (mkF m 38 #[.val (.int p0), .val (.int (5 : Int32)), .val (.ref e5), .val (.int (0 : Int32)), .val (.ref s5), .unset] [(.ref a72), (.ref s5)])
    have F75 : Old Z n0 h72 := (F71.ext E72)
    have hwe : ∀ d ∈ StrChars.Road.wordsEq, d.before az Z = true := fun d hd => hw d ((by decide +kernel : ∀ d ∈ StrChars.Road.wordsEq, d ∈ tables_1) d hd)
    obtain ⟨cq74, kq74, q74a, q74b, q74c⟩ := isOf hZ eT72 (hp40.ext F75.2)
    obtain ⟨v74, _, ⟨T74, L74, k74, n74⟩, -, X74, ⟨Lc74, hQ74, l74, y74, z74⟩, st74⟩ := X72.virtualBack hx (y := (⟨"java/lang/String", "equals", "(Ljava/lang/Object;)Z"⟩ : MethodName)) (z := (⟨"java/lang/String", "equals", "(Ljava/lang/Object;)Z"⟩ : MethodName)) hown (mvT hZ (hw _ (List.mem_of_getElem? (i := 29) rfl))) (mvT hZ (hw _ (List.mem_of_getElem? (i := 30) rfl))) (notFace_of_selects (args := #[]) (mvT hZ (hw _ (List.mem_of_getElem? (i := 32) rfl)))) (mvT hZ (hw _ (List.mem_of_getElem? (i := 32) rfl))) (mvT hZ (hw _ (List.mem_of_getElem? (i := 31) rfl))) (by decide) (StrChars.Road.eqW (W := 0) hZ hwe (kI := 4) (hw _ (List.mem_of_getElem? (i := 23) rfl)) (hp40.ext F75.2) (hp42.ext F75.2) (hp41.ext F75.2) (hp43.ext F75.2) (show StrChars.Road.CodA [] 0 (0 : Int32) [] from Or.inl ⟨rfl, by decide, by decide, by decide⟩) (by decide) (by decide) Ex72 Va72 Co72 Ar72 (show StrChars.Road.CodA [70, 72, 83] 0 (3 : Int32) [(.int (70 : Int32)), (.int (72 : Int32)), (.int (83 : Int32))] from Or.inl ⟨rfl, by decide, by decide, by decide⟩) (by decide) (by decide) (hp0.ext F75.2) hcp (by decide) (by decide)) q74a q74c (g := (mkF m 38 #[.val (.int p0), .val (.int (5 : Int32)), .val (.ref e5), .val (.int (0 : Int32)), .val (.ref s5), .unset] [(.ref a72), (.ref s5)])) rfl (by rw [hml]; rfl) (Steps.refl _) (argsL := [(.ref a72)]) (rest := []) (lenOf pd__Ljava_lang_Object__Z rfl) rfl (by show 2 * 0 + _ ≤ _; exact Nat.le_of_eq rfl) (hb hby at_38) (fun _ _ => ⟨rfl, eT72, (by decide : 4 + 0 ≤ room_1.cells), (by decide : 32 + 0 ≤ room_1.slots)⟩)
    dsimp only [Pt.U, Pt.locs, Pt.cells, Pt.slots] at X74 l74 y74 z74 st74 hQ74
    subst l74 y74 z74
    obtain ⟨hv74, rfl, eq74⟩ := hQ74
    obtain rfl : v74 = some (.int (0 : Int32)) := hv74.elim (fun q => absurd q.2 (by decide)) And.left
    have N74 := Fr.app N70 (Fr.nil n0)
    refine ogoS st74 ?_
    show OWay p e below G T74 (mkF m 41 #[.val (.int p0), .val (.int (5 : Int32)), .val (.ref e5), .val (.int (0 : Int32)), .val (.ref s5), .unset] [(.int (0 : Int32))])
    refine ogo (fun _ z_ => XS.ifNo X74.here hx rfl (hb hby at_41) rfl ((if0 _ _).trans (teq rfl).2) z_) ?_
    show OWay p e below G T74 (mkF m 44 #[.val (.int p0), .val (.int (5 : Int32)), .val (.ref e5), .val (.int (0 : Int32)), .val (.ref s5), .unset] [])
    refine ogo (fun _ z_ => XS.aload X74.here hx rfl (hb hby at_44) rfl rfl z_) ?_
    show OWay p e below G T74 (mkF m 46 #[.val (.int p0), .val (.int (5 : Int32)), .val (.ref e5), .val (.int (0 : Int32)), .val (.ref s5), .unset] [(.ref s5)])
    obtain ⟨a76, T76, h76, k76, b76, kc76, X76, eT76, E76, hS76, hk76, hZ76, hown76, Ex76, Co76, Va76, Ar76, la76, lb76, IB76, st76⟩ := ldcSV (s := s) (vm0 := T72.vm) (Z := Z) (Ts := ["FHS", "MSH"]) X74 hx hZ hown (hw _ (List.mem_of_getElem? (i := 50) rfl)) (own_wS hw) eq74 hS72 hk72 (by rw [hh0, ← hn0]; exact N74) (fun b cl q => by rw [hU0]; exact q) IB72 (by decide) hh53 hcw (vs := [(.int (66 : Int32)), (.int (72 : Int32)), (.int (83 : Int32))]) (z := (3 : Int32)) ⟨by decide, by decide⟩ (by decide) (by decide) (g := (mkF m 46 #[.val (.int p0), .val (.int (5 : Int32)), .val (.ref e5), .val (.int (0 : Int32)), .val (.ref s5), .unset] [(.ref s5)])) rfl (hb hby at_46) (n := 12) (by decide) (by decide) (by decide) (by decide)
    have hZ := hZ76
    have hown := hown76
    have K77 : Keep h0 h76 [] := K73.ext E76
    refine ogo st76 ?_
    show OWay p e below G T76 (mkF m 48 #[.val (.int p0), .val (.int (5 : Int32)), .val (.ref e5), .val (.int (0 : Int32)), .val (.ref s5), .unset] [(.ref a76), (.ref s5)])
    have F79 : Old Z n0 h76 := (F75.ext E76)
    have hwe : ∀ d ∈ StrChars.Road.wordsEq, d.before az Z = true := fun d hd => hw d ((by decide +kernel : ∀ d ∈ StrChars.Road.wordsEq, d ∈ tables_1) d hd)
    obtain ⟨cq78, kq78, q78a, q78b, q78c⟩ := isOf hZ eT76 (hp40.ext F79.2)
    obtain ⟨v78, _, ⟨T78, L78, k78, n78⟩, -, X78, ⟨Lc78, hQ78, l78, y78, z78⟩, st78⟩ := X76.virtualBack hx (y := (⟨"java/lang/String", "equals", "(Ljava/lang/Object;)Z"⟩ : MethodName)) (z := (⟨"java/lang/String", "equals", "(Ljava/lang/Object;)Z"⟩ : MethodName)) hown (mvT hZ (hw _ (List.mem_of_getElem? (i := 29) rfl))) (mvT hZ (hw _ (List.mem_of_getElem? (i := 30) rfl))) (notFace_of_selects (args := #[]) (mvT hZ (hw _ (List.mem_of_getElem? (i := 32) rfl)))) (mvT hZ (hw _ (List.mem_of_getElem? (i := 32) rfl))) (mvT hZ (hw _ (List.mem_of_getElem? (i := 31) rfl))) (by decide) (StrChars.Road.eqW (W := 0) hZ hwe (kI := 4) (hw _ (List.mem_of_getElem? (i := 23) rfl)) (hp40.ext F79.2) (hp42.ext F79.2) (hp41.ext F79.2) (hp43.ext F79.2) (show StrChars.Road.CodA [] 0 (0 : Int32) [] from Or.inl ⟨rfl, by decide, by decide, by decide⟩) (by decide) (by decide) Ex76 Va76 Co76 Ar76 (show StrChars.Road.CodA [66, 72, 83] 0 (3 : Int32) [(.int (66 : Int32)), (.int (72 : Int32)), (.int (83 : Int32))] from Or.inl ⟨rfl, by decide, by decide, by decide⟩) (by decide) (by decide) (hp0.ext F79.2) hcp (by decide) (by decide)) q78a q78c (g := (mkF m 48 #[.val (.int p0), .val (.int (5 : Int32)), .val (.ref e5), .val (.int (0 : Int32)), .val (.ref s5), .unset] [(.ref a76), (.ref s5)])) rfl (by rw [hml]; rfl) (Steps.refl _) (argsL := [(.ref a76)]) (rest := []) (lenOf pd__Ljava_lang_Object__Z rfl) rfl (by show 2 * 0 + _ ≤ _; exact Nat.le_of_eq rfl) (hb hby at_48) (fun _ _ => ⟨rfl, eT76, (by decide : 6 + 0 ≤ room_1.cells), (by decide : 48 + 0 ≤ room_1.slots)⟩)
    dsimp only [Pt.U, Pt.locs, Pt.cells, Pt.slots] at X78 l78 y78 z78 st78 hQ78
    subst l78 y78 z78
    obtain ⟨hv78, rfl, eq78⟩ := hQ78
    obtain rfl : v78 = some (.int (0 : Int32)) := hv78.elim (fun q => absurd q.2 (by decide)) And.left
    have N78 := Fr.app N74 (Fr.nil n0)
    refine ogoS st78 ?_
    show OWay p e below G T78 (mkF m 51 #[.val (.int p0), .val (.int (5 : Int32)), .val (.ref e5), .val (.int (0 : Int32)), .val (.ref s5), .unset] [(.int (0 : Int32))])
    refine ogo (fun _ z_ => XS.ifYes X78.here hx rfl (pc0 := 51) (pc' := 58) rfl (hb hby at_51) rfl ((if0 _ _).trans (teq rfl).1) (by decide) (by decide) z_) ?_
    show OWay p e below G T78 (mkF m 58 #[.val (.int p0), .val (.int (5 : Int32)), .val (.ref e5), .val (.int (0 : Int32)), .val (.ref s5), .unset] [])
    refine ogo (fun _ z_ => XS.iconst X78.here hx rfl (hb hby at_58) z_) ?_
    show OWay p e below G T78 (mkF m 59 #[.val (.int p0), .val (.int (5 : Int32)), .val (.ref e5), .val (.int (0 : Int32)), .val (.ref s5), .unset] [(.int (0 : Int32))])
    refine ogo (fun _ z_ => XS.istore X78.here hx rfl (hb hby at_59) rfl (l' := #[.val (.int p0), .val (.int (5 : Int32)), .val (.ref e5), .val (.int (0 : Int32)), .val (.ref s5), .val (.int (0 : Int32))]) rfl z_) ?_
    show OWay p e below G T78 (mkF m 61 #[.val (.int p0), .val (.int (5 : Int32)), .val (.ref e5), .val (.int (0 : Int32)), .val (.ref s5), .val (.int (0 : Int32))] [])
    refine ogo (fun _ z_ => XS.iloadN X78.here hx rfl (hb hby at_61) rfl z_) ?_
    show OWay p e below G T78 (mkF m 62 #[.val (.int p0), .val (.int (5 : Int32)), .val (.ref e5), .val (.int (0 : Int32)), .val (.ref s5), .val (.int (0 : Int32))] [(.int (0 : Int32))])
    refine ogo (fun _ z_ => XS.iloadN X78.here hx rfl (hb hby at_62) rfl z_) ?_
    show OWay p e below G T78 (mkF m 63 #[.val (.int p0), .val (.int (5 : Int32)), .val (.ref e5), .val (.int (0 : Int32)), .val (.ref s5), .val (.int (0 : Int32))] [(.int (5 : Int32)), (.int (0 : Int32))])
    refine ogo (fun _ z_ => XS.iconst X78.here hx rfl (hb hby at_63) z_) ?_
    show OWay p e below G T78 (mkF m 64 #[.val (.int p0), .val (.int (5 : Int32)), .val (.ref e5), .val (.int (0 : Int32)), .val (.ref s5), .val (.int (0 : Int32))] [(.int (3 : Int32)), (.int (5 : Int32)), (.int (0 : Int32))])
    refine ogo (fun _ z_ => XS.icmpYes X78.here hx rfl (pc0 := 64) (pc' := 71) rfl (hb hby at_64) rfl (flt (by decide)).2.1 (by decide) (by decide) z_) ?_
    show OWay p e below G T78 (mkF m 71 #[.val (.int p0), .val (.int (5 : Int32)), .val (.ref e5), .val (.int (0 : Int32)), .val (.ref s5), .val (.int (0 : Int32))] [(.int (0 : Int32))])
    refine ogo (fun _ z_ => XS.iconst X78.here hx rfl (hb hby at_71) z_) ?_
    show OWay p e below G T78 (mkF m 72 #[.val (.int p0), .val (.int (5 : Int32)), .val (.ref e5), .val (.int (0 : Int32)), .val (.ref s5), .val (.int (0 : Int32))] [(.int (0 : Int32)), (.int (0 : Int32))])
    refine ogo (fun _ z_ => XS.icmpNo X78.here hx rfl (hb hby at_72) rfl (teq rfl).2 z_) ?_
    show OWay p e below G T78 (mkF m 75 #[.val (.int p0), .val (.int (5 : Int32)), .val (.ref e5), .val (.int (0 : Int32)), .val (.ref s5), .val (.int (0 : Int32))] [])
    refine ogo (fun _ z_ => XS.iloadN X78.here hx rfl (hb hby at_75) rfl z_) ?_
    show OWay p e below G T78 (mkF m 76 #[.val (.int p0), .val (.int (5 : Int32)), .val (.ref e5), .val (.int (0 : Int32)), .val (.ref s5), .val (.int (0 : Int32))] [(.int (0 : Int32))])
    refine ogo (fun _ z_ => XS.iload X78.here hx rfl (hb hby at_76) rfl z_) ?_
    show OWay p e below G T78 (mkF m 78 #[.val (.int p0), .val (.int (5 : Int32)), .val (.ref e5), .val (.int (0 : Int32)), .val (.ref s5), .val (.int (0 : Int32))] [(.int (0 : Int32)), (.int (0 : Int32))])
    refine ogo (fun _ z_ => XS.icmpNo X78.here hx rfl (hb hby at_78) rfl (teq rfl).2 z_) ?_
    show OWay p e below G T78 (mkF m 81 #[.val (.int p0), .val (.int (5 : Int32)), .val (.ref e5), .val (.int (0 : Int32)), .val (.ref s5), .val (.int (0 : Int32))] [])
    refine ogo (fun _ z_ => XS.iconst X78.here hx rfl (hb hby at_81) z_) ?_
    show OWay p e below G T78 (mkF m 82 #[.val (.int p0), .val (.int (5 : Int32)), .val (.ref e5), .val (.int (0 : Int32)), .val (.ref s5), .val (.int (0 : Int32))] [(.int (1 : Int32))])
    refine ogo (fun _ z_ => XS.goto X78.here hx rfl (pc0 := 82) (pc' := 86) rfl (hb hby at_82) (by decide) (by decide) z_) ?_
    show OWay p e below G T78 (mkF m 86 #[.val (.int p0), .val (.int (5 : Int32)), .val (.ref e5), .val (.int (0 : Int32)), .val (.ref s5), .val (.int (0 : Int32))] [(.int (1 : Int32))])
    subst hG
    refine wRetNW (s := s) (vm0 := T76.vm) X78 hx (t := .boolean) hret hlk (by simp) (hb hby at_86) (by decide) (by decide) hS76 hk76 eq78 ?_
    exact ⟨rfl, N78⟩
set_option maxRecDepth 65536 in
set_option maxHeartbeats 40000000 in
theorem comes_1 {Post : Tables → Env → Array Value → State → Outcome → State → Prop} (hpost : ∀ tb e args s v u, (limb_1_1.after args s (.returned v) u = true ∧ limb_1_2.after args s (.returned v) u = true ∧ True) → ReturnedEndW s (.returned v) u (Jvm.fieldLocs frame_1_writes args s ++ Jvm.arrayLocs frame_1_arrays args s ++ Jvm.staticLocs frame_1_statics s) 8 3136 → Post tb e args s (.returned v) u) :
    ArmFor flags0 classFile x code maxLocals ret World_1 tables_1 room_1 Calls_1 rest_1 Pre_1 Post := by
  intro l hfl _ _ p e ha hc hk s m args below hf hA hF happ hP
  obtain ⟨hcalls, hrest, hpre⟩ := hP
  obtain ⟨-, -, -, hnamed, -, -, -, hat⟩ := (Spec.applies_iff hf).mp happ
  obtain ⟨hg, hn⟩ := and_e (Cond.before_iff.mp (show (Jvm.Cond.and given_1 narrow_1).before args s = true from hpre))
  obtain ⟨g1, g2⟩ := and_e hg
  obtain ⟨w0, rfl⟩ : ∃ w0 : Value, args = #[w0] := by
    have hs : args.size = 1 := by simpa [Cond.value, given_1] using g1
    obtain ⟨L⟩ := args
    match L, hs with
    | [w0], _ => exact ⟨w0, rfl⟩
  have hw := fun d (hd : d ∈ tables_1) => atoms_spec (ws := Jvm.Cond.code x code maxLocals ret :: tables_1) hat d (List.mem_cons_of_mem _ hd)
  have hfit : Fit s := fun {y c} hc i hi => by
    obtain ⟨ha, rfl⟩ := Array.getElem?_eq_some_iff.mp hc
    have q := List.all_eq_true.mp ((Array.all_eq_true_iff_forall_mem.mp hF) _ (Array.getElem_mem ha)) i (List.mem_range.mpr hi)
    simpa [Array.getElem?_eq_getElem hi] using q
  obtain ⟨hsets, hown0⟩ := atoms_of _ (rest_1_c_eq ▸ (show rest_1_c.before _ s = true from hrest))
  have hr0 := Cond.before_iff.mp hown0
  obtain ⟨i0, ei0⟩ := is_v g2
  obtain rfl : w0 = (.int i0) := Option.some.inj ei0
  obtain ⟨m0, hn⟩ := and_e hn
  obtain ⟨m1, hn⟩ := and_e hn
  obtain ⟨m2, hn⟩ := and_e hn
  obtain ⟨m3, hn⟩ := and_e hn
  obtain ⟨m4, hn⟩ := and_e hn
  obtain ⟨m5, hn⟩ := and_e hn
  obtain ⟨m6, hn⟩ := and_e hn
  obtain ⟨m7, hn⟩ := and_e hn
  obtain ⟨m8, hn⟩ := and_e hn
  obtain ⟨m9, hn⟩ := and_e hn
  obtain ⟨m10, hn⟩ := and_e hn
  obtain ⟨m11, hn⟩ := and_e hn
  obtain ⟨m12, hn⟩ := and_e hn
  obtain ⟨m13, hn⟩ := and_e hn
  obtain ⟨m14, hn⟩ := and_e hn
  obtain ⟨m15, hn⟩ := and_e hn
  obtain ⟨m16, hn⟩ := and_e hn
  obtain ⟨m17, hn⟩ := and_e hn
  obtain ⟨m18, hn⟩ := and_e hn
  obtain ⟨m19, hn⟩ := and_e hn
  obtain ⟨m20, hn⟩ := and_e hn
  obtain ⟨m21, hn⟩ := and_e hn
  obtain ⟨m22, hn⟩ := and_e hn
  obtain ⟨m23, hn⟩ := and_e hn
  obtain ⟨m24, hn⟩ := and_e hn
  obtain ⟨m25, hn⟩ := and_e hn
  obtain ⟨m26, hn⟩ := and_e hn
  obtain ⟨m27, hn⟩ := and_e hn
  obtain ⟨m28, hn⟩ := and_e hn
  obtain ⟨m29, hn⟩ := and_e hn
  obtain ⟨m30, hn⟩ := and_e hn
  obtain ⟨m31, hn⟩ := and_e hn
  obtain ⟨m32, hn⟩ := and_e hn
  obtain ⟨m33, hn⟩ := and_e hn
  obtain ⟨m34, hn⟩ := and_e hn
  obtain ⟨m35, hn⟩ := and_e hn
  obtain ⟨m36, hn⟩ := and_e hn
  obtain ⟨m37, hn⟩ := and_e hn
  obtain ⟨m38, hn⟩ := and_e hn
  obtain ⟨m39, hn⟩ := and_e hn
  obtain ⟨m40, hn⟩ := and_e hn
  obtain ⟨m41, hn⟩ := and_e hn
  obtain ⟨m42, hn⟩ := and_e hn
  obtain ⟨m43, hn⟩ := and_e hn
  obtain ⟨m44, hn⟩ := and_e hn
  obtain ⟨m45, hn⟩ := and_e hn
  obtain ⟨m46, hn⟩ := and_e hn
  obtain ⟨m47, hn⟩ := and_e hn
  obtain ⟨m48, hn⟩ := and_e hn
  obtain ⟨m49, hn⟩ := and_e hn
  have m50 := hn
  have n3 := not_v (Cond.before_iff.mp (hsets _ (List.mem_of_getElem? (i := 2) rfl)))
  obtain ⟨iC, eC⟩ := is_v (Cond.before_iff.mp (hsets _ (List.mem_of_getElem? (i := 1) rfl)))
  have SC : Sta s s.heap "java/lang/String" "COMPACT_STRINGS" "Z" (.int iC) := Sta.start eC (Or.inl (hsets _ (List.mem_of_getElem? (i := 0) rfl)))
  have cC : ¬ (iC = (0 : Int32)) := gotF (Cond.eq_ints eC (Term.int_eval (0))) n3
  obtain ⟨e0, qe0⟩ := exa_v m0
  have Ee0 := Exa.start qe0 m0
  have St0 := Sta.start qe0 (Or.inr ⟨(hw _ (List.mem_of_getElem? (i := 6) rfl)), (hw _ (List.mem_of_getElem? (i := 7) rfl))⟩)
  obtain ⟨s0, qs0⟩ := exa_v m1
  have Es0 := Exa.start qs0 m1
  have Fi0 := own_fldr qe0 qs0
  have Fc0 := own_fld m2 qs0 (Term.int_eval _)
  obtain ⟨b0, qb0⟩ := arr_v m3
  have Fv0 := own_fldr qs0 qb0
  obtain ⟨cl0, hA0⟩ := Arr.start qb0 m3
  have Av0 := own_arv (vs := [.int (77 : Int32), .int (83 : Int32), .int (72 : Int32)]) (.int (0 : Int32)) hfit hA0 (own_len m4 qb0 hA0 (Term.int_eval _) (by decide)) (by decide) ⟨own_elem m5 qb0 hA0 (Term.int_eval _) (Term.int_eval _), own_elem m6 qb0 hA0 (Term.int_eval _) (Term.int_eval _), own_elem m7 qb0 hA0 (Term.int_eval _) (Term.int_eval _), trivial⟩
  have Fo0 := own_fld m10 qe0 (Term.int_eval _)
  obtain ⟨e1, qe1⟩ := exa_v m11
  have Ee1 := Exa.start qe1 m11
  have St1 := Sta.start qe1 (Or.inr ⟨(hw _ (List.mem_of_getElem? (i := 6) rfl)), (hw _ (List.mem_of_getElem? (i := 46) rfl))⟩)
  obtain ⟨s1, qs1⟩ := exa_v m28
  have Es1 := Exa.start qs1 m28
  have Fi1 := own_fldr qe1 qs1
  have Fc1 := own_fld m29 qs1 (Term.int_eval _)
  obtain ⟨b1, qb1⟩ := arr_v m30
  have Fv1 := own_fldr qs1 qb1
  obtain ⟨cl1, hA1⟩ := Arr.start qb1 m30
  have Av1 := own_arv (vs := [.int (70 : Int32), .int (72 : Int32), .int (83 : Int32)]) (.int (0 : Int32)) hfit hA1 (own_len m31 qb1 hA1 (Term.int_eval _) (by decide)) (by decide) ⟨own_elem m32 qb1 hA1 (Term.int_eval _) (Term.int_eval _), own_elem m33 qb1 hA1 (Term.int_eval _) (Term.int_eval _), own_elem m34 qb1 hA1 (Term.int_eval _) (Term.int_eval _), trivial⟩
  have Fo1 := own_fld m12 qe1 (Term.int_eval _)
  obtain ⟨e2, qe2⟩ := exa_v m13
  have Ee2 := Exa.start qe2 m13
  have St2 := Sta.start qe2 (Or.inr ⟨(hw _ (List.mem_of_getElem? (i := 6) rfl)), (hw _ (List.mem_of_getElem? (i := 48) rfl))⟩)
  obtain ⟨s2, qs2⟩ := exa_v m21
  have Es2 := Exa.start qs2 m21
  have Fi2 := own_fldr qe2 qs2
  have Fc2 := own_fld m22 qs2 (Term.int_eval _)
  obtain ⟨b2, qb2⟩ := arr_v m23
  have Fv2 := own_fldr qs2 qb2
  obtain ⟨cl2, hA2⟩ := Arr.start qb2 m23
  have Av2 := own_arv (vs := [.int (66 : Int32), .int (72 : Int32), .int (83 : Int32)]) (.int (0 : Int32)) hfit hA2 (own_len m24 qb2 hA2 (Term.int_eval _) (by decide)) (by decide) ⟨own_elem m25 qb2 hA2 (Term.int_eval _) (Term.int_eval _), own_elem m26 qb2 hA2 (Term.int_eval _) (Term.int_eval _), own_elem m27 qb2 hA2 (Term.int_eval _) (Term.int_eval _), trivial⟩
  have Fo2 := own_fld m14 qe2 (Term.int_eval _)
  obtain ⟨e3, qe3⟩ := exa_v m8
  have Ee3 := Exa.start qe3 m8
  have St3 := Sta.start qe3 (Or.inr ⟨(hw _ (List.mem_of_getElem? (i := 6) rfl)), (hw _ (List.mem_of_getElem? (i := 44) rfl))⟩)
  obtain ⟨s3, qs3⟩ := exa_v m15
  have Es3 := Exa.start qs3 m15
  have Fi3 := own_fldr qe3 qs3
  have Fc3 := own_fld m16 qs3 (Term.int_eval _)
  obtain ⟨b3, qb3⟩ := arr_v m17
  have Fv3 := own_fldr qs3 qb3
  obtain ⟨cl3, hA3⟩ := Arr.start qb3 m17
  have Av3 := own_arv (vs := [.int (66 : Int32), .int (84 : Int32), .int (83 : Int32)]) (.int (0 : Int32)) hfit hA3 (own_len m18 qb3 hA3 (Term.int_eval _) (by decide)) (by decide) ⟨own_elem m19 qb3 hA3 (Term.int_eval _) (Term.int_eval _), own_elem m20 qb3 hA3 (Term.int_eval _) (Term.int_eval _), own_elem m49 qb3 hA3 (Term.int_eval _) (Term.int_eval _), trivial⟩
  have Fo3 := own_fld m9 qe3 (Term.int_eval _)
  obtain ⟨e4, qe4⟩ := exa_v m41
  have Ee4 := Exa.start qe4 m41
  have St4 := Sta.start qe4 (Or.inr ⟨(hw _ (List.mem_of_getElem? (i := 6) rfl)), (hw _ (List.mem_of_getElem? (i := 56) rfl))⟩)
  obtain ⟨s4, qs4⟩ := exa_v m43
  have Es4 := Exa.start qs4 m43
  have Fi4 := own_fldr qe4 qs4
  have Fc4 := own_fld m44 qs4 (Term.int_eval _)
  obtain ⟨b4, qb4⟩ := arr_v m45
  have Fv4 := own_fldr qs4 qb4
  obtain ⟨cl4, hA4⟩ := Arr.start qb4 m45
  have Av4 := own_arv (vs := [.int (70 : Int32), .int (84 : Int32), .int (83 : Int32)]) (.int (0 : Int32)) hfit hA4 (own_len m46 qb4 hA4 (Term.int_eval _) (by decide)) (by decide) ⟨own_elem m47 qb4 hA4 (Term.int_eval _) (Term.int_eval _), own_elem m48 qb4 hA4 (Term.int_eval _) (Term.int_eval _), own_elem m50 qb4 hA4 (Term.int_eval _) (Term.int_eval _), trivial⟩
  have Fo4 := own_fld m42 qe4 (Term.int_eval _)
  obtain ⟨e5, qe5⟩ := exa_v m35
  have Ee5 := Exa.start qe5 m35
  have St5 := Sta.start qe5 (Or.inr ⟨(hw _ (List.mem_of_getElem? (i := 6) rfl)), (hw _ (List.mem_of_getElem? (i := 54) rfl))⟩)
  obtain ⟨s5, qs5⟩ := exa_v m37
  have Es5 := Exa.start qs5 m37
  have Fi5 := own_fldr qe5 qs5
  have Fc5 := own_fld m38 qs5 (Term.int_eval _)
  obtain ⟨b5, qb5⟩ := arr_v m39
  have Fv5 := own_fldr qs5 qb5
  obtain ⟨cl5, hA5⟩ := Arr.start qb5 m39
  have Av5 := own_arv (vs := []) (.int (0 : Int32)) hfit hA5 (own_len m40 qb5 hA5 (Term.int_eval _) (by decide)) (by decide) trivial
  have Fo5 := own_fld m36 qe5 (Term.int_eval _)
  have ne10 := Fld.ne Fo1 Fo0 (by decide)
  have ne20 := Fld.ne Fo2 Fo0 (by decide)
  have ne21 := Fld.ne Fo2 Fo1 (by decide)
  have ne30 := Fld.ne Fo3 Fo0 (by decide)
  have ne31 := Fld.ne Fo3 Fo1 (by decide)
  have ne32 := Fld.ne Fo3 Fo2 (by decide)
  have ne40 := Fld.ne Fo4 Fo0 (by decide)
  have ne41 := Fld.ne Fo4 Fo1 (by decide)
  have ne42 := Fld.ne Fo4 Fo2 (by decide)
  have ne50 := Fld.ne Fo5 Fo0 (by decide)
  have ne51 := Fld.ne Fo5 Fo1 (by decide)
  have ne52 := Fld.ne Fo5 Fo2 (by decide)
  obtain ⟨n, o, h1, h2, h3, _, L, rfl, ⟨rfl, N⟩, hq⟩ := law_c l s _ hw tables_1 i0 iC e0 s0 b0 _ e1 s1 b1 _ e2 s2 b2 _ e3 s3 b3 _ e4 s4 b4 _ e5 s5 b5 _ s.heap s.heap.size (Nat.le_refl _) SC (Old.start s) St0 Ee0 Fi0 Es0 Fc0 Fv0 Av0 St1 Ee1 Fi1 Es1 Fc1 Fv1 Av1 St2 Ee2 Fi2 Es2 Fc2 Fv2 Av2 St3 Ee3 Fi3 Es3 Fc3 Fv3 Av3 St4 Ee4 Fi4 Es4 Fc4 Fv4 Av4 St5 Ee5 Fi5 Es5 Fc5 Fv5 Av5 ne10 ne20 ne21 ne30 ne31 ne32 ne40 ne41 ne42 ne50 ne51 ne52 cC (hsets _ (List.mem_of_getElem? (i := 2) rfl)) rfl (hcalls.1 ("com/example/stockwire/stockwire/codec/PartOpensPinLaw", 43) (by simp [consts_1])) (hcalls.1 ("com/example/stockwire/stockwire/codec/PartOpensPinLaw", 51) (by simp [consts_1])) (hcalls.1 ("com/example/stockwire/stockwire/codec/PartOpensPinLaw", 53) (by simp [consts_1])) p e ha hc hk s m _ below hf ((Spec.applies_iff_loose hf).mp happ).1 ⟨rfl, rfl, rfl⟩ trivial
  refine ⟨n, _, h1, h2, h3, hpost _ _ _ _ _ _ ⟨Cond.after_iff.mpr rfl, Cond.after_iff.mpr (eq_i res_at (Term.int_eval (1)) rfl), trivial⟩ ⟨hq.1, hq.2.1, hq.2.2.1, (hq.2.2.2.sift fun y hy => Or.inr (N y hy)).mono (by decide) (by decide)⟩⟩
theorem main_1_1 : Claimed_1_1 := comes_1 fun _ _ _ _ _ _ h hF => ⟨h.1, hF⟩
theorem main_1_2 : Claimed_1_2 := comes_1 fun _ _ _ _ _ _ h hF => ⟨h.2.1, hF⟩
end Jvm.Pilot.@@N@@
namespace Jvm.Pilot.@@N@@
open Jvm Jvm.ClassFile Sem Op Lib Jvm.Free Jvm.Stand Jvm.Pilot.@@N@@.Jvm.D
/-! MADE BY PROGRAM (witnessworld.py) out of the Statement's table words and the real class files: 18 classes; the members and pool entries that the words name. The judged class is class 1, her method 2. -/
namespace start1
open Jvm.ClassFile
def u (s : String) : CpInfo := .utf8 (stringToUtf16 s)
/-- a pool by its gaps: so many unusable entries, then the entry; so many at the end -/
def gap : Nat → List CpInfo → List CpInfo
  | 0, r => r
  | n + 1, r => .unusable :: gap n r
def poolList (es : List (Nat × CpInfo)) (last : Nat) : List CpInfo := es.foldr (fun e r => gap e.1 (e.2 :: r)) (gap last [])
def pool (es : List (Nat × CpInfo)) (last : Nat) : Array CpInfo := ⟨poolList es last⟩
def fileOf (pool : Array CpInfo) (this : Nat) (attrs : Array Attribute := #[]) (ms : Array MethodInfo := #[]) (fl : Nat := 33) (sup : Nat := 0) (ifs : Array Nat := #[]) (fds : Array FieldInfo := #[]) : ClassFile where
  minorVersion := 0
  majorVersion := 65
  constantPool := pool
  accessFlags := fl
  thisClass := this
  superClass := sup
  interfaces := ifs
  fields := fds
  methods := ms
  attributes := attrs
def plain (name : String) (sup : Option ClassId) : Class where
  name := name
  kind := .ordinary
  loader := none
  accessFlags := 33
  super := sup
  interfaces := #[]
  cf := none
  fields := #[]
  methods := #[]
  instanceTypes := #[]
  staticTypes := #[]
  resolved := #[]
  callSites := []
  init := .initialized
  statics := none
  mirror := none

def pool0 : Array CpInfo := pool [(5, u "<init>"), (0, u "()V"), (1, .class_ 10), (1, u "java/lang/Object")] 113

def k0m0 : Method := { name := "<init>", desc := "()V", sig := { parameters := [], returnType := none }, accessFlags := 1, code := none }
/-- java/lang/Object -/
def k0 : Class := { plain "java/lang/Object" none with
  accessFlags := 33
  interfaces := #[]
  cf := some (fileOf pool0 8 #[] #[{ accessFlags := 1, nameIndex := 5, descriptorIndex := 6, attributes := #[] }] 33 0 #[] #[])
  fields := #[]
  methods := #[k0m0]
  instanceTypes := #[]
  staticTypes := #[]
  resolved := Array.replicate 124 none
  statics := none }

def pool1 : Array CpInfo := pool [(2, .class_ 4), (1, u "java/lang/Object"), (0, u "<init>"), (0, u "()V"), (0, .fieldref 8 9), (0, .class_ 10), (0, .nameAndType 11 12), (0, u "com/example/stockwire/stockwire/codec/Envelope$Part"), (0, u "MESSAGE_HEADER"), (0, u "Lcom/example/stockwire/stockwire/codec/Envelope$Part;"), (0, .fieldref 8 14), (0, .nameAndType 15 12), (0, u "FILE_HEADER"), (0, .fieldref 8 17), (0, .nameAndType 18 12), (0, u "BATCH_HEADER"), (0, .fieldref 8 20), (0, .nameAndType 21 12), (0, u "BATCH_TRAILER"), (0, .fieldref 8 23), (0, .nameAndType 24 12), (0, u "FILE_TRAILER"), (0, .fieldref 8 26), (0, .nameAndType 27 12), (0, u "SEGMENT"), (0, .integer 2147483647), (0, .methodref 30 31), (0, .class_ 32), (0, .nameAndType 33 34), (0, u "com/example/stockwire/stockwire/codec/PartOpensPinLaw"), (0, u "pick"), (0, u "(I)Lcom/example/stockwire/stockwire/codec/Envelope$Part;"), (0, .methodref 8 36), (0, .nameAndType 37 38), (0, u "opens"), (0, u "()Z"), (0, .methodref 8 40), (0, .nameAndType 41 42), (0, u "id"), (0, u "()Ljava/lang/String;"), (0, .string 44), (0, u "MSH"), (0, .methodref 46 47), (0, .class_ 48), (0, .nameAndType 49 50), (0, u "java/lang/String"), (0, u "equals"), (0, u "(Ljava/lang/Object;)Z"), (0, .string 52), (0, u "FHS"), (0, .string 54), (0, u "BHS"), (3, u "law"), (0, u "(I)Z")] 6

def k1m0 : Method := { name := "<init>", desc := "()V", sig := { parameters := [], returnType := none }, accessFlags := 1, code := none }
def k1c1 : Code := { maxStack := 2, maxLocals := 1, code := method_2_code, exceptionTable := #[], attributes := #[] }
def k1m1 : Method := { name := "pick", desc := "(I)Lcom/example/stockwire/stockwire/codec/Envelope$Part;", sig := { parameters := [.int], returnType := some (.object "com/example/stockwire/stockwire/codec/Envelope$Part") }, accessFlags := 10, code := some k1c1 }
def k1c2 : Code := { maxStack := 3, maxLocals := 6, code := code, exceptionTable := #[], attributes := #[] }
def k1m2 : Method := { name := "law", desc := "(I)Z", sig := { parameters := [.int], returnType := some .boolean }, accessFlags := 9, code := some k1c2 }
/-- com/example/stockwire/stockwire/codec/PartOpensPinLaw -/
def k1 : Class := { plain "com/example/stockwire/stockwire/codec/PartOpensPinLaw" (some 0) with
  accessFlags := 49
  interfaces := #[]
  cf := some (fileOf pool1 30 #[] #[{ accessFlags := 1, nameIndex := 5, descriptorIndex := 6, attributes := #[] }, { accessFlags := 10, nameIndex := 33, descriptorIndex := 34, attributes := #[] }, { accessFlags := 9, nameIndex := 58, descriptorIndex := 59, attributes := #[] }] 49 2 #[] #[])
  fields := #[]
  methods := #[k1m0, k1m1, k1m2]
  instanceTypes := #[]
  staticTypes := #[]
  resolved := Array.replicate 66 none
  statics := none }

def pool2 : Array CpInfo := pool [(1, .class_ 2), (0, u "java/lang/constant/Constable"), (0, .class_ 4), (0, u "java/lang/Object")] 6

/-- java/lang/constant/Constable -/
def k2 : Class := { plain "java/lang/constant/Constable" (some 0) with
  accessFlags := 1537
  interfaces := #[]
  cf := some (fileOf pool2 1 #[] #[] 1537 3 #[] #[])
  fields := #[]
  methods := #[]
  instanceTypes := #[]
  staticTypes := #[]
  resolved := Array.replicate 11 none
  statics := none }

def pool3 : Array CpInfo := pool [(1, .class_ 2), (0, u "java/lang/Comparable"), (0, .class_ 4), (0, u "java/lang/Object")] 7

/-- java/lang/Comparable -/
def k3 : Class := { plain "java/lang/Comparable" (some 0) with
  accessFlags := 1537
  interfaces := #[]
  cf := some (fileOf pool3 1 #[] #[] 1537 3 #[] #[])
  fields := #[]
  methods := #[]
  instanceTypes := #[]
  staticTypes := #[]
  resolved := Array.replicate 12 none
  statics := none }

def pool4 : Array CpInfo := pool [(1, .class_ 2), (0, u "java/io/Serializable"), (0, .class_ 4), (0, u "java/lang/Object")] 2

/-- java/io/Serializable -/
def k4 : Class := { plain "java/io/Serializable" (some 0) with
  accessFlags := 1537
  interfaces := #[]
  cf := some (fileOf pool4 1 #[] #[] 1537 3 #[] #[])
  fields := #[]
  methods := #[]
  instanceTypes := #[]
  staticTypes := #[]
  resolved := Array.replicate 7 none
  statics := none }

def pool5 : Array CpInfo := pool [(2, .class_ 4), (1, u "java/lang/Enum"), (0, u "name"), (0, u "Ljava/lang/String;"), (2, u "ordinal"), (0, u "I"), (1, .class_ 14), (1, u "java/lang/Object"), (4, u "hash"), (86, .class_ 108), (1, u "java/lang/Enum$EnumDesc"), (2, .class_ 112), (0, u "java/lang/constant/Constable"), (0, .class_ 114), (0, u "java/lang/Comparable"), (0, .class_ 116), (0, u "java/io/Serializable")] 87

/-- java/lang/Enum -/
def k5 : Class := { plain "java/lang/Enum" (some 0) with
  accessFlags := 1057
  interfaces := #[2, 3, 4]
  cf := some (fileOf pool5 2 #[.nestMembers #[106]] #[] 1057 12 #[111, 113, 115] #[{ accessFlags := 18, nameIndex := 5, descriptorIndex := 6, attributes := #[] }, { accessFlags := 18, nameIndex := 9, descriptorIndex := 10, attributes := #[] }, { accessFlags := 2, nameIndex := 19, descriptorIndex := 10, attributes := #[] }])
  fields := #[{ name := "name", type := (.object "java/lang/String"), accessFlags := 18, slot := 0, constantValue := 0 }, { name := "ordinal", type := .int, accessFlags := 18, slot := 1, constantValue := 0 }, { name := "hash", type := .int, accessFlags := 2, slot := 2, constantValue := 0 }]
  methods := #[]
  instanceTypes := #[(.object "java/lang/String"), .int, .int]
  staticTypes := #[]
  resolved := Array.replicate 204 none
  statics := none }

def pool6 : Array CpInfo := pool [(1, .class_ 2), (0, u "com/example/stockwire/stockwire/codec/Envelope$Part"), (0, .fieldref 1 4), (0, .nameAndType 5 6), (0, u "MESSAGE_HEADER"), (0, u "Lcom/example/stockwire/stockwire/codec/Envelope$Part;"), (0, .fieldref 1 8), (0, .nameAndType 9 6), (0, u "FILE_HEADER"), (0, .fieldref 1 11), (0, .nameAndType 12 6), (0, u "BATCH_HEADER"), (2, u "BATCH_TRAILER"), (2, u "FILE_TRAILER"), (2, u "SEGMENT"), (2, u "$VALUES"), (0, u "[Lcom/example/stockwire/stockwire/codec/Envelope$Part;"), (6, .class_ 34), (1, u "java/lang/Enum"), (6, .fieldref 1 42), (0, .nameAndType 43 44), (0, u "id"), (0, u "Ljava/lang/String;"), (14, u "idBytes"), (0, u "[B"), (34, u "()Ljava/lang/String;"), (1, u "opens"), (0, u "()Z"), (7, .class_ 107), (0, u "com/example/stockwire/stockwire/codec/Envelope")] 2

def k6c0 : Code := { maxStack := 1, maxLocals := 1, code := prog_22_method_4_code, exceptionTable := #[], attributes := #[] }
def k6m0 : Method := { name := "id", desc := "()Ljava/lang/String;", sig := { parameters := [], returnType := some (.object "java/lang/String") }, accessFlags := 0, code := some k6c0 }
def k6c1 : Code := { maxStack := 2, maxLocals := 1, code := prog_22_method_6_code, exceptionTable := #[], attributes := #[] }
def k6m1 : Method := { name := "opens", desc := "()Z", sig := { parameters := [], returnType := some .boolean }, accessFlags := 0, code := some k6c1 }
/-- com/example/stockwire/stockwire/codec/Envelope$Part -/
def k6 : Class := { plain "com/example/stockwire/stockwire/codec/Envelope$Part" (some 5) with
  accessFlags := 16432
  interfaces := #[]
  cf := some (fileOf pool6 1 #[.nestHost 106] #[{ accessFlags := 0, nameIndex := 43, descriptorIndex := 95, attributes := #[] }, { accessFlags := 0, nameIndex := 97, descriptorIndex := 98, attributes := #[] }] 16432 32 #[] #[{ accessFlags := 16409, nameIndex := 5, descriptorIndex := 6, attributes := #[] }, { accessFlags := 16409, nameIndex := 9, descriptorIndex := 6, attributes := #[] }, { accessFlags := 16409, nameIndex := 12, descriptorIndex := 6, attributes := #[] }, { accessFlags := 16409, nameIndex := 15, descriptorIndex := 6, attributes := #[] }, { accessFlags := 16409, nameIndex := 18, descriptorIndex := 6, attributes := #[] }, { accessFlags := 16409, nameIndex := 21, descriptorIndex := 6, attributes := #[] }, { accessFlags := 18, nameIndex := 43, descriptorIndex := 44, attributes := #[] }, { accessFlags := 18, nameIndex := 59, descriptorIndex := 60, attributes := #[] }, { accessFlags := 4122, nameIndex := 24, descriptorIndex := 25, attributes := #[] }])
  fields := #[{ name := "MESSAGE_HEADER", type := (.object "com/example/stockwire/stockwire/codec/Envelope$Part"), accessFlags := 16409, slot := 0, constantValue := 0 }, { name := "FILE_HEADER", type := (.object "com/example/stockwire/stockwire/codec/Envelope$Part"), accessFlags := 16409, slot := 1, constantValue := 0 }, { name := "BATCH_HEADER", type := (.object "com/example/stockwire/stockwire/codec/Envelope$Part"), accessFlags := 16409, slot := 2, constantValue := 0 }, { name := "BATCH_TRAILER", type := (.object "com/example/stockwire/stockwire/codec/Envelope$Part"), accessFlags := 16409, slot := 3, constantValue := 0 }, { name := "FILE_TRAILER", type := (.object "com/example/stockwire/stockwire/codec/Envelope$Part"), accessFlags := 16409, slot := 4, constantValue := 0 }, { name := "SEGMENT", type := (.object "com/example/stockwire/stockwire/codec/Envelope$Part"), accessFlags := 16409, slot := 5, constantValue := 0 }, { name := "id", type := (.object "java/lang/String"), accessFlags := 18, slot := 3, constantValue := 0 }, { name := "idBytes", type := (.array .byte), accessFlags := 18, slot := 4, constantValue := 0 }, { name := "$VALUES", type := (.array (.object "com/example/stockwire/stockwire/codec/Envelope$Part")), accessFlags := 4122, slot := 6, constantValue := 0 }]
  methods := #[k6m0, k6m1]
  instanceTypes := #[(.object "java/lang/String"), .int, .int, (.object "java/lang/String"), (.array .byte)]
  staticTypes := #[(.object "com/example/stockwire/stockwire/codec/Envelope$Part"), (.object "com/example/stockwire/stockwire/codec/Envelope$Part"), (.object "com/example/stockwire/stockwire/codec/Envelope$Part"), (.object "com/example/stockwire/stockwire/codec/Envelope$Part"), (.object "com/example/stockwire/stockwire/codec/Envelope$Part"), (.object "com/example/stockwire/stockwire/codec/Envelope$Part"), (.array (.object "com/example/stockwire/stockwire/codec/Envelope$Part"))]
  resolved := Array.replicate 110 none
  statics := some 0 }

def pool7 : Array CpInfo := pool [(2, .class_ 4), (1, u "java/lang/CharSequence"), (42, .class_ 48), (0, u "java/lang/CharSequence$1CodePointIterator"), (10, .class_ 60), (0, u "java/lang/CharSequence$1CharIterator"), (5, .class_ 67), (0, u "java/lang/Object")] 63

/-- java/lang/CharSequence -/
def k7 : Class := { plain "java/lang/CharSequence" (some 0) with
  accessFlags := 1537
  interfaces := #[]
  cf := some (fileOf pool7 2 #[.nestMembers #[47, 59]] #[] 1537 66 #[] #[])
  fields := #[]
  methods := #[]
  instanceTypes := #[]
  staticTypes := #[]
  resolved := Array.replicate 131 none
  statics := none }

def pool8 : Array CpInfo := pool [(1, .class_ 2), (0, u "java/lang/constant/ConstantDesc"), (0, .class_ 4), (0, u "java/lang/Object")] 32

/-- java/lang/constant/ConstantDesc -/
def k8 : Class := { plain "java/lang/constant/ConstantDesc" (some 0) with
  accessFlags := 1537
  interfaces := #[]
  cf := some (fileOf pool8 1 #[] #[] 1537 3 #[] #[])
  fields := #[]
  methods := #[]
  instanceTypes := #[]
  staticTypes := #[]
  resolved := Array.replicate 37 none
  statics := none }

def pool9 : Array CpInfo := pool [(2, .class_ 4), (1, u "java/lang/Object"), (0, u "<init>"), (0, u "()V"), (2, .fieldref 10 11), (0, .class_ 12), (0, .nameAndType 13 14), (0, u "java/lang/String"), (0, u "value"), (0, u "[B"), (0, .fieldref 10 16), (0, .nameAndType 17 18), (0, u "coder"), (0, u "B"), (2, u "hash"), (0, u "I"), (2, u "hashIsZero"), (0, u "Z"), (11, .fieldref 10 39), (0, .nameAndType 40 26), (0, u "COMPACT_STRINGS"), (66, .class_ 109), (1, u "java/lang/StringLatin1"), (431, .methodref 107 542), (0, .nameAndType 543 544), (0, u "equals"), (0, u "([B[B)Z"), (28, u "(Ljava/lang/Object;)Z"), (1, .class_ 576), (0, u "java/lang/CharSequence"), (22, u "CASE_INSENSITIVE_ORDER"), (0, u "Ljava/util/Comparator;"), (500, u "serialPersistentFields"), (0, u "[Ljava/io/ObjectStreamField;"), (0, .class_ 1104), (0, u "java/lang/String$CaseInsensitiveComparator"), (1, .class_ 1107), (0, u "java/io/Serializable"), (0, .class_ 1109), (0, u "java/lang/Comparable"), (0, .class_ 1111), (0, u "java/lang/constant/Constable"), (0, .class_ 1113), (0, u "java/lang/constant/ConstantDesc"), (2, u "serialVersionUID"), (0, u "J"), (3, u "REPL"), (0, u "C"), (2, u "LATIN1"), (1, u "UTF16")] 323

def k9m0 : Method := { name := "<init>", desc := "()V", sig := { parameters := [], returnType := none }, accessFlags := 1, code := none }
def k9c1 : Code := { maxStack := 2, maxLocals := 3, code := jdk_42_method_66_code, exceptionTable := #[], attributes := #[] }
def k9m1 : Method := { name := "equals", desc := "(Ljava/lang/Object;)Z", sig := { parameters := [(.object "java/lang/Object")], returnType := some .boolean }, accessFlags := 1, code := some k9c1 }
/-- java/lang/String -/
def k9 : Class := { plain "java/lang/String" (some 0) with
  accessFlags := 49
  interfaces := #[4, 3, 7, 2, 8]
  cf := some (fileOf pool9 10 #[.nestMembers #[1103]] #[{ accessFlags := 1, nameIndex := 5, descriptorIndex := 6, attributes := #[] }, { accessFlags := 1, nameIndex := 543, descriptorIndex := 573, attributes := #[] }] 49 2 #[1106, 1108, 575, 1110, 1112] #[{ accessFlags := 18, nameIndex := 13, descriptorIndex := 14, attributes := #[] }, { accessFlags := 18, nameIndex := 17, descriptorIndex := 18, attributes := #[] }, { accessFlags := 2, nameIndex := 21, descriptorIndex := 22, attributes := #[] }, { accessFlags := 2, nameIndex := 25, descriptorIndex := 26, attributes := #[] }, { accessFlags := 26, nameIndex := 1116, descriptorIndex := 1117, attributes := #[] }, { accessFlags := 24, nameIndex := 40, descriptorIndex := 26, attributes := #[] }, { accessFlags := 26, nameIndex := 1101, descriptorIndex := 1102, attributes := #[] }, { accessFlags := 26, nameIndex := 1121, descriptorIndex := 1122, attributes := #[] }, { accessFlags := 25, nameIndex := 599, descriptorIndex := 600, attributes := #[] }, { accessFlags := 24, nameIndex := 1125, descriptorIndex := 18, attributes := #[] }, { accessFlags := 24, nameIndex := 1127, descriptorIndex := 18, attributes := #[] }])
  fields := #[{ name := "value", type := (.array .byte), accessFlags := 18, slot := 0, constantValue := 0 }, { name := "coder", type := .byte, accessFlags := 18, slot := 1, constantValue := 0 }, { name := "hash", type := .int, accessFlags := 2, slot := 2, constantValue := 0 }, { name := "hashIsZero", type := .boolean, accessFlags := 2, slot := 3, constantValue := 0 }, { name := "serialVersionUID", type := .long, accessFlags := 26, slot := 0, constantValue := 0 }, { name := "COMPACT_STRINGS", type := .boolean, accessFlags := 24, slot := 1, constantValue := 0 }, { name := "serialPersistentFields", type := (.array (.object "java/io/ObjectStreamField")), accessFlags := 26, slot := 2, constantValue := 0 }, { name := "REPL", type := .char, accessFlags := 26, slot := 3, constantValue := 0 }, { name := "CASE_INSENSITIVE_ORDER", type := (.object "java/util/Comparator"), accessFlags := 25, slot := 4, constantValue := 0 }, { name := "LATIN1", type := .byte, accessFlags := 24, slot := 5, constantValue := 0 }, { name := "UTF16", type := .byte, accessFlags := 24, slot := 6, constantValue := 0 }]
  methods := #[k9m0, k9m1]
  instanceTypes := #[(.array .byte), .byte, .int, .boolean]
  staticTypes := #[.long, .boolean, (.array (.object "java/io/ObjectStreamField")), .char, (.object "java/util/Comparator"), .byte, .byte]
  resolved := Array.replicate 1451 none
  statics := some 1 }

def pool10 : Array CpInfo := pool [(4, .class_ 6), (1, u "java/lang/Object"), (0, u "<init>"), (0, u "()V"), (5, .class_ 16), (1, u "java/lang/StringLatin1"), (104, u "$assertionsDisabled"), (0, u "Z"), (98, .class_ 223), (1, u "java/lang/StringLatin1$LinesSpliterator"), (57, u "equals"), (0, u "([B[B)Z"), (107, .class_ 391), (0, u "java/lang/StringLatin1$CharsSpliterator")] 3

def k10m0 : Method := { name := "<init>", desc := "()V", sig := { parameters := [], returnType := none }, accessFlags := 0, code := none }
def k10c1 : Code := { maxStack := 3, maxLocals := 3, code := jdk_43_method_13_code, exceptionTable := #[], attributes := #[] }
def k10m1 : Method := { name := "equals", desc := "([B[B)Z", sig := { parameters := [(.array .byte), (.array .byte)], returnType := some .boolean }, accessFlags := 9, code := some k10c1 }
/-- java/lang/StringLatin1 -/
def k10 : Class := { plain "java/lang/StringLatin1" (some 0) with
  accessFlags := 48
  interfaces := #[]
  cf := some (fileOf pool10 14 #[.nestMembers #[390, 221]] #[{ accessFlags := 0, nameIndex := 7, descriptorIndex := 8, attributes := #[] }, { accessFlags := 9, nameIndex := 281, descriptorIndex := 282, attributes := #[] }] 48 4 #[] #[{ accessFlags := 4120, nameIndex := 121, descriptorIndex := 122, attributes := #[] }])
  fields := #[{ name := "$assertionsDisabled", type := .boolean, accessFlags := 4120, slot := 0, constantValue := 0 }]
  methods := #[k10m0, k10m1]
  instanceTypes := #[]
  staticTypes := #[.boolean]
  resolved := Array.replicate 395 none
  statics := none }

def pool11 : Array CpInfo := pool [(2, .class_ 4), (1, u "java/lang/Object"), (0, u "<init>"), (0, u "()V"), (17, .class_ 26), (1, u "jdk/internal/util/Preconditions"), (28, .class_ 56), (0, u "jdk/internal/util/Preconditions$4"), (57, .class_ 115), (0, u "jdk/internal/util/Preconditions$1"), (7, u "SIOOBE_FORMATTER"), (0, u "Ljava/util/function/BiFunction;"), (0, .class_ 126), (0, u "jdk/internal/util/Preconditions$2"), (3, u "AIOOBE_FORMATTER"), (0, .class_ 132), (0, u "jdk/internal/util/Preconditions$3"), (3, u "IOOBE_FORMATTER")] 57

def k11m0 : Method := { name := "<init>", desc := "()V", sig := { parameters := [], returnType := none }, accessFlags := 1, code := none }
/-- jdk/internal/util/Preconditions -/
def k11 : Class := { plain "jdk/internal/util/Preconditions" (some 0) with
  accessFlags := 33
  interfaces := #[]
  cf := some (fileOf pool11 24 #[.nestMembers #[55, 131, 125, 114]] #[{ accessFlags := 1, nameIndex := 5, descriptorIndex := 6, attributes := #[] }] 33 2 #[] #[{ accessFlags := 25, nameIndex := 123, descriptorIndex := 124, attributes := #[] }, { accessFlags := 25, nameIndex := 130, descriptorIndex := 124, attributes := #[] }, { accessFlags := 25, nameIndex := 136, descriptorIndex := 124, attributes := #[] }])
  fields := #[{ name := "SIOOBE_FORMATTER", type := (.object "java/util/function/BiFunction"), accessFlags := 25, slot := 0, constantValue := 0 }, { name := "AIOOBE_FORMATTER", type := (.object "java/util/function/BiFunction"), accessFlags := 25, slot := 1, constantValue := 0 }, { name := "IOOBE_FORMATTER", type := (.object "java/util/function/BiFunction"), accessFlags := 25, slot := 2, constantValue := 0 }]
  methods := #[k11m0]
  instanceTypes := #[]
  staticTypes := #[(.object "java/util/function/BiFunction"), (.object "java/util/function/BiFunction"), (.object "java/util/function/BiFunction")]
  resolved := Array.replicate 194 none
  statics := some 2 }

def pool12 : Array CpInfo := pool [(9, u "<init>"), (6, .class_ 18), (1, u "java/lang/Object"), (0, u "()V"), (1, .class_ 23), (1, u "jdk/internal/util/ArraysSupport"), (0, u "LOG2_ARRAY_LONG_INDEX_SCALE"), (0, u "I"), (2, u "U"), (0, u "Ljdk/internal/misc/Unsafe;"), (8, u "BIG_ENDIAN"), (0, u "Z"), (8, u "LOG2_BYTE_BIT_SIZE"), (4, u "LOG2_ARRAY_INT_INDEX_SCALE"), (54, u "JLA"), (0, u "Ljdk/internal/access/JavaLangAccess;"), (11, u "LOG2_ARRAY_BOOLEAN_INDEX_SCALE"), (9, u "LOG2_ARRAY_BYTE_INDEX_SCALE"), (5, u "LOG2_ARRAY_CHAR_INDEX_SCALE"), (5, u "LOG2_ARRAY_SHORT_INDEX_SCALE"), (18, u "LOG2_ARRAY_FLOAT_INDEX_SCALE"), (24, u "LOG2_ARRAY_DOUBLE_INDEX_SCALE"), (89, u "T_BOOLEAN"), (2, u "T_CHAR"), (1, u "T_FLOAT"), (1, u "T_DOUBLE"), (1, u "T_BYTE"), (1, u "T_SHORT"), (1, u "T_INT"), (1, u "T_LONG"), (1, u "SOFT_MAX_ARRAY_LENGTH")] 83

def k12m0 : Method := { name := "<init>", desc := "()V", sig := { parameters := [], returnType := none }, accessFlags := 2, code := none }
/-- jdk/internal/util/ArraysSupport -/
def k12 : Class := { plain "jdk/internal/util/ArraysSupport" (some 0) with
  accessFlags := 33
  interfaces := #[]
  cf := some (fileOf pool12 21 #[] #[{ accessFlags := 2, nameIndex := 9, descriptorIndex := 19, attributes := #[] }] 33 16 #[] #[{ accessFlags := 24, nameIndex := 28, descriptorIndex := 29, attributes := #[] }, { accessFlags := 26, nameIndex := 38, descriptorIndex := 39, attributes := #[] }, { accessFlags := 25, nameIndex := 121, descriptorIndex := 25, attributes := #[] }, { accessFlags := 25, nameIndex := 131, descriptorIndex := 25, attributes := #[] }, { accessFlags := 25, nameIndex := 137, descriptorIndex := 25, attributes := #[] }, { accessFlags := 25, nameIndex := 143, descriptorIndex := 25, attributes := #[] }, { accessFlags := 25, nameIndex := 53, descriptorIndex := 25, attributes := #[] }, { accessFlags := 25, nameIndex := 24, descriptorIndex := 25, attributes := #[] }, { accessFlags := 25, nameIndex := 162, descriptorIndex := 25, attributes := #[] }, { accessFlags := 25, nameIndex := 187, descriptorIndex := 25, attributes := #[] }, { accessFlags := 26, nameIndex := 48, descriptorIndex := 25, attributes := #[] }, { accessFlags := 25, nameIndex := 277, descriptorIndex := 25, attributes := #[] }, { accessFlags := 25, nameIndex := 280, descriptorIndex := 25, attributes := #[] }, { accessFlags := 25, nameIndex := 282, descriptorIndex := 25, attributes := #[] }, { accessFlags := 25, nameIndex := 284, descriptorIndex := 25, attributes := #[] }, { accessFlags := 25, nameIndex := 286, descriptorIndex := 25, attributes := #[] }, { accessFlags := 25, nameIndex := 288, descriptorIndex := 25, attributes := #[] }, { accessFlags := 25, nameIndex := 290, descriptorIndex := 25, attributes := #[] }, { accessFlags := 25, nameIndex := 292, descriptorIndex := 25, attributes := #[] }, { accessFlags := 26, nameIndex := 108, descriptorIndex := 109, attributes := #[] }, { accessFlags := 25, nameIndex := 294, descriptorIndex := 25, attributes := #[] }])
  fields := #[{ name := "U", type := (.object "jdk/internal/misc/Unsafe"), accessFlags := 24, slot := 0, constantValue := 0 }, { name := "BIG_ENDIAN", type := .boolean, accessFlags := 26, slot := 1, constantValue := 0 }, { name := "LOG2_ARRAY_BOOLEAN_INDEX_SCALE", type := .int, accessFlags := 25, slot := 2, constantValue := 0 }, { name := "LOG2_ARRAY_BYTE_INDEX_SCALE", type := .int, accessFlags := 25, slot := 3, constantValue := 0 }, { name := "LOG2_ARRAY_CHAR_INDEX_SCALE", type := .int, accessFlags := 25, slot := 4, constantValue := 0 }, { name := "LOG2_ARRAY_SHORT_INDEX_SCALE", type := .int, accessFlags := 25, slot := 5, constantValue := 0 }, { name := "LOG2_ARRAY_INT_INDEX_SCALE", type := .int, accessFlags := 25, slot := 6, constantValue := 0 }, { name := "LOG2_ARRAY_LONG_INDEX_SCALE", type := .int, accessFlags := 25, slot := 7, constantValue := 0 }, { name := "LOG2_ARRAY_FLOAT_INDEX_SCALE", type := .int, accessFlags := 25, slot := 8, constantValue := 0 }, { name := "LOG2_ARRAY_DOUBLE_INDEX_SCALE", type := .int, accessFlags := 25, slot := 9, constantValue := 0 }, { name := "LOG2_BYTE_BIT_SIZE", type := .int, accessFlags := 26, slot := 10, constantValue := 0 }, { name := "T_BOOLEAN", type := .int, accessFlags := 25, slot := 11, constantValue := 0 }, { name := "T_CHAR", type := .int, accessFlags := 25, slot := 12, constantValue := 0 }, { name := "T_FLOAT", type := .int, accessFlags := 25, slot := 13, constantValue := 0 }, { name := "T_DOUBLE", type := .int, accessFlags := 25, slot := 14, constantValue := 0 }, { name := "T_BYTE", type := .int, accessFlags := 25, slot := 15, constantValue := 0 }, { name := "T_SHORT", type := .int, accessFlags := 25, slot := 16, constantValue := 0 }, { name := "T_INT", type := .int, accessFlags := 25, slot := 17, constantValue := 0 }, { name := "T_LONG", type := .int, accessFlags := 25, slot := 18, constantValue := 0 }, { name := "JLA", type := (.object "jdk/internal/access/JavaLangAccess"), accessFlags := 26, slot := 19, constantValue := 0 }, { name := "SOFT_MAX_ARRAY_LENGTH", type := .int, accessFlags := 25, slot := 20, constantValue := 0 }]
  methods := #[k12m0]
  instanceTypes := #[]
  staticTypes := #[(.object "jdk/internal/misc/Unsafe"), .boolean, .int, .int, .int, .int, .int, .int, .int, .int, .int, .int, .int, .int, .int, .int, .int, .int, .int, (.object "jdk/internal/access/JavaLangAccess"), .int]
  resolved := Array.replicate 378 none
  statics := none }

def pool13 : Array CpInfo := pool [(1, u "java/lang/Cloneable"), (0, .class_ 1), (0, u "java/lang/Object"), (0, .class_ 3)] 3

/-- java/lang/Cloneable -/
def k13 : Class := { plain "java/lang/Cloneable" (some 0) with
  accessFlags := 1537
  interfaces := #[]
  cf := some (fileOf pool13 2 #[] #[] 1537 4 #[] #[])
  fields := #[]
  methods := #[]
  instanceTypes := #[]
  staticTypes := #[]
  resolved := Array.replicate 8 none
  statics := none }

/-- the primitive byte -/
def k14 : Class := { plain "byte" none with kind := .primitive 'B', accessFlags := 0x411 }
/-- [B -/
def k15 : Class := { plain "[B" (some 0) with kind := .array 14 .byte, interfaces := #[13, 4], accessFlags := 1041 }

/-- the primitive int -/
def k16 : Class := { plain "int" none with kind := .primitive 'I', accessFlags := 0x411 }
/-- [I -/
def k17 : Class := { plain "[I" (some 0) with kind := .array 16 .int, interfaces := #[13, 4], accessFlags := 1041 }

def heap : Heap := #[{ cls := 6, slots := #[.ref 5, .ref 8, .ref 11, .ref 14, .ref 17, .ref 20, .null], vm := .statics 6 },
  { cls := 9, slots := #[.long 0, .int 1, .null, .int 0, .null, .int 0, .int 0], vm := .statics 9 },
  { cls := 11, slots := #[.null, .null, .null], vm := .statics 11 },
  { cls := 15, slots := #[.int 77, .int 83, .int 72], vm := .none },
  { cls := 9, slots := #[.ref 3, .int 0, .int 0, .int 0], vm := .none },
  { cls := 6, slots := #[.null, .int 0, .int 0, .ref 4, .null], vm := .none },
  { cls := 15, slots := #[.int 70, .int 72, .int 83], vm := .none },
  { cls := 9, slots := #[.ref 6, .int 0, .int 0, .int 0], vm := .none },
  { cls := 6, slots := #[.null, .int 1, .int 0, .ref 7, .null], vm := .none },
  { cls := 15, slots := #[.int 66, .int 72, .int 83], vm := .none },
  { cls := 9, slots := #[.ref 9, .int 0, .int 0, .int 0], vm := .none },
  { cls := 6, slots := #[.null, .int 2, .int 0, .ref 10, .null], vm := .none },
  { cls := 15, slots := #[.int 66, .int 84, .int 83], vm := .none },
  { cls := 9, slots := #[.ref 12, .int 0, .int 0, .int 0], vm := .none },
  { cls := 6, slots := #[.null, .int 3, .int 0, .ref 13, .null], vm := .none },
  { cls := 15, slots := #[.int 70, .int 84, .int 83], vm := .none },
  { cls := 9, slots := #[.ref 15, .int 0, .int 0, .int 0], vm := .none },
  { cls := 6, slots := #[.null, .int 4, .int 0, .ref 16, .null], vm := .none },
  { cls := 15, slots := #[], vm := .none },
  { cls := 9, slots := #[.ref 18, .int 0, .int 0, .int 0], vm := .none },
  { cls := 6, slots := #[.null, .int 5, .int 0, .ref 19, .null], vm := .none }]
def classes : Array Class := #[k0, k1, k2, k3, k4, k5, k6, k7, k8, k9, k10, k11, k12, k13, k14, k15, k16, k17]
def interned : List (Array UInt16 × Addr) := []
def slotsUsed : Nat := 86
def theMethod : MethodId := ⟨1, 2⟩
def args0 : Array Value := #[.int 1]
def aboutOver (below : List Frame) : State where
  vm := { classes := classes, interned := interned.toArray }
  heap := heap
  slotsUsed := slotsUsed
  threads := #[{ frames := .invoking theMethod args0 :: below }]
def below0 : List Frame := [.native { method := ⟨0, 0⟩, args := #[] }]
def about1 : State := aboutOver below0
def p0 : Program := .bare "" "" ""
def e0 : Env := launch0.env 0 0 0
theorem w_frames : about1.frames = Frame.invoking theMethod args0 :: below0 := rfl
set_option maxRecDepth 65536 in
theorem w_args : argsFit about1.vm theMethod args0 = true := by decide +kernel
set_option maxRecDepth 65536 in
theorem w_heap : heapFits about1 = true := by decide +kernel
set_option maxRecDepth 65536 in
theorem w_runnable : about1.curStatus? = some .runnable := by decide +kernel
set_option maxRecDepth 65536 in
theorem w_alone : about1.alone = true := by decide +kernel
set_option maxRecDepth 65536 in
theorem w_named : about1.methodNamed? x = some theMethod := by decide +kernel
set_option maxRecDepth 65536 in
theorem w_hears : about1.hears theMethod below0 = true := by decide +kernel
set_option maxRecDepth 65536 in
theorem w_ripe : about1.ripe theMethod args0 below0 = true := by decide +kernel
theorem w_running : about1.status = .running := rfl
set_option maxRecDepth 65536 in
theorem w_room : about1.hasRoom e0.platform room_1 = true :=
  launch0.hasRoom_least _ room_1 (by decide +kernel) (by decide +kernel) (by decide +kernel) (by decide +kernel) (by decide +kernel) (by decide +kernel)
theorem allAtoms_all (ts : List Jvm.Cond) (a : Array Jvm.Value) (st : Jvm.State) : (allAtoms ts).before a st = ts.all (fun c => c.before a st) := by
  induction ts with
  | nil => rfl
  | cons c t ih =>
    show (Jvm.Cond.and c (allAtoms t)).before a st = _
    rw [Jvm.Cond.before_and, ih, List.all_cons]
def words1 : List Jvm.Cond := Jvm.Cond.code x code maxLocals ret :: tables_1
/-- a 'code' word, met by the world's own term for the bytes: nothing is compared byte by byte -/
theorem code_word {y : MethodName} {bytes : ByteArray} {mx : Nat} {rt : Option FieldType} {a : Array Value} {s : State} {m : MethodId} {meth : Method} {c : Code} (h1 : s.methodNamed? y = some m) (h2 : s.vm.method? m = some meth) (h3 : meth.code = some c) (h4 : c.code = bytes)
    (h5 : (c.maxLocals == mx && c.exceptionTable.isEmpty && decide (c.maxStack ≤ mostOperands) && decide (meth.sig.returnType = rt) && !meth.locks && decide (parseMethodDescriptor y.desc = some meth.sig)) = true) : (Jvm.Cond.code y bytes mx rt).before a s = true := by
  simp only [Bool.and_eq_true, beq_iff_eq, Bool.not_eq_true', decide_eq_true_eq] at h5
  obtain ⟨⟨⟨⟨⟨g1, g2⟩, g3⟩, g4⟩, g5⟩, g6⟩ := h5
  simp [Cond.before, Cond.holds, Cond.value, h1, h2, h3, h4, g1, g2, g3, g4, g5, g6]
def isCode : Jvm.Cond → Bool
  | .code _ _ _ _ => true
  | _ => false
theorem all_split {L : List Jvm.Cond} {P : Jvm.Cond → Bool} (h1 : L.all (fun c => isCode c || P c) = true) (h2 : ∀ c ∈ L.filter isCode, P c = true) : L.all P = true := by
  refine List.all_eq_true.mpr fun c hc => ?_
  have h := List.all_eq_true.mp h1 c hc
  rcases Bool.eq_false_or_eq_true (isCode c) with hi | hi
  · exact h2 c (List.mem_filter.mpr ⟨hc, hi⟩)
  · simpa [hi] using h
set_option maxRecDepth 65536 in
theorem w_c0 : (Jvm.Cond.code x code maxLocals ret).before args0 about1 = true := code_word (m := ⟨1, 2⟩) (meth := k1m2) (c := k1c2) (by decide +kernel) rfl rfl rfl (by decide +kernel)
set_option maxRecDepth 65536 in
theorem w_c1 : (Jvm.Cond.code ({ cls := "com/example/stockwire/stockwire/codec/PartOpensPinLaw", name := "pick", desc := "(I)Lcom/example/stockwire/stockwire/codec/Envelope$Part;" } : Jvm.MethodName) method_2_code (1 : Nat) (Option.some (Jvm.ClassFile.FieldType.object "com/example/stockwire/stockwire/codec/Envelope$Part"))).before args0 about1 = true := code_word (m := ⟨1, 1⟩) (meth := k1m1) (c := k1c1) (by decide +kernel) rfl rfl rfl (by decide +kernel)
set_option maxRecDepth 65536 in
theorem w_c2 : (Jvm.Cond.code ({ cls := "com/example/stockwire/stockwire/codec/Envelope$Part", name := "opens", desc := "()Z" } : Jvm.MethodName) prog_22_method_6_code (1 : Nat) (Option.some Jvm.ClassFile.FieldType.boolean)).before args0 about1 = true := code_word (m := ⟨6, 1⟩) (meth := k6m1) (c := k6c1) (by decide +kernel) rfl rfl rfl (by decide +kernel)
set_option maxRecDepth 65536 in
theorem w_c3 : (Jvm.Cond.code ({ cls := "com/example/stockwire/stockwire/codec/Envelope$Part", name := "id", desc := "()Ljava/lang/String;" } : Jvm.MethodName) prog_22_method_4_code (1 : Nat) (Option.some (Jvm.ClassFile.FieldType.object "java/lang/String"))).before args0 about1 = true := code_word (m := ⟨6, 0⟩) (meth := k6m0) (c := k6c0) (by decide +kernel) rfl rfl rfl (by decide +kernel)
set_option maxRecDepth 65536 in
theorem w_c4 : (Jvm.Cond.code ({ cls := "java/lang/String", name := "equals", desc := "(Ljava/lang/Object;)Z" } : Jvm.MethodName) jdk_42_method_66_code (3 : Nat) (Option.some Jvm.ClassFile.FieldType.boolean)).before args0 about1 = true := code_word (m := ⟨9, 1⟩) (meth := k9m1) (c := k9c1) (by decide +kernel) rfl rfl rfl (by decide +kernel)
set_option maxRecDepth 65536 in
theorem w_c5 : (Jvm.Cond.code ({ cls := "java/lang/StringLatin1", name := "equals", desc := "([B[B)Z" } : Jvm.MethodName) jdk_43_method_13_code (3 : Nat) (Option.some Jvm.ClassFile.FieldType.boolean)).before args0 about1 = true := code_word (m := ⟨10, 1⟩) (meth := k10m1) (c := k10c1) (by decide +kernel) rfl rfl rfl (by decide +kernel)
def codes1 : List Jvm.Cond := [Jvm.Cond.code x code maxLocals ret, Jvm.Cond.code ({ cls := "com/example/stockwire/stockwire/codec/PartOpensPinLaw", name := "pick", desc := "(I)Lcom/example/stockwire/stockwire/codec/Envelope$Part;" } : Jvm.MethodName) method_2_code (1 : Nat) (Option.some (Jvm.ClassFile.FieldType.object "com/example/stockwire/stockwire/codec/Envelope$Part")), Jvm.Cond.code ({ cls := "com/example/stockwire/stockwire/codec/Envelope$Part", name := "opens", desc := "()Z" } : Jvm.MethodName) prog_22_method_6_code (1 : Nat) (Option.some Jvm.ClassFile.FieldType.boolean), Jvm.Cond.code ({ cls := "com/example/stockwire/stockwire/codec/Envelope$Part", name := "id", desc := "()Ljava/lang/String;" } : Jvm.MethodName) prog_22_method_4_code (1 : Nat) (Option.some (Jvm.ClassFile.FieldType.object "java/lang/String")), Jvm.Cond.code ({ cls := "java/lang/String", name := "equals", desc := "(Ljava/lang/Object;)Z" } : Jvm.MethodName) jdk_42_method_66_code (3 : Nat) (Option.some Jvm.ClassFile.FieldType.boolean), Jvm.Cond.code ({ cls := "java/lang/StringLatin1", name := "equals", desc := "([B[B)Z" } : Jvm.MethodName) jdk_43_method_13_code (3 : Nat) (Option.some Jvm.ClassFile.FieldType.boolean)]
set_option maxRecDepth 65536 in
theorem codes_eq : words1.filter isCode = codes1 := rfl
theorem w_codes : ∀ c ∈ words1.filter isCode, c.before args0 about1 = true := by
  rw [codes_eq]
  intro c hc
  simp only [codes1, List.mem_cons, List.not_mem_nil, or_false] at hc
  rcases hc with rfl | rfl | rfl | rfl | rfl | rfl
  · exact w_c0
  · exact w_c1
  · exact w_c2
  · exact w_c3
  · exact w_c4
  · exact w_c5
set_option maxRecDepth 65536 in
theorem w_t1 : (words1.take 24).all (fun c => isCode c || c.before args0 about1) = true := by decide +kernel
set_option maxRecDepth 65536 in
theorem w_t2 : ((words1.drop 24).take 24).all (fun c => isCode c || c.before args0 about1) = true := by decide +kernel
set_option maxRecDepth 65536 in
theorem w_t3 : ((words1.drop 24).drop 24).all (fun c => isCode c || c.before args0 about1) = true := by decide +kernel
theorem w_tables : (allAtoms (Jvm.Cond.code x code maxLocals ret :: tables_1)).before args0 about1 = true := by
  rw [allAtoms_all]
  show words1.all (fun c => c.before args0 about1) = true
  refine all_split ?_ w_codes
  rw [← List.take_append_drop 24 words1, List.all_append, w_t1, ← List.take_append_drop 24 (words1.drop 24), List.all_append, w_t2, w_t3]
  rfl
set_option maxRecDepth 65536 in
theorem w_rest : rest_1_c.before args0 about1 = true := by decide +kernel
set_option maxRecDepth 65536 in
theorem w_case : (Jvm.Cond.and given_1 narrow_1).before args0 about1 = true := by decide +kernel
set_option maxRecDepth 65536 in
theorem w_consts : constsHeld consts_1 about1 := Jvm.Lit.constsHeldB_iff.mp (by decide +kernel)
theorem w_applies : (headSpec (Jvm.Cond.code x code maxLocals ret :: tables_1) room_1).applies x e0.platform about1 = true :=
  (Spec.applies_iff w_frames).mpr ⟨w_running, w_runnable, w_alone, w_named, w_hears, w_ripe, w_room, w_tables⟩
theorem atStart : AtStart classFile x code maxLocals ret World_1 tables_1 room_1 Calls_1 rest_1 Pre_1 launch0 p0 e0 about1 theMethod args0 below0 :=
  ⟨lists_1, trivial, launch0.admits_env _ _ _, launch0.least_env, fairChoices_fair.cas, fairChoices_fair.clock, w_frames, w_args, w_heap, w_applies, ⟨w_consts, trivial⟩, w_rest, w_case⟩
end start1
theorem witness_1 : WitnessClaimed_1 := ⟨start1.p0, start1.e0, start1.about1, start1.theMethod, start1.args0, start1.below0, start1.atStart⟩
end Jvm.Pilot.@@N@@
